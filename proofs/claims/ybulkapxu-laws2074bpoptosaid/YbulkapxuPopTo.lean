import Derived.Test.YbulkapxuUnlistInv
import Derived.BigQuiet
namespace Go.Proofs.Ybulkapxu
open Go.RowKit

/-- The stack's own cell may turn. -/
theorem Lists.setStack {w : World} {N S : Nat} {K : Nat → List Nat} {M : Nat → Nat → List Nat} {C τ : Nat → Nat} (h : Lists w N S K M C τ) (v : Value) : Lists (w.setCell ⟨S, 0, none⟩ v) N S K M C τ := by
  have cy : ∀ i, i ≠ 0 → (w.setCell ⟨S, 0, none⟩ v).cell? ⟨S, i, none⟩ = w.cell? ⟨S, i, none⟩ := fun i hi => by
    rw [World.cell?_setCell_other _ _ _ _ (by intro e; simp at e <;> omega)]
  have hby : ∀ k, k ≠ S → (w.setCell ⟨S, 0, none⟩ v).heap[k]? = w.heap[k]? := fun k hk => Below.heap_setCell _ _ _ _ hk
  have hSk : ∀ g' t, τ g' = t → t ≠ 0 → g' ≠ S := by
    rintro g' t ht hne rfl
    rw [h.tS] at ht
    omega
  refine ⟨h.low, by rw [World.size_setCell]; exact h.le, h.tS, by rw [World.size_setCell]; exact h.ltS, fun i => by rw [World.frozen?_setCell]; exact h.fz i, fun b hb => ?_, fun a ha => ?_, ?_⟩
  · obtain ⟨v, h1, h2, h3⟩ := h.kind b hb
    exact ⟨v, (cy _ (by omega)).trans h1, ownsRow_same h2 (fun q hq => hby q (hSk q _ (h3 q hq) (by omega))), h3⟩
  · refine (h.name a ha).frame (fun _ _ => rfl) (cy _ (by omega)) (fun k hk ht => hby k ?_)
    rcases ht with ht | ⟨m, hm, ht⟩
    · exact hSk k _ ht (by omega)
    · exact hSk k _ ht (by omega)
  · obtain ⟨v, h1, h2, h3⟩ := h.opened
    exact ⟨v, (cy _ (by omega)).trans h1, ownsRow_same h2 (fun q hq => hby q (hSk q _ (h3 q hq) (by omega))), h3⟩

/-- The whole invariant: the stack's places are cs. -/
structure Inv (w : World) (N S : Nat) (cs : St) (τ : Nat → Nat) : Prop where
  listed : Listed w N S cs τ
  ents : Ents w cs τ
  wf : Wf cs
  stack : ∃ v, w.cell? ⟨S, 0, none⟩ = some v ∧ w.ownsRow N 47 8 v cs.length (flat cs) ∧ ∀ g, v.ownBlock = some g → τ g = 2
  len : cs.length ≤ 1024

/-- Within 'popTo': the elements from k on are closed. -/
structure Pop (w wr : World) (N S gs c k n : Nat) (cs : St) (τ : Nat → Nat) : Prop where
  listed : Listed wr N S (cs.take k) τ
  ents : Ents wr (cs.take k) τ
  st0 : wr.cell? ⟨S, 0, none⟩ = some (.slice (some ⟨gs, 0, none⟩) n c)
  shut : ∀ (q : Nat) (e : El), k ≤ q → cs[q]? = some (some e) → wr.cell? ⟨e.en, 3, none⟩ = some (.int .i64 (-1))
  chg : Chg τ (fun t => t ≠ 9 ∧ t ≠ 2) w wr

theorem take_set (cs : St) (k : Nat) (hk : k < cs.length) : (cs.take (k + 1)).set k none = cs.take k ++ [none] := by
  rw [List.take_add_one, List.getElem?_eq_getElem hk]
  simp only [Option.toList]
  rw [List.set_append_right _ _ (by rw [List.length_take]; omega), List.length_take, Nat.min_eq_left (by omega), Nat.sub_self]
  rfl

theorem Pop.step {w wr wy : World} {N S gs c k n : Nat} {cs : St} {τ : Nat → Nat} {o : Option El} (h : Pop w wr N S gs c (k + 1) n cs τ) (hinj : ∀ (q q' : Nat) (e e' : El), cs[q]? = some (some e) → cs[q']? = some (some e') → e.en = e'.en → q = q') (ht3 : ∀ (q : Nat) (e : El), cs[q]? = some (some e) → τ e.en = 3)
    (hk : k < cs.length) (ho : cs[k]? = some o) (hU : Unl wr wy N S k (cs.take (k + 1)) o τ) : Pop w wy N S gs c k n cs τ := by
  have hl := hU.listed
  rw [take_set cs k hk] at hl
  have hE := hU.ents
  rw [take_set cs k hk] at hE
  refine ⟨listed_snoc_none.1 hl, fun i e he => hE i e ?_, hU.st0.trans h.st0, fun q e hq he => ?_, h.chg.trans hU.chg (fun _ _ => rfl)⟩
  · have hi := (List.getElem?_eq_some_iff.1 he).1
    rw [List.getElem?_append_left hi]
    exact he
  · by_cases e1 : q = k
    · subst e1
      rw [ho] at he
      cases he
      exact hU.shut e rfl
    · have hc := h.shut q e (by omega) he
      have hlt := World.block_lt_of_cell? _ _ hc
      refine (World.cell?_of_block (a := ⟨e.en, 3, none⟩) (hU.other e.en hlt (ht3 q e he) ?_)).trans hc
      rintro e' rfl hen
      exact e1 (hinj q k e e' he ho hen)

def lenAt (w : World) (S : Nat) : Nat := match w.cell? ⟨S, 0, none⟩ with | some (.slice _ n _) => n | _ => 0

theorem Wf.take {cs : St} (h : Wf cs) (k : Nat) : Wf (cs.take k) := by
  intro i e he
  rw [List.getElem?_take] at he
  split at he
  · exact h i e he
  · cases he

theorem Pop.draw {w wr : World} {N S gs c k n : Nat} {cs : St} {τ : Nat → Nat} (h : Pop w wr N S gs c k n cs τ) (q : Nat) : Pop w (wr.drewN q) N S gs c k n cs τ :=
  ⟨h.listed.past ⟨rfl, rfl, rfl, Nat.le_refl _, fun _ _ => rfl⟩, h.ents, h.st0, h.shut, h.chg.drewN _⟩

theorem Pop.reslice {w wr : World} {N S gs c k n n' : Nat} {cs : St} {τ : Nat → Nat} (h : Pop w wr N S gs c k n cs τ) (hsh : ∀ (q : Nat) (e : El), cs[q]? = some (some e) → τ e.en = 3) : Pop w (wr.setCell ⟨S, 0, none⟩ (.slice (some ⟨gs, 0, none⟩) n' c)) N S gs c k n' cs τ := by
  have tS := h.listed.tS
  have hne : ∀ (q : Nat) (e : El), cs[q]? = some (some e) → e.en ≠ S := by
    rintro q e he rfl
    have := hsh q e he
    omega
  refine ⟨h.listed.setStack _, fun i e he => ?_, World.cell?_setCell_same _ _ _ h.st0, fun q e hq he => ?_, h.chg.setCell (fun _ => by show τ S ≠ 9 ∧ τ S ≠ 2; omega) _⟩
  · obtain ⟨h1, h2, h3⟩ := h.ents i e he
    have he' : cs[i]? = some (some e) := by
      rw [List.getElem?_take] at he
      split at he
      · exact he
      · cases he
    have hb := Below.heap_setCell wr ⟨S, 0, none⟩ (.slice (some ⟨gs, 0, none⟩) n' c) e.en (hne i e he')
    exact ⟨(World.cell?_of_block (a := ⟨e.en, 3, none⟩) hb).trans h1, (World.frozen?_of_block (a := ⟨e.en, 3, none⟩) hb).trans h2, h3⟩
  · have hb := Below.heap_setCell wr ⟨S, 0, none⟩ (.slice (some ⟨gs, 0, none⟩) n' c) e.en (hne q e he)
    exact (World.cell?_of_block (a := ⟨e.en, 3, none⟩) hb).trans (h.shut q e hq he)

theorem Pop.gap {w wr : World} {N S gs c k n : Nat} {cs : St} {τ : Nat → Nat} (h : Pop w wr N S gs c (k + 1) n cs τ) (hk : cs[k]? = some none) : Pop w wr N S gs c k n cs τ := by
  have e1 : cs.take (k + 1) = cs.take k ++ [none] := by rw [List.take_add_one, hk]; rfl
  have h1 := h.listed
  have h2 := h.ents
  rw [e1] at h1 h2
  refine ⟨listed_snoc_none.1 h1, fun i e he => h2 i e ?_, h.st0, fun q e hq he => h.shut q e ?_ he, h.chg⟩
  · have hi := (List.getElem?_eq_some_iff.1 he).1
    rw [List.getElem?_append_left hi]
    exact he
  · by_cases e2 : q = k
    · subst e2; rw [hk] at he; cases he
    · omega


set_option maxRecDepth 20000 in
set_option maxHeartbeats 2000000 in
theorem popTo_any {w : World} {N S gs c i : Nat} {cs : St} {τ : Nat → Nat} (hI : Inv w N S cs τ) (h0 : w.cell? ⟨S, 0, none⟩ = some (.slice (some ⟨gs, 0, none⟩) cs.length c)) (hi : i ≤ cs.length) :
    Calls Yba.prog 10 #[.pointer (some ⟨S, 0, none⟩), .int .i64 (i : Int)] w fun e w' => (∃ v, e = .returned v) ∧ ∃ m, m ≤ i ∧ (∀ q, m ≤ q → q < i → cs[q]? = some none) ∧ (m = 0 ∨ ∃ e : El, cs[m - 1]? = some (some e)) ∧ Pop w w' N S gs c m m cs τ := by
  obtain ⟨v, s1, s2, s3⟩ := hI.stack
  rw [h0] at s1
  cases s1
  have tgs := s3 gs rfl
  have hlen := hI.len
  obtain ⟨cur, hcur⟩ : ∃ cur, w.heap[gs]? = some (.cells cur 47 (0, 0)) := by
    rcases s2.2 with ⟨h, _⟩ | ⟨g, c', cur, hv, h1, h2, _⟩
    · cases h
    · cases hv; exact ⟨cur, h2⟩
  have hcap : cs.length ≤ c := by
    rcases s2.2 with ⟨h, _⟩ | ⟨g, c', cur, hv, h1, h2, h3, _⟩
    · cases h
    · cases hv; exact h3
  have lgs := lt_of_block hcur
  have hcell : ∀ (q j : Nat) (o : Option El), cs[q]? = some o → j < 8 → w.cell? ⟨gs, q * 8 + j, none⟩ = (elCells o)[j]? := by
    intro q j o hq hj
    have hql := (List.getElem?_eq_some_iff.1 hq).1
    rw [s2.cellAt (q * 8 + j) (by omega), Nat.mul_comm q 8, flat_get cs q j o hq hj]
  have hinj : ∀ (q q' : Nat) (e e' : El), cs[q]? = some (some e) → cs[q']? = some (some e') → e.en = e'.en → q = q' := by
    intro q q' e e' h1 h2 h3
    have a1 := (hI.ents q e h1).1
    have a2 := (hI.ents q' e' h2).1
    rw [h3, a2] at a1
    simp at a1
    omega
  have ht3 : ∀ (q : Nat) (e : El), cs[q]? = some (some e) → τ e.en = 3 := fun q e h => (hI.ents q e h).2.2
  have hP0 : Pop w w N S gs c cs.length cs.length cs τ := ⟨by rw [List.take_length]; exact hI.listed, by rw [List.take_length]; exact hI.ents, h0, fun q e hq he => by
    have := (List.getElem?_eq_some_iff.1 he).1
    omega, Chg.refl _ _ _⟩
  have HCELL := hide hcell
  have HINJ := hide hinj
  have HT3 := hide ht3
  have HP0 := hide hP0
  have HTG := hide tgs
  have HI := hide hI
  obtain ⟨n, hn⟩ : ∃ n, n = cs.length := ⟨_, rfl⟩
  rw [← hn] at h0 hi hlen hcap HP0
  have HN := hide hn
  clear hcell hinj ht3 hP0 tgs s2 s3 hcur hI hn
  go_enter Yba.func10, Yba.ntmps10
  go_wp2
  go_loopw [4] (fun a wr => ∃ (k : Nat) (x : Int), i ≤ k ∧ k ≤ n ∧ a = .int .i64 x ∧ x = (k : Int) - 1 ∧ Pop w wr N S gs c k n cs τ) (fun a _ => (intOf a + 1).toNat)
  case atStart => exact ⟨n, _, hi, Nat.le_refl _, rfl, rfl, unhide HP0⟩
  case round =>
    obtain ⟨k, x, hik, hkn, rfl, hx, hP⟩ := hrel
    by_cases hlt : i < k
    · obtain ⟨j, rfl⟩ : ∃ j, k = j + 1 := ⟨k - 1, by omega⟩
      obtain rfl : x = (j : Int) := by omega
      have hle : (i : Int) ≤ (j : Int) := by omega
      obtain ⟨o, ho⟩ : ∃ o, cs[j]? = some o := ⟨_, List.getElem?_eq_getElem (by rw [← unhide HN]; omega)⟩
      have hgsb : wr.heap[gs]? = w.heap[gs]? := hP.chg.block gs lgs (by rw [unhide HTG]; omega)
      have hu := unlist_inv (i := j) (o := o) hP.listed hP.ents ((unhide HI).wf.take _) hP.st0 (by omega) (fun q hq => (World.cell?_of_block (a := ⟨gs, j * 8 + q, none⟩) hgsb).trans (unhide HCELL j q o ho hq)) (by rw [List.getElem?_take, if_pos (by omega)]; exact ho) (unhide HTG) (by rw [List.length_take]; omega)
      have HU := hide hu
      have HP := hide hP
      have HO := hide ho
      clear hu hP hgsb ho hx
      go_wp2_with fail
      refine (unhide HU).mono ?_
      rintro e wy ⟨⟨v, rfl⟩, hUn⟩
      have HUn := hide hUn
      clear hUn
      go_wp2
      go_roundw
      case rel => exact ⟨j, _, by omega, by omega, rfl, rfl, (unhide HP).step (unhide HINJ) (unhide HT3) (by rw [← unhide HN]; omega) (unhide HO) (unhide HUn)⟩
      case measure => simp [intOf]
    · obtain rfl : k = i := by omega
      obtain rfl : x = (k : Int) - 1 := hx
      have y0 := hP.st0
      have yf := hP.listed.fz 0
      have hic : k ≤ c := by omega
      have HP := hide hP
      clear hP hlt
      go_wp2
      clear y0 yf HP0
      go_loopw [28] (fun _ wx => ∃ m, m ≤ k ∧ (∀ q, m ≤ q → q < k → cs[q]? = some none) ∧ Pop w wx N S gs c m m cs τ) (fun _ wx => lenAt wx S)
      case atStart => exact ⟨k, Nat.le_refl _, fun q h1 h2 => absurd h2 (by omega), (unhide HP).reslice (unhide HT3)⟩
      case round =>
        obtain ⟨m, hmk, hgap, hQ⟩ := hrel
        have z0 := hQ.st0
        have zf := hQ.listed.fz 0
        have hgsb : wr.heap[gs]? = w.heap[gs]? := hQ.chg.block gs lgs (by rw [unhide HTG]; omega)
        have hlenAt : lenAt wr S = m := by unfold lenAt; rw [z0]
        have HGAP := hide hgap
        have HQ := hide hQ
        have HLEN := hide hlenAt
        clear hgap hQ hlenAt
        cases m with
        | zero =>
          clear hgsb
          go_wp2
          go_quiet (fail)
          go_wp2
          go_end0
          exact ⟨⟨_, rfl⟩, 0, Nat.zero_le _, unhide HGAP, .inl rfl, (unhide HQ).draw _⟩
        | succ m =>
          obtain ⟨o, ho⟩ : ∃ o, cs[m]? = some o := ⟨_, List.getElem?_eq_getElem (by rw [← unhide HN]; omega)⟩
          have z5 := (World.cell?_of_block (a := ⟨gs, m * 8 + 5, none⟩) hgsb).trans (unhide HCELL m 5 o ho (by omega))
          have HO := hide ho
          have hmc : m ≤ c := by omega
          have hm1 : m < m + 1 := by omega
          clear hgsb ho
          cases o with
          | some e =>
            have z5' : wr.cell? ⟨gs, m * 8 + 5, none⟩ = some (.bool false) := z5
            clear z5
            go_wp2
            go_quiet (fail)
            go_wp2
            go_end0
            exact ⟨⟨_, rfl⟩, m + 1, hmk, unhide HGAP, .inr ⟨e, unhide HO⟩, (unhide HQ).draw _⟩
          | none =>
            have z5' : wr.cell? ⟨gs, m * 8 + 5, none⟩ = some (.bool true) := z5
            clear z5
            go_wp2
            go_quiet (fail)
            go_wp2
            go_region
            all_goals
              go_wp2
              refine ⟨⟨m, by omega, fun q h1 h2 => ?_, (((unhide HQ).draw (nq + 1)).gap (unhide HO)).reslice (unhide HT3)⟩, ?_⟩
              · by_cases e : q = m
                · rw [e]; exact unhide HO
                · exact unhide HGAP q (by omega) h2
              · have hnew : lenAt ((wr.drewN (nq + 1)).setCell ⟨S, 0, none⟩ (.slice (some ⟨gs, 0, none⟩) m c)) S = m := by
                  unfold lenAt
                  rw [World.cell?_setCell_same _ _ _ (show (wr.drewN (nq + 1)).cell? ⟨S, 0, none⟩ = _ from z0)]
                rw [hnew, unhide HLEN]
                omega

end Go.Proofs.Ybulkapxu
