import Derived.Test.YbulkapxuPopTo
namespace Go.Proofs.Ybulkapxu
open Go.RowKit

theorem row_take {w w' : World} {N gs c m : Nat} {cs : St} (h : w.ownsRow N 47 8 (.slice (some ⟨gs, 0, none⟩) cs.length c) cs.length (flat cs)) (hb : w'.heap[gs]? = w.heap[gs]?) (hm : m ≤ cs.length) : w'.ownsRow N 47 8 (.slice (some ⟨gs, 0, none⟩) m c) m (flat (cs.take m)) := by
  rcases h.2 with ⟨h0, _⟩ | ⟨g, c', cur, hv, h1, h2, h3, h4, h5, h6⟩
  · cases h0
  · cases hv
    refine ⟨by rw [flat_len, List.length_take, Nat.min_eq_left hm], .inr ⟨gs, c, cur, rfl, h1, hb.trans h2, by omega, h4, h5, ?_⟩⟩
    rw [flat_take, ← h6, List.take_take, Nat.min_eq_left (by omega)]

/-- Behind 'popTo': the invariant again. -/
theorem Pop.inv {w w' : World} {N S gs c m : Nat} {cs : St} {τ : Nat → Nat} (hI : Inv w N S cs τ) (h0 : w.cell? ⟨S, 0, none⟩ = some (.slice (some ⟨gs, 0, none⟩) cs.length c)) (h : Pop w w' N S gs c m m cs τ) (hm : m ≤ cs.length) : Inv w' N S (cs.take m) τ := by
  obtain ⟨v, s1, s2, s3⟩ := hI.stack
  rw [h0] at s1
  cases s1
  have tgs := s3 gs rfl
  have lgs := (s2.lt gs rfl).2
  have hb : w'.heap[gs]? = w.heap[gs]? := h.chg.block gs lgs (by rw [tgs]; omega)
  have hlen := hI.len
  refine ⟨h.listed, h.ents, hI.wf.take m, ⟨_, h.st0, ?_, ?_⟩, by rw [List.length_take]; omega⟩
  · rw [List.length_take, Nat.min_eq_left hm]
    exact row_take s2 hb hm
  · intro g hg
    simp [Value.ownBlock] at hg
    subst hg
    exact tgs

set_option maxHeartbeats 1000000 in
theorem popTo_nil {w : World} {N S : Nat} {τ : Nat → Nat} (hI : Inv w N S [] τ) (h0 : w.cell? ⟨S, 0, none⟩ = some (.slice none 0 0)) :
    Calls Yba.prog 10 #[.pointer (some ⟨S, 0, none⟩), .int .i64 0] w fun e w' => (∃ v, e = .returned v) ∧ Inv w' N S [] τ ∧ w'.cell? ⟨S, 0, none⟩ = some (.slice none 0 0) ∧ Chg τ (fun t => t ≠ 9) w w' := by
  have hf := hI.listed.fz 0
  have tS := hI.listed.tS
  have HI := hide hI
  have HTS := hide tS
  clear hI tS
  go_enter Yba.func10, Yba.ntmps10
  go_wp2
  go_loopw [4] (fun a wr => a = .int .i64 (-1) ∧ wr = w) (fun _ _ => 0)
  case atStart => exact ⟨rfl, rfl⟩
  case round =>
    obtain ⟨rfl, rfl⟩ := hrel
    go_wp2
    obtain ⟨w1, hw1⟩ : ∃ w1, w1 = wr.setCell ⟨S, 0, none⟩ (.slice none 0 0) := ⟨_, rfl⟩
    rw [← hw1]
    have c1 : w1.cell? ⟨S, 0, none⟩ = some (.slice none 0 0) := by rw [hw1]; exact World.cell?_setCell_same _ _ _ h0
    have HW := hide hw1
    clear hw1 h0
    go_loopw [28] (fun _ wx => wx = w1) (fun _ _ => 0)
    case atStart => rfl
    case round =>
      obtain rfl := hrel
      go_wp2
      go_quiet (fail)
      go_wp2
      go_end0
      have hI := unhide HI
      have hLy : Listed wr N S [] τ := by rw [unhide HW]; exact hI.listed.setStack _
      refine ⟨⟨_, rfl⟩, ⟨hLy.past ⟨rfl, rfl, rfl, Nat.le_refl _, fun _ _ => rfl⟩, fun i e he => by simp at he, hI.wf, ⟨_, c1, ?_, ?_⟩, hI.len⟩, c1, ?_⟩
      · exact World.ownsRow_nil _ N 47 8
      · intro g hg
        simp [Value.ownBlock] at hg
      · refine Chg.drewN ?_ _
        rw [unhide HW]
        exact (Chg.refl _ _ _).setCell (fun _ => by show τ S ≠ 9; rw [unhide HTS]; omega) _

theorem row_of_owns {w : World} {N e z gs n c : Nat} {xs : List Value} (h : w.ownsRow N e z (.slice (some ⟨gs, 0, none⟩) n c) n xs) : ∃ f, w.rowIs gs e (c * z) f ∧ (∀ t, t < n * z → xs[t]? = some (f t)) ∧ N ≤ gs ∧ n ≤ c ∧ c ≤ maxLen := by
  rcases h.2 with ⟨h0, _⟩ | ⟨g, c', cur, hv, h1, h2, h3, h4, h5, h6⟩
  · cases h0
  · cases hv
    refine ⟨fun t => cur[t]?.getD undef, ⟨cur, h2, h5, fun t ht => ?_⟩, fun t ht => ?_, h1, h3, h4⟩
    · have hl : t < cur.size := by omega
      simp [hl]
    · have hle : n * z ≤ c * z := Nat.mul_le_mul_right _ h3
      have hl : t < cur.size := by omega
      rw [← h6, List.getElem?_take_of_lt ht, Array.getElem?_toList]
      simp [hl]

theorem owns_of_row {w : World} {N e z gs n c : Nat} {xs : List Value} {f : Nat → Value} (h : w.rowIs gs e (c * z) f) (hN : N ≤ gs) (hn : n ≤ c) (hc : c ≤ maxLen) (hl : xs.length = n * z) (hx : ∀ t, t < n * z → xs[t]? = some (f t)) : w.ownsRow N e z (.slice (some ⟨gs, 0, none⟩) n c) n xs := by
  obtain ⟨cur, h2, h5, h6⟩ := h
  refine ⟨hl, .inr ⟨gs, c, cur, rfl, hN, h2, hn, hc, h5, ?_⟩⟩
  have hle : n * z ≤ c * z := Nat.mul_le_mul_right _ hn
  apply List.ext_getElem?
  intro t
  by_cases ht : t < n * z
  · rw [List.getElem?_take_of_lt ht, Array.getElem?_toList, h6 t (by omega), hx t ht]
  · rw [List.getElem?_eq_none (Nat.le_trans (List.length_take_le _ _) (by omega)), List.getElem?_eq_none (by omega)]

/-- A place of the stack becomes a gap. -/
theorem row_gap {w : World} {N gs c i : Nat} {cs : St} (h : w.ownsRow N 47 8 (.slice (some ⟨gs, 0, none⟩) cs.length c) cs.length (flat cs)) (hi : i < cs.length) :
    (w.setCells gs (i * 8) (elCells none)).ownsRow N 47 8 (.slice (some ⟨gs, 0, none⟩) (cs.set i none).length c) (cs.set i none).length (flat (cs.set i none)) := by
  obtain ⟨f, hf, hx, h1, h2, h3⟩ := row_of_owns h
  rw [List.length_set]
  refine owns_of_row (rowIs_setCells (elCells none) (i * 8) w f hf) h1 h2 h3 (by rw [flat_len, List.length_set]) (fun t ht => ?_)
  obtain ⟨q, j, hj, rfl⟩ : ∃ q j, j < 8 ∧ t = 8 * q + j := ⟨t / 8, t % 8, by omega, by omega⟩
  have hq : q < cs.length := by omega
  by_cases e : q = i
  · subst e
    rw [flat_get (cs.set q none) q j none (by rw [List.getElem?_set]; simp [hq]) hj]
    rw [if_pos (by rw [elCells_len]; omega), show 8 * q + j - q * 8 = j by omega]
    rw [List.getElem?_eq_getElem (by rw [elCells_len]; exact hj)]
    rfl
  · have hne : ¬ (i * 8 ≤ 8 * q + j ∧ 8 * q + j < i * 8 + (elCells none).length) := by rw [elCells_len]; omega
    rw [if_neg hne]
    have hqo : (cs.set i none)[q]? = some cs[q] := by rw [List.getElem?_set, if_neg (Ne.symm e), List.getElem?_eq_getElem hq]
    rw [flat_get (cs.set i none) q j cs[q] hqo hj, ← flat_get cs q j cs[q] (List.getElem?_eq_getElem hq) hj]
    exact hx _ ht

theorem Wf.set {cs : St} (h : Wf cs) (i : Nat) : Wf (cs.set i none) := by
  intro k e he
  rw [List.getElem?_set] at he
  by_cases hik : i = k
  · subst hik
    by_cases hl : i < cs.length
    · simp [hl] at he
    · simp [hl] at he
  · rw [if_neg hik] at he
    exact h k e he

set_option maxRecDepth 20000 in
set_option maxHeartbeats 1000000 in
theorem remove_any {w : World} {N S gs c i : Nat} {cs : St} {τ : Nat → Nat} (hI : Inv w N S cs τ) (h0 : w.cell? ⟨S, 0, none⟩ = some (.slice (some ⟨gs, 0, none⟩) cs.length c)) (hi : i < cs.length) :
    Calls Yba.prog 8 #[.pointer (some ⟨S, 0, none⟩), .int .i64 (i : Int)] w fun e w' => (∃ v, e = .returned v) ∧ ∃ cs', Inv w' N S cs' τ ∧ w'.cell? ⟨S, 0, none⟩ = some (.slice (some ⟨gs, 0, none⟩) cs'.length c) ∧ Chg τ (fun t => t ≠ 9) w w' := by
  obtain ⟨n, hn⟩ : ∃ n, n = cs.length := ⟨_, rfl⟩
  have hp := popTo_any (i := i) hI h0 (by omega)
  obtain ⟨v, s1, s2, s3⟩ := hI.stack
  rw [h0] at s1
  cases s1
  have tgs := s3 gs rfl
  have lgs := (s2.lt gs rfl).2
  have hlen := hI.len
  obtain ⟨o, ho⟩ : ∃ o, cs[i]? = some o := ⟨_, List.getElem?_eq_getElem hi⟩
  have hcell : ∀ j, j < 8 → w.cell? ⟨gs, i * 8 + j, none⟩ = (elCells o)[j]? := by
    intro j hj
    rw [s2.cellAt (i * 8 + j) (by omega), Nat.mul_comm i 8, flat_get cs i j o ho hj]
  have hu := unlist_inv (i := i) (o := o) hI.listed hI.ents hI.wf h0 hi hcell ho tgs hI.len
  have HP := hide hp
  have HU := hide hu
  have HI := hide hI
  have HS2 := hide s2
  have HTG := hide tgs
  have HCELL := hide hcell
  have HO := hide ho
  have H0 := hide h0
  rw [← hn] at h0 hi hlen
  have HN := hide hn
  clear hp hu hI s2 s3 tgs hcell ho hn
  by_cases hlast : i + 1 = n
  · have hb : ((i : Int) == (n : Int) - 1) = true := by rw [beq_iff_eq]; omega
    clear hlast
    go_enter Yba.func8, Yba.ntmps8
    go_wp2_with fail
    refine (unhide HP).mono ?_
    rintro e w' ⟨⟨v, rfl⟩, m, h1, h2, h3, h4⟩
    have H4 := hide h4
    clear h2 h3 h4
    go_wp2
    refine bodyPost_ret (results_none rfl _ _ _) rfl ?_
    have hm : m ≤ cs.length := by rw [← unhide HN]; omega
    refine ⟨⟨_, rfl⟩, cs.take m, (unhide H4).inv (unhide HI) (unhide H0) hm, ?_, (unhide H4).chg.mono (fun t ht => ht.1)⟩
    rw [List.length_take, Nat.min_eq_left hm]
    exact (unhide H4).st0
  · have hb : ((i : Int) == (n : Int) - 1) = false := by rw [beq_eq_false_iff_ne]; omega
    clear hlast
    go_enter Yba.func8, Yba.ntmps8
    go_wp2_with fail
    refine (unhide HU).mono ?_
    rintro e w1 ⟨⟨v, rfl⟩, hUn⟩
    have y0 := hUn.st0.trans h0
    have hgsb : w1.heap[gs]? = w.heap[gs]? := hUn.chg.block gs lgs (by rw [unhide HTG]; omega)
    obtain ⟨cur, hcur⟩ : ∃ cur, w.heap[gs]? = some (.cells cur 47 (0, 0)) := by
      rcases (unhide HS2).2 with ⟨h, _⟩ | ⟨g, c', cur, hv, h1, h2, _⟩
      · cases h
      · cases hv; exact ⟨cur, h2⟩
    have hf : ∀ j, w1.frozen? ⟨gs, j, none⟩ = false := fun j => frozen_of (hgsb.trans hcur)
    have f0 := hf (i * 8)
    have f1 := hf (i * 8 + 1)
    have f2 := hf (i * 8 + 2)
    have f3 := hf (i * 8 + 3)
    have f4 := hf (i * 8 + 4)
    have f5 := hf (i * 8 + 5)
    have f6 := hf (i * 8 + 6)
    have f7 := hf (i * 8 + 7)
    obtain ⟨x0, hx0⟩ : ∃ x, w1.cell? ⟨gs, i * 8, none⟩ = some x := ⟨_, ((World.cell?_of_block (a := ⟨gs, i * 8 + 0, none⟩) hgsb).trans (unhide HCELL 0 (by omega))).trans (List.getElem?_eq_getElem (by rw [elCells_len]; omega))⟩
    obtain ⟨x1, hx1⟩ : ∃ x, w1.cell? ⟨gs, i * 8 + 1, none⟩ = some x := ⟨_, ((World.cell?_of_block (a := ⟨gs, i * 8 + 1, none⟩) hgsb).trans (unhide HCELL 1 (by omega))).trans (List.getElem?_eq_getElem (by rw [elCells_len]; omega))⟩
    obtain ⟨x2, hx2⟩ : ∃ x, w1.cell? ⟨gs, i * 8 + 2, none⟩ = some x := ⟨_, ((World.cell?_of_block (a := ⟨gs, i * 8 + 2, none⟩) hgsb).trans (unhide HCELL 2 (by omega))).trans (List.getElem?_eq_getElem (by rw [elCells_len]; omega))⟩
    obtain ⟨x3, hx3⟩ : ∃ x, w1.cell? ⟨gs, i * 8 + 3, none⟩ = some x := ⟨_, ((World.cell?_of_block (a := ⟨gs, i * 8 + 3, none⟩) hgsb).trans (unhide HCELL 3 (by omega))).trans (List.getElem?_eq_getElem (by rw [elCells_len]; omega))⟩
    obtain ⟨x4, hx4⟩ : ∃ x, w1.cell? ⟨gs, i * 8 + 4, none⟩ = some x := ⟨_, ((World.cell?_of_block (a := ⟨gs, i * 8 + 4, none⟩) hgsb).trans (unhide HCELL 4 (by omega))).trans (List.getElem?_eq_getElem (by rw [elCells_len]; omega))⟩
    obtain ⟨x5, hx5⟩ : ∃ x, w1.cell? ⟨gs, i * 8 + 5, none⟩ = some x := ⟨_, ((World.cell?_of_block (a := ⟨gs, i * 8 + 5, none⟩) hgsb).trans (unhide HCELL 5 (by omega))).trans (List.getElem?_eq_getElem (by rw [elCells_len]; omega))⟩
    obtain ⟨x6, hx6⟩ : ∃ x, w1.cell? ⟨gs, i * 8 + 6, none⟩ = some x := ⟨_, ((World.cell?_of_block (a := ⟨gs, i * 8 + 6, none⟩) hgsb).trans (unhide HCELL 6 (by omega))).trans (List.getElem?_eq_getElem (by rw [elCells_len]; omega))⟩
    obtain ⟨x7, hx7⟩ : ∃ x, w1.cell? ⟨gs, i * 8 + 7, none⟩ = some x := ⟨_, ((World.cell?_of_block (a := ⟨gs, i * 8 + 7, none⟩) hgsb).trans (unhide HCELL 7 (by omega))).trans (List.getElem?_eq_getElem (by rw [elCells_len]; omega))⟩
    have HUn := hide hUn
    have HGB := hide hgsb
    clear hUn hgsb hcur hf
    go_wp2
    go_end0
    have hUn := unhide HUn
    have hI := unhide HI
    have hic : i < cs.length := by rw [← unhide HN]; exact hi
    have hon : OnlyAt gs w1 (w1.setCells gs (i * 8) (elCells none)) := onlyAt_setCells _ _ _ (OnlyAt.refl gs w1)
    have hc2 : Chg τ (fun t => t = 2) w1 (w1.setCells gs (i * 8) (elCells none)) := ⟨hon.os, hon.tape, hon.output, Nat.le_of_eq hon.size.symm, fun k _ hk => hon.block k (by rintro rfl; exact hk (unhide HTG))⟩
    have hSg : S ≠ gs := by rintro rfl; have h1 := hI.listed.tS; have h2 := unhide HTG; omega
    have hst : w1.ownsRow N 47 8 (.slice (some ⟨gs, 0, none⟩) cs.length c) cs.length (flat cs) := ownsRow_same (unhide HS2) (fun g hg => by simp [Value.ownBlock] at hg; subst hg; exact unhide HGB)
    have key : ∃ cs', Inv (w1.setCells gs (i * 8) (elCells none)) N S cs' τ ∧ (w1.setCells gs (i * 8) (elCells none)).cell? ⟨S, 0, none⟩ = some (.slice (some ⟨gs, 0, none⟩) cs'.length c) ∧ Chg τ (fun t => t ≠ 9) w (w1.setCells gs (i * 8) (elCells none)) := by
      have hS0 : (w1.setCells gs (i * 8) (elCells none)).cell? ⟨S, 0, none⟩ = some (.slice (some ⟨gs, 0, none⟩) (cs.set i none).length c) := by
        rw [List.length_set, ← unhide HN]
        exact (World.cell?_of_block (a := ⟨S, 0, none⟩) (hon.block S hSg)).trans y0
      refine ⟨cs.set i none, ⟨hUn.listed.frame hc2 (fun t ht hl => by subst ht; unfold listTag at hl; omega) (fun _ _ => rfl), hUn.ents.frame (fun k hk ht => hc2.block k hk (by omega)) (fun _ _ _ => rfl), hI.wf.set i, ⟨_, hS0, row_gap hst hic, ?_⟩, by rw [List.length_set]; exact hI.len⟩, hS0, ?_⟩
      · intro g hg
        simp [Value.ownBlock] at hg
        subst hg
        exact unhide HTG
      · exact (hUn.chg.mono (fun t ht => ht.1)).trans (hc2.mono (fun t ht => by omega)) (fun _ _ => rfl)
    exact ⟨⟨_, rfl⟩, key⟩


end Go.Proofs.Ybulkapxu
