import Derived.Test.YbulkapxuInv
namespace Go.Proofs.Ybulkapxu
open Go.RowKit

theorem set_same {st : St} {i : Nat} (h : st[i]? = some none) : st.set i none = st := by
  apply List.ext_getElem?
  intro k
  rw [List.getElem?_set]
  by_cases e : i = k
  · subst e
    have hl := (List.getElem?_eq_some_iff.1 h).1
    rw [if_pos rfl, if_pos hl, h]
  · simp [e]

/-- What 'unlist' leaves, told of the open elements. -/
structure Unl (w w' : World) (N S i : Nat) (st : St) (o : Option El) (τ : Nat → Nat) : Prop where
  listed : Listed w' N S (st.set i none) τ
  ents : Ents w' (st.set i none) τ
  st0 : w'.cell? ⟨S, 0, none⟩ = w.cell? ⟨S, 0, none⟩
  shut : ∀ e : El, o = some e → w'.cell? ⟨e.en, 3, none⟩ = some (.int .i64 (-1))
  chg : Chg τ (fun t => t ≠ 9 ∧ t ≠ 2) w w'
  other : ∀ k, k < w.heap.size → τ k = 3 → (∀ e : El, o = some e → k ≠ e.en) → w'.heap[k]? = w.heap[k]?

theorem unlist_inv {w : World} {N S gs c n i : Nat} {st : St} {o : Option El} {τ : Nat → Nat} (hL : Listed w N S st τ) (hE : Ents w st τ) (hW : Wf st) (h0 : w.cell? ⟨S, 0, none⟩ = some (.slice (some ⟨gs, 0, none⟩) n c)) (hi : i < n)
    (hc : ∀ j, j < 8 → w.cell? ⟨gs, i * 8 + j, none⟩ = (elCells o)[j]?) (ho : st[i]? = some o) (tgs : τ gs = 2) (hl : st.length ≤ 1024) :
    Calls Yba.prog 16 #[.pointer (some ⟨S, 0, none⟩), .int .i64 (i : Int)] w fun e w' => (∃ v, e = .returned v) ∧ Unl w w' N S i st o τ := by
  cases o with
  | none =>
    refine (unlist_gap S gs n c i w h0 hi (hc 5 (by omega))).mono ?_
    rintro e w' ⟨hv, rfl⟩
    refine ⟨hv, ?_⟩
    have es := set_same ho
    exact ⟨by rw [es]; exact hL, by rw [es]; exact hE, rfl, fun e h => (by cases h), Chg.refl _ _ _, fun _ _ _ _ => rfl⟩
  | some el =>
    obtain ⟨w1, w2, w3⟩ := hW i el ho
    obtain ⟨n1, n2, n3⟩ := hE i el ho
    have hlen := World.block_lt_of_cell? _ _ n1
    obtain ⟨τ5, hτ5⟩ : ∃ τ5 : Nat → Nat, τ5 = fun k => if k = el.en then 5 else τ k := ⟨_, rfl⟩
    have t5 : τ5 el.en = 5 := by rw [hτ5]; simp
    have tk : ∀ k, k ≠ el.en → τ5 k = τ k := fun k hk => by rw [hτ5]; simp [hk]
    have hne : ∀ k t, τ k = t → t ≠ 3 → k ≠ el.en := by rintro k t hk ht rfl; omega
    have hL5 : Listed w N S st τ5 := hL.retag (fun k hk => by
      refine tk k (hne k _ rfl ?_)
      unfold listTag at hk
      omega)
    have hhit : ∀ p : El → Bool, p el = true → i ∈ pos p st := fun p hp => mem_pos.2 (by rw [hit_some ho]; exact hp)
    refine (unlist_any N S gs n c i el.ns el.nm el.kd el.en el.bk _ _ _ _ τ5 w hL5 h0 hi (by rw [tk gs (hne gs 2 tgs (by omega))]; exact tgs) (hc 0 (by omega)) (hc 1 (by omega)) (hc 3 (by omega)) (hc 4 (by omega)) (hc 5 (by omega)) (hc 7 (by omega))
      w1 w2 w3 n1 n2 t5 (fun b => pos_sorted _ _) (pos_sorted _ _) (fun b => Nat.le_trans (pos_len _ _) hl) (Nat.le_trans (pos_len _ _) hl) (hhit (nP el.ns el.nm) (by simp [nP])) (fun b _ hk => hhit (kP b) hk) (fun b => Nat.le_trans (pos_len _ _) hl)
      (fun _ => List.length_pos_of_mem (hhit (bP el.bk) (by simp [bP])))).mono ?_
    rintro e w' ⟨hv, hU⟩
    refine ⟨hv, ?_⟩
    have hset := listed_set ho hU.lists
    have hback : ∀ k, listTag (τ5 k) ∨ τ5 k = 9 → τ k = τ5 k := fun k hk => by
      by_cases e : k = el.en
      · rw [e, t5] at hk; unfold listTag at hk; omega
      · exact (tk k e).symm
    have hblk : ∀ k, k < w.heap.size → k ≠ el.en → (τ k = 2 ∨ τ k = 9 ∨ τ k = 3) → w'.heap[k]? = w.heap[k]? := fun k hk hke ht => hU.chg.block k hk (by rw [tk k hke]; omega)
    refine ⟨hset.retag hback, ?_, hU.st, fun e' he' => by cases he'; exact hU.at3, ?_, fun k hk ht hke => hblk k hk (hke el rfl) (.inr (.inr ht))⟩
    · intro k e' he'
      rw [List.getElem?_set] at he'
      by_cases hik : i = k
      · subst hik
        have hlt := (List.getElem?_eq_some_iff.1 ho).1
        simp [hlt] at he'
      · rw [if_neg hik] at he'
        obtain ⟨m1, m2, m3⟩ := hE k e' he'
        have hl' := World.block_lt_of_cell? _ _ m1
        have hen : e'.en ≠ el.en := by
          intro h
          rw [h, n1] at m1
          simp at m1
          omega
        have hb := hblk e'.en hl' hen (.inr (.inr m3))
        exact ⟨(World.cell?_of_block (a := ⟨e'.en, 3, none⟩) hb).trans m1, (World.frozen?_of_block (a := ⟨e'.en, 3, none⟩) hb).trans m2, m3⟩
    · refine ⟨hU.chg.os, hU.chg.tape, hU.chg.output, hU.chg.size, fun k hk ht => ?_⟩
      have h29 : τ k = 9 ∨ τ k = 2 := by omega
      refine hblk k hk ?_ (by omega)
      rintro rfl
      omega

end Go.Proofs.Ybulkapxu
