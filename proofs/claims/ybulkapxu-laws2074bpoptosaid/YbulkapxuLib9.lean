import Derived.Test.YbulkapxuPushInv
namespace Go.Proofs.Ybulkapxu
open Go.RowKit

set_option maxHeartbeats 1000000 in
theorem clone_el (N n c : Nat) (a0 : Option Addr) (cs : St) (w : World) (hn : n ≤ 1024) (hrow : w.ownsRow N 47 8 (.slice a0 n c) n (flat cs)) :
    Calls Yba.prog 9 #[.slice a0 n c] w fun e w' => ∃ a' c', e = .returned (.slice a' n c') ∧ w'.ownsRow w.heap.size 47 8 (.slice a' n c') n (flat cs) ∧ Below w.heap.size w w' := by
  rcases hrow.2 with ⟨h, h0⟩ | ⟨g, c', cur, hv, h1, h2, h3, h4, h5, h6⟩
  · cases h
    have hfl : flat cs = [] := by have := hrow.1; exact List.length_eq_zero_iff.1 (by omega)
    have hnil := fun wx => Lib.run_eql_slice_nil (P := Yba.prog) wx 26 47 none 0 0 0 0 Yba.underlying26
    rw [hfl]
    clear hrow
    go_enter Yba.func9, Yba.ntmps9
    go_wp2
    go_ret
    exact ⟨none, 0, rfl, World.ownsRow_nil _ _ _ _, Below.refl _ _⟩
  · cases hv
    obtain ⟨i0, hi0, hz0, hz1, hz2⟩ := info_parts Yba.info47
    have hnil := fun wx => Lib.run_eql_slice_nil (P := Yba.prog) wx 26 47 (some ⟨g, 0, none⟩) n c 0 0 Yba.underlying26
    have hl := hrow.1
    have hcells : ∀ o, ∀ j u, (flat cs)[j]? = some u → (w.alloc o).cell? ((⟨g, 0, none⟩ : Addr).add j) = some u := fun o => (hrow.alloc o).cells (g := g) rfl
    have HC := hide hcells
    have HL := hide hl
    clear hcells hl hrow h1 h2 h3 h4 h5 h6
    go_enter Yba.func9, Yba.ntmps9
    go_wp2_with (at_builtin; refine wpList_append_own _ rfl _ _ 26 rfl w.heap.size 47 i0 (.agg #[.int .u8 0, .string ⟨#[]⟩, .int .u8 0, .int .u16 0, .pointer none, .bool false, .string ⟨#[]⟩, .int .i64 0]) 8 72 Yba.underlying26 hi0 hz0 hz1 hz2 rfl (by decide) _ 0 [] rfl (World.ownsRow_lit w #[] 0 (Nat.le_refl _) (by decide) rfl) ⟨g, 0, none⟩ n c (flat cs) rfl (unhide HL) (unhide HC _) (flat_oneCell cs) (by unfold maxLen; omega) (by omega) (by simp) ?_)
    intro v' w1 hown hgrow hnz
    obtain ⟨a', c', hv⟩ : ∃ a' c', v' = .slice a' n c' := by
      rcases hown.2 with ⟨h, h2⟩ | ⟨gb, cb, cur, h, _⟩
      · have h3 : n = 0 := by omega
        exact ⟨none, 0, by rw [h, h3]⟩
      · exact ⟨some ⟨gb, 0, none⟩, cb, h⟩
    subst hv
    have hown2 : w1.ownsRow w.heap.size 47 8 (.slice a' n c') n (flat cs) := by simpa using hown
    have hbel : Below w.heap.size w w1 := ((Below.refl _ _).alloc (Nat.le_refl _) _).grown hgrow (by simp) (by intro k hk; simp [Value.ownBlock] at hk; omega)
    have HO := hide hown2
    have HB := hide hbel
    clear hown hgrow hnz hown2 hbel
    go_wp2
    go_ret
    exact ⟨a', c', rfl, unhide HO, unhide HB⟩

/-- Cells of a row, where it has any. -/
theorem row_cell {w : World} {N n c : Nat} {a : Option Addr} {l : List Nat} (h : w.ownsRow N 3 1 (.slice a n c) n (ints l)) (hl : l.length = n) (t : Nat) (ht : t < n) : ∃ g, a = some ⟨g, 0, none⟩ ∧ w.cell? ⟨g, t, none⟩ = some (.int .i64 ((l.getD t 0 : Nat) : Int)) := by
  rcases h.2 with ⟨h0, h1⟩ | ⟨g, c', cur, hv, _⟩
  · cases h0; omega
  · cases hv
    refine ⟨g, rfl, ?_⟩
    rw [h.cellAt t (by omega)]
    unfold ints
    rw [List.getElem?_map, List.getElem?_eq_getElem (by omega : t < l.length), List.getD_eq_getElem?_getD, List.getElem?_eq_getElem (by omega : t < l.length)]
    rfl

set_option maxHeartbeats 1000000 in
theorem equal_same (N N2 n c c2 : Nat) (a a2 : Option Addr) (l : List Nat) (w : World) (hl : l.length = n) (hn : n ≤ 4096) (h1 : w.ownsRow N 3 1 (.slice a n c) n (ints l)) (h2 : w.ownsRow N2 3 1 (.slice a2 n c2) n (ints l)) :
    Calls Yba.prog 11 #[.slice a n c, .slice a2 n c2] w fun e w' => e = .returned (.bool true) ∧ ∃ q, w' = w.drewN q := by
  have HA := hide (row_cell h1 hl)
  have HB := hide (row_cell h2 hl)
  clear h1 h2 hl
  go_enter Yba.func11, Yba.ntmps11
  go_wp2
  go_loopw [13] (fun i wr => ∃ t q : Nat, t ≤ n ∧ i = .int .i64 t ∧ wr = w.drewN q) (fun i _ => n - (intOf i).toNat)
  case atStart => exact ⟨0, 0, Nat.zero_le _, rfl, rfl⟩
  case round =>
    obtain ⟨t, q, ht, rfl, rfl⟩ := hrel
    by_cases htn : t < n
    · obtain ⟨g, rfl, hc⟩ := unhide HA t htn
      obtain ⟨g2, rfl, hc2⟩ := unhide HB t htn
      generalize ((l.getD t 0 : Nat) : Int) = x at *
      go_wp2
      go_quiet (fail)
      go_wp2
      go_roundw
      case rel => exact ⟨t + 1, _, htn, by go_num, rfl⟩
      case measure => simp [intOf]; omega
    · go_wp2
      go_ret
      exact ⟨rfl, q, rfl⟩

/-- What 'beginBlock' leaves. -/
structure Begun (w w' : World) (N S n : Nat) (v : Value) (xs : List Value) : Prop where
  os : w'.os = w.os
  tape : w'.tape = w.tape
  output : w'.output = w.output
  size : w.heap.size ≤ w'.heap.size
  cells : ∀ i, i ≠ 22 → w'.cell? ⟨S, i, none⟩ = w.cell? ⟨S, i, none⟩
  fz : ∀ i, w'.frozen? ⟨S, i, none⟩ = w.frozen? ⟨S, i, none⟩
  block : ∀ k, k < w.heap.size → k ≠ S → v.ownBlock ≠ some k → w'.heap[k]? = w.heap[k]?
  row : ∃ g c, w'.cell? ⟨S, 22, none⟩ = some (.slice (some ⟨g, 0, none⟩) (n + 1) c) ∧ w'.ownsRow N 3 1 (.slice (some ⟨g, 0, none⟩) (n + 1) c) (n + 1) (xs ++ [.int .i64 0]) ∧ (v.ownBlock = some g ∨ w.heap.size ≤ g)

set_option maxHeartbeats 1000000 in
theorem begin_any (N S n c : Nat) (a : Option Addr) (xs : List Value) (w : World) (h22 : w.cell? ⟨S, 22, none⟩ = some (.slice a n c)) (hf : ∀ i, w.frozen? ⟨S, i, none⟩ = false) (hrow : w.ownsRow N 3 1 (.slice a n c) n xs) (hN : N ≤ w.heap.size) (hn : n ≤ 10) (hS : (Value.slice a n c).ownBlock ≠ some S) :
    Calls Yba.prog 6 #[.pointer (some ⟨S, 0, none⟩)] w fun e w' => (∃ v, e = .returned v) ∧ Begun w w' N S n (.slice a n c) xs := by
  obtain ⟨i0, hi0, hz0, hz1, hz2⟩ := info_parts Yba.info3
  have hSl := World.block_lt_of_cell? _ _ h22
  have hf22 := hf 22
  have HR := hide hrow
  have HF := hide hf
  clear hrow hf
  go_enter Yba.func6, Yba.ntmps6
  go_wp2_with (at_builtin; refine wpList_append_lies _ rfl _ _ 30 rfl N 3 i0 (.int .i64 0) 1 8 Yba.underlying30 hi0 hz0 hz1 hz2 rfl (by decide) (.slice a n c) n xs rfl ((unhide HR).alloc _) ⟨w.heap.size, 0, none⟩ 1 1 [.int .i64 0] rfl rfl (cell_one_new w _ _) (by intro u hu; simp at hu; subst hu; rfl) (by omega) (by unfold maxLen; omega) (by omega) (by simp; omega) (w.heap.size + 1) (by simp) ?_)
  intro g cap w1 hown hgrow hat hlt
  have hS1 : w1.heap[S]? = w.heap[S]? := (hgrow.block S (by simp; exact Nat.lt_succ_of_lt hSl) (Ne.symm hS)).trans (Below.heap_alloc _ _ _ hSl)
  have k22 := (World.cell?_of_block (a := ⟨S, 22, none⟩) hS1).trans h22
  have kf := (World.frozen?_of_block (a := ⟨S, 22, none⟩) hS1).trans hf22
  have hgS : g ≠ S := by
    rintro rfl
    rcases hat with h | h
    · exact hS h
    · have h5 : g < w.heap.size := hSl
      omega
  have HO := hide hown
  have HG := hide hgrow
  have HAT := hide hat
  have HS1 := hide hS1
  clear hown hgrow hat hS1
  go_wp2
  go_end0
  have hgrow := unhide HG
  have hS1 := unhide HS1
  refine ⟨⟨_, rfl⟩, hgrow.os, hgrow.tape, hgrow.output, ?_, fun i hi => ?_, fun i => ?_, fun k hk hkS hkv => ?_, g, cap, World.cell?_setCell_same _ _ _ k22, ?_, ?_⟩
  · have := hgrow.size
    simp at this ⊢
    omega
  · rw [World.cell?_setCell_other _ _ _ _ (by intro e; simp at e <;> omega)]
    exact World.cell?_of_block (a := ⟨S, i, none⟩) hS1
  · rw [World.frozen?_setCell]
    exact World.frozen?_of_block (a := ⟨S, i, none⟩) hS1
  · rw [Below.heap_setCell _ _ _ _ hkS]
    exact (hgrow.block k (by simp; omega) (Ne.symm hkv)).trans (Below.heap_alloc _ _ _ hk)
  · refine ownsRow_same (unhide HO) (fun q hq => Below.heap_setCell _ _ _ _ ?_)
    simp [Value.ownBlock] at hq
    subst hq
    exact hgS
  · rcases unhide HAT with h | h
    · exact .inl h
    · exact .inr (by omega)

end Go.Proofs.Ybulkapxu
