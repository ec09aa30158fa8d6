import Derived.Test.YbulkapzyIns2
namespace Go.Proofs.Ybulkapzy
open Go.RowKit

set_option maxHeartbeats 4000000 in
set_option maxRecDepth 100000 in
/-- A second holding, ahead of the first: no room. -/
theorem insertGrow (g q : Nat) (p0 p : Option Addr) (w : World)
    (h0 : w.cell? ⟨g, 0, none⟩ = some (.pointer p0)) (hq : w.cell? ⟨q, 0, none⟩ = some (.pointer p)) :
    Calls Yba.prog 33 #[.slice (some ⟨g, 0, none⟩) 1 1, .int .i64 0, .slice (some ⟨q, 0, none⟩) 1 1] w fun e w' => ∃ c ROW, 2 ≤ c ∧ c ≤ maxLen ∧ ROW.size = c ∧
      e = .returned (.slice (some ⟨w.heap.size, 0, none⟩) 2 c) ∧ w' = (((w.alloc (.cells ROW 86)).drew.setCells w.heap.size 0 [.pointer p]).drew).setCells w.heap.size 1 [.pointer p0] := by
  obtain ⟨i0, hi0, hz0, hzs, hzb⟩ := info_parts Yba.info86
  have hsz := Yba.info86s
  have hbw : g < w.heap.size := World.block_lt_of_cell? _ _ h0
  have hvw : q < w.heap.size := World.block_lt_of_cell? _ _ hq
  have hold : (Builtin.firstCells i0.size 0 (.slice (some ⟨g, 0, none⟩) 0 1)).run Yba.prog w.drew = .ok ([] : List Value).toArray w.drew := by
    rw [hzs]
    exact run_firstCells_some w.drew 1 0 ⟨g, 0, none⟩ 0 1 [] (by simp) (fun j v hj => by simp at hj)
  obtain ⟨G, hG⟩ : ∃ G, G = grownCap w 2 1 86 := ⟨_, rfl⟩
  obtain ⟨ROW, hROW⟩ : ∃ ROW : Array Value, ROW = ([] : List Value).toArray ++ Builtin.zeroCells (Value.pointer none).cells 2 ++ Builtin.zeroCells (Value.pointer none).cells (G - 2) := ⟨_, rfl⟩
  have hGn : 2 ≤ G := by rw [hG]; exact grownCap_ge w _ _ _
  have hGm : G ≤ maxLen := by rw [hG]; exact grownCap_le_maxLen w 2 1 86 (by unfold maxLen; omega)
  have hRs : ROW.size = G := by
    rw [hROW]
    simp [Builtin.zeroCells, Value.cells]
    omega
  have hrz : ∀ ty, (Builtin.append_ #[62, 3] ty #[.slice (some ⟨g, 0, none⟩) 0 1, .int .i64 2]).run Yba.prog w =
      .ok (.slice (some ⟨w.heap.size, 0, none⟩) 2 G) (w.drew.alloc (.cells ROW 86)) := fun ty => by
    have h := Lib.run_append_grow_zeros w 62 3 ty 86 i0 _ .i64 .i64 Yba.underlying62 Yba.underlying3 hi0 hz0 (some ⟨g, 0, none⟩) 0 1 [] hold 2 (by omega) (by omega) (by omega) (by omega) (by rw [hzb]; omega) (by rw [hzb]; decide)
    rw [hROW, hG]
    exact h
  obtain ⟨W1, hW1⟩ : ∃ W1, W1 = w.drew.alloc (.cells ROW 86) := ⟨_, rfl⟩
  rw [← hW1] at hrz
  have hN : ∀ j, j < 2 → (W1.cell? ⟨w.heap.size, j, none⟩).isSome = true := fun j hj => by
    rw [hW1, World.cell?_alloc_at (w := w.drew) ROW _ w.heap.size j rfl, Array.getElem?_eq_getElem (by omega)]; rfl
  have hNf : ∀ j, W1.frozen? ⟨w.heap.size, j, none⟩ = false := fun j => by rw [hW1]; exact World.frozen?_alloc_at (w := w.drew) ROW _ w.heap.size j rfl
  have hOb : W1.cell? ⟨g, 0, none⟩ = some (.pointer p0) := by rw [hW1, World.cell?_alloc_past (w := w.drew) _ g 0 hbw]; exact h0
  have hOv : W1.cell? ⟨q, 0, none⟩ = some (.pointer p) := by rw [hW1, World.cell?_alloc_past (w := w.drew) _ q 0 hvw]; exact hq
  have hcpA : ∀ (W : World), (∀ x, W.cell? x = W1.cell? x) → (∀ x, W.frozen? x = W1.frozen? x) → ∀ ty dc, (Builtin.copy_ #[62, 62] ty #[.slice (some ⟨w.heap.size, 0, none⟩) 2 dc, .slice (some ⟨q, 0, none⟩) 1 1]).run Yba.prog W = .ok (goInt 1) (W.setCells w.heap.size 0 [.pointer p]) := fun W hWc hWf ty dc =>
    run_copy_cells W _ _ ty 86 w.heap.size 0 2 dc ⟨q, 0, none⟩ 1 1 [.pointer p] Yba.underlying62 hsz (by simp)
      (fun j v hj => by match j, hj with | 0, hj => (simp at hj; subst hj; rw [Addr.add_lit, hWc]; exact hOv))
      (fun j hj => by match j, hj with | 0, _ => (rw [hWc]; exact hN 0 (by omega)))
      (fun j hj => by match j, hj with | 0, _ => (rw [hWf]; exact hNf 0)) (fun v hv => by simp at hv; subst hv; rfl)
  have hcpB : ∀ (W : World), (∀ x, W.cell? x = (W1.setCells w.heap.size 0 [.pointer p]).cell? x) → (∀ x, W.frozen? x = (W1.setCells w.heap.size 0 [.pointer p]).frozen? x) → ∀ ty dc sc, (Builtin.copy_ #[62, 62] ty #[.slice (some ⟨w.heap.size, 1, none⟩) 1 dc, .slice (some ⟨g, 0, none⟩) 1 sc]).run Yba.prog W = .ok (goInt 1) (W.setCells w.heap.size 1 [.pointer p0]) := fun W hWc hWf ty dc sc =>
    run_copy_cells W _ _ ty 86 w.heap.size 1 1 dc ⟨g, 0, none⟩ 1 sc [.pointer p0] Yba.underlying62 hsz (by simp)
      (fun j v hj => by
        match j, hj with
        | 0, hj =>
          simp at hj
          subst hj
          rw [Addr.add_lit, hWc, World.cell?_setCells_out _ _ _ _ _ (fun h _ => by simp at h; omega)]
          exact hOb)
      (fun j hj => by
        match j, hj with
        | 0, _ =>
          rw [hWc, World.cell?_setCells_out _ _ _ _ _ (fun _ _ => .inr (by simp))]
          exact hN 1 (by omega))
      (fun j hj => by match j, hj with | 0, _ => (rw [hWf, World.frozen?_setCells]; exact hNf _)) (fun v hv => by simp at hv; subst hv; rfl)
  subst hW1
  have hE1 : ∀ x, ((w.alloc (.cells ROW 86)).drew).cell? x = (w.drew.alloc (.cells ROW 86)).cell? x := fun x => rfl
  have hE2 : ∀ x, ((w.alloc (.cells ROW 86)).drew).frozen? x = (w.drew.alloc (.cells ROW 86)).frozen? x := fun x => rfl
  have hF1 : ∀ x, (((w.alloc (.cells ROW 86)).drew.setCells w.heap.size 0 [.pointer p]).drew).cell? x = ((w.drew.alloc (.cells ROW 86)).setCells w.heap.size 0 [.pointer p]).cell? x := fun x => rfl
  have hF2 : ∀ x, (((w.alloc (.cells ROW 86)).drew.setCells w.heap.size 0 [.pointer p]).drew).frozen? x = ((w.drew.alloc (.cells ROW 86)).setCells w.heap.size 0 [.pointer p]).frozen? x := fun x => rfl
  have hw1 : IntKind.i64.wrap 1 = 1 := by decide +kernel
  have hw0 : IntKind.i64.wrap 0 = 0 := by decide +kernel
  have hG1 : ¬ (G = 1) := by omega
  have hG0 : ¬ (G = 0) := by omega
  have hGx := hGm
  unfold maxLen at hGx
  have HR := hide hRs
  clear hold hROW hG hRs hN hNf hOb hOv h0 hq hsz
  go_enter Yba.func33, Yba.ntmps33
  go_wp2_with (first
    | (at_builtin; refine Lib.wpList_append_run _ rfl _ _ _ _ rfl _ _ rfl rfl _ _ (hrz _) ?_)
    | (at_builtin; refine wpList_copy_runI _ rfl _ _ 62 62 rfl _ _ rfl rfl (hcpA _ hE1 hE2 _ _) ?_)
    | (at_builtin; refine wpList_copy_runI _ rfl _ _ 62 62 rfl _ _ rfl rfl (hcpB _ (fun _ => rfl) (fun _ => rfl) _ _ _) ?_))
  go_region_law (refine step_copy_runI rfl _ _ 62 62 rfl (.slice (some ⟨w.heap.size, 1, none⟩) 1 (G - 1)) (.slice (some ⟨g, 0, none⟩) 1 1) (by simp [Act.eval, Act.put]) (by simp [Act.eval, Act.put]) (hcpB _ hF1 hF2 3 (G - 1) 1) ?_)
  go_wp2
  go_ret
  exact ⟨G, ROW, hGn, hGm, unhide HR, rfl, rfl⟩

end Go.Proofs.Ybulkapzy
