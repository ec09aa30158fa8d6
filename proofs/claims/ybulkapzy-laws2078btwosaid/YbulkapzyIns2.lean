import Derived.Test.YbulkapzyIns
import Derived.Shelf.Spec.SlicesInsertGrow
namespace Go.Proofs.Ybulkapzy
open Go.RowKit

theorem Yba.size86 (w : World) : (Go.sizeOf 86).run Yba.prog w = .ok 1 w := by kernel_rfl
theorem Yba.info86s : (Yba.prog.info? 86).map (·.size) = some 1 := by kernel_rfl

set_option maxHeartbeats 4000000 in
set_option maxRecDepth 100000 in
/-- A second holding, ahead of the first: there is room. -/
theorem insertShift (g c q : Nat) (p0 p : Option Addr) (w : World) (hc : 2 ≤ c) (hc63 : c ≤ 9223372036854775807) (hqg : q ≠ g)
    (h0 : w.cell? ⟨g, 0, none⟩ = some (.pointer p0)) (h1 : (w.cell? ⟨g, 1, none⟩).isSome = true) (f0 : w.frozen? ⟨g, 0, none⟩ = false) (f1 : w.frozen? ⟨g, 1, none⟩ = false) (hq : w.cell? ⟨q, 0, none⟩ = some (.pointer p))
    (tA tB : TypeId) (kA kB : Nat) (hsa : w.shape? q = some (tA, kA)) (hsb : w.shape? g = some (tB, kB)) (hkB : kB ≠ 0) (hfa : w.frozen? ⟨q, 0, none⟩ = false) (hfe : w.frozen? ⟨q, kA, none⟩ = false) :
    Calls Yba.prog 33 #[.slice (some ⟨g, 0, none⟩) 1 c, .int .i64 0, .slice (some ⟨q, 0, none⟩) 1 1] w fun e w' =>
      e = .returned (.slice (some ⟨g, 0, none⟩) 2 c) ∧ w' = (w.drew.setCells g 1 [.pointer p0]).setCells g 0 [.pointer p] := by
  have hov : ∀ lb cb, (callFunc 39 #[.slice (some ⟨q, 0, none⟩) 1 1, .slice (some ⟨g, 1, none⟩) lb cb]).run Yba.prog w = .ok (.value (.bool false)) w := fun lb cb => by
    rw [run_callFunc_extern Yba.func39 (by kernel_rfl) (by kernel_rfl) (by kernel_rfl) (e := Extern.SlicesOverlaps.overlaps #[62, 62] #[4]) (by kernel_rfl),
      Lib.run_overlaps_apart w 62 4 86 Yba.underlying62 1 Yba.size86 ⟨q, 0, none⟩ ⟨g, 1, none⟩ 1 1 lb cb hqg tA tB kA kB hsa hsb hkB hfa hfe]
    rfl
  have hcp1 : ∀ ty dc sc, (Builtin.copy_ #[62, 62] ty #[.slice (some ⟨g, 1, none⟩) 1 dc, .slice (some ⟨g, 0, none⟩) 2 sc]).run Yba.prog w.drew = .ok (goInt 1) (w.drew.setCells g 1 [.pointer p0]) := fun ty dc sc =>
    run_copy_cells w.drew _ _ ty 86 g 1 1 dc ⟨g, 0, none⟩ 2 sc [.pointer p0] Yba.underlying62 Yba.info86s (by simp)
      (fun j v hj => by match j, hj with | 0, hj => (simp at hj; subst hj; exact h0))
      (fun j hj => by match j, hj with | 0, _ => exact h1) (fun j hj => by match j, hj with | 0, _ => exact f1) (fun v hv => by simp at hv; subst hv; rfl)
  obtain ⟨W1, hW1⟩ : ∃ W1, W1 = w.drew.setCells g 1 [.pointer p0] := ⟨_, rfl⟩
  have hcp2 : ∀ (W : World), (∀ x, W.cell? x = W1.cell? x) → (∀ x, W.frozen? x = W1.frozen? x) → ∀ ty dc, (Builtin.copy_ #[62, 62] ty #[.slice (some ⟨g, 0, none⟩) 2 dc, .slice (some ⟨q, 0, none⟩) 1 1]).run Yba.prog W = .ok (goInt 1) (W.setCells g 0 [.pointer p]) := fun W hWc hWf ty dc =>
    run_copy_cells W _ _ ty 86 g 0 2 dc ⟨q, 0, none⟩ 1 1 [.pointer p] Yba.underlying62 Yba.info86s (by simp)
      (fun j v hj => by
        match j, hj with
        | 0, hj =>
          simp at hj
          subst hj
          rw [Addr.add_lit, hWc, hW1, World.cell?_setCells_out g _ _ _ _ (fun h _ => absurd h hqg)]
          exact hq)
      (fun j hj => by
        match j, hj with
        | 0, _ =>
          rw [hWc, hW1, World.cell?_setCells_out g _ _ _ _ (fun _ _ => .inl (by simp))]
          show (w.cell? ⟨g, 0, none⟩).isSome = true
          rw [h0]; rfl)
      (fun j hj => by
        match j, hj with
        | 0, _ => rw [hWf, hW1, World.frozen?_setCells]; exact f0)
      (fun v hv => by simp at hv; subst hv; rfl)
  rw [← hW1] at hcp1
  have HX := hide hW1
  clear hW1 h0 h1 f0 f1 hq hsa hsb hkB hfa hfe
  have hw1 : IntKind.i64.wrap 1 = 1 := by decide +kernel
  have hw2 : IntKind.i64.wrap 0 = 0 := by decide +kernel
  have hc1 : ¬ (c = 1) := by omega
  have hc0 : ¬ (c = 0) := by omega
  go_enter Yba.func33, Yba.ntmps33
  go_wp2_with (simp only [hov])
  go_region_law (refine step_copy_runI rfl _ _ 62 62 rfl _ _ (by simp [Act.eval, Act.put]) (by simp [Act.eval, Act.put]) (hcp1 _ _ _) ?_)
  go_wp2_with (at_builtin; refine wpList_copy_runI _ rfl _ _ 62 62 rfl _ _ rfl rfl (hcp2 _ (fun _ => rfl) (fun _ => rfl) _ _) ?_)
  go_ret
  exact ⟨rfl, by rw [unhide HX]⟩

end Go.Proofs.Ybulkapzy
