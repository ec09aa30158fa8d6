import Derived.Test.YbulkaqjcEnd
namespace Go.Proofs.Ybulkaqjc
open Go.RowKit

theorem Yba.info5 : (Yba.prog.info? 5).map (fun i => (i.zero, i.size, i.bytes)) = some (some (.int .u8 0), 1, 1) := by kernel_rfl

theorem row_put {w wr : World} {k n : Nat} {g : Nat → Int} (x : UInt8) (hk : k < n) (hR : wr.rowIs w.heap.size 5 n (fun i => .int .u8 (g i))) (hG : ∀ i, 0 ≤ g i ∧ g i ≤ 255) (hS : wr.heap.size = w.heap.size + 1) (hB : Below w.heap.size w wr) :
    ∃ (q : Nat) (g' : Nat → Int), q ≤ n ∧ Value.int .i64 ((k : Int) + 1) = .int .i64 q ∧ (wr.setCell ⟨w.heap.size, k, none⟩ (.int .u8 (x.toNat : Int))).rowIs w.heap.size 5 n (fun i => .int .u8 (g' i)) ∧ (∀ i, 0 ≤ g' i ∧ g' i ≤ 255) ∧
      (wr.setCell ⟨w.heap.size, k, none⟩ (.int .u8 (x.toNat : Int))).heap.size = w.heap.size + 1 ∧ Below w.heap.size w (wr.setCell ⟨w.heap.size, k, none⟩ (.int .u8 (x.toNat : Int))) := by
  refine ⟨k + 1, fun i => if i = k then (x.toNat : Int) else g i, hk, by go_num, (hR.set k _).congr fun i _ => ?_, fun i => ?_, by rw [World.size_setCell]; exact hS, hB.setCell (Nat.le_refl _) _⟩
  · by_cases e : i = k <;> simp [e]
  · by_cases e : i = k
    · simp only [e, if_true]
      have := x.toNat_lt
      omega
    · simp only [e, if_false]
      exact hG i

set_option maxHeartbeats 400000 in
theorem build_any (a0 : Option Addr) (len0 cap0 : Nat) (z0 : List Int) (w : World) (hl : len0 ≤ 1024)
    (hz : ∀ i, i < len0 → ∃ b o, a0 = some ⟨b, o, none⟩ ∧ b < w.heap.size ∧ w.cell? ⟨b, o + i, none⟩ = some (.int .u8 (z0.getD i 0)) ∧ 0 ≤ z0.getD i 0 ∧ z0.getD i 0 ≤ 255) :
    Calls Yba.prog 5 #[.slice a0 len0 cap0] w fun e w' => ∃ g : Nat → Int, e = .returned (.slice (some ⟨w.heap.size, 0, none⟩) len0 len0) ∧
      w'.rowIs w.heap.size 5 len0 (fun i => .int .u8 (g i)) ∧ (∀ i, 0 ≤ g i ∧ g i ≤ 255) ∧ w'.heap.size = w.heap.size + 1 ∧ Below w.heap.size w w' := by
  have hmk := run_make_row' (P := Yba.prog) 22 5 (.int .u8 0) 1 Yba.underlying22 Yba.info5 rfl .i64 .i64 len0 (by omega) (by omega)
  have HZ : Hid _ := hz
  clear hz
  go_enter Yba.func5, Yba.ntmps5
  go_wp2
  clear hmk
  go_loopw [4] (fun i wr => ∃ (k : Nat) (g : Nat → Int), k ≤ len0 ∧ i = .int .i64 k ∧ wr.rowIs w.heap.size 5 len0 (fun i => .int .u8 (g i)) ∧ (∀ i, 0 ≤ g i ∧ g i ≤ 255) ∧ wr.heap.size = w.heap.size + 1 ∧ Below w.heap.size w wr) (fun i _ => len0 - (intOf i).toNat)
  case atStart => exact ⟨0, fun _ => 0, Nat.zero_le _, rfl, World.rowIs_made w _ _ _, fun _ => by simp, by simp, (Below.refl _ _).alloc (Nat.le_refl _) _⟩
  case round =>
    obtain ⟨k, g, hk, rfl, hrow, hg, hsz, hB⟩ := hrel
    by_cases hlt : k < len0
    · obtain ⟨b, o, rfl, hb, hcz, hz1, hz2⟩ := HZ.out k hlt
      have hcz' := (hB.cell (p := ⟨b, o + k, none⟩) hb).trans hcz
      have hfz := hrow.frozen k
      have hca := hrow.cell hlt
      generalize z0.getD k 0 = y at *
      have HR := hide hrow
      have HG := hide hg
      have HB := hide hB
      have HS := hide hsz
      clear hrow hg hB hcz hsz
      go_wp2
      go_roundw
      case rel => exact row_put _ hlt (unhide HR) (unhide HG) (unhide HS) (unhide HB)
      case measure => simp [intOf]; omega
    · obtain rfl : k = len0 := by omega
      have HR := hide hrow
      have HG := hide hg
      have HB := hide hB
      have HS := hide hsz
      clear hrow hg hB hsz
      go_wp2
      go_ret
      exact ⟨g, rfl, unhide HR, unhide HG, unhide HS, unhide HB⟩

end Go.Proofs.Ybulkaqjc
