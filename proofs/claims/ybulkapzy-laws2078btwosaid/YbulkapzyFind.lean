import Derived.RangeFuncNested
import Derived.RangeFuncBound
import Derived.RangeFuncCalls
import Derived.RangeFuncLeaves
import Derived.RangeFuncFrom
import Derived.Shelf.Abstract
import Derived.Shelf.RegionOpen
import Derived.OwnWalkIn
import Derived.TacticsInMore
import Derived.LoopNIn
import Derived.LoopIn
import Derived.Test.YbulkapzySmall
namespace Go.Proofs.Ybulkapzy
open Go.RowKit Go.Shelf
attribute [local go_sem] Oper.semAt_some

/-- The iterator over an empty queue: no round. -/
theorem all1_empty (F : Fence) (n : Nat) (h : F.fn 37) (hro : F.round = none) (l Bn bh c : Nat) (a : Option Addr) (J Jx : List Empty → World → Prop) (W : World) (hBn : W.cell? ⟨Bn, 0, none⟩ = some (.pointer (some ⟨bh, 2, none⟩)))
    (hq : W.cell? ⟨bh, 2, none⟩ = some (.slice a 0 c)) (h0 : J [] W) :
    CallsIn F n Yba.prog 37 #[.func (.yield l) #[] #[], .pointer (some ⟨Bn, 0, none⟩)] W fun e W' => (∃ v, e = .returned v) ∧
      ((∃ ys, ys = [] ∧ J ys W') ∨ (∃ pre, pre = [] ∧ Jx pre W')) := by
  refine callsIn_of_wp Yba.func37 rfl h ?_ hro
  simp only [Yba.ntmps37, List.size_toArray, List.length_cons, List.length_nil, Nat.reduceAdd, Nat.reduceSub, Array.replicate_succ, Array.replicate_zero, List.push_toArray, List.append_toArray, List.nil_append, List.cons_append]
  gi_wp2
  gi_loopw [10] (fun p wr => p = .int .i64 0 ∧ wr = W) (fun _ _ => 0)
  case atStart => exact ⟨rfl, rfl⟩
  case round =>
    obtain ⟨rfl, rfl⟩ := hrel
    gi_wp2
    go_end0
    exact ⟨⟨_, rfl⟩, .inl ⟨[], rfl, h0⟩⟩

theorem all_in (F : Fence) (n : Nat) (h : F.fn 30) (hro : F.round = none) (p0 : Option Addr) (w : World) :
    CallsIn F n Yba.prog 30 #[.pointer p0] w fun e w' => e = .returned (.func (.func 37) #[] #[.pointer (some ⟨w.heap.size, 0, none⟩)]) ∧ w' = w.alloc (.cells #[.pointer p0] 125) := by
  refine callsIn_of_wp Yba.func30 rfl h ?_ hro
  simp only [Yba.ntmps30, List.size_toArray, List.length_cons, List.length_nil, Nat.reduceAdd, Nat.reduceSub, Array.replicate_succ, Array.replicate_zero, List.push_toArray, List.append_toArray, List.nil_append, List.cons_append]
  gi_wp2
  go_ret
  exact ⟨rfl, rfl⟩

theorem all_stops (F : Fence) (n : Nat) (h : F.fn 37) (hro : F.round = none) (Bn bh c : Nat) (a : Option Addr) (w : World) (hBn : w.cell? ⟨Bn, 0, none⟩ = some (.pointer (some ⟨bh, 2, none⟩)))
    (hq : w.cell? ⟨bh, 2, none⟩ = some (.slice a 0 c)) :
    SeqStopsK F n Yba.prog 37 #[.pointer (some ⟨Bn, 0, none⟩)] (fun _ : Empty => #[Value.pointer none]) (Below w.heap.size) (fun ys => ys = []) (fun pre => pre = []) 0 w := fun l J Jx W hW _ _ _ h0 =>
  all1_empty F n h hro l Bn bh c a J Jx W ((hW.cell (p := ⟨Bn, 0, none⟩) (World.block_lt_of_cell? _ _ hBn)).trans hBn) ((hW.cell (p := ⟨bh, 2, none⟩) (World.block_lt_of_cell? _ _ hq)).trans hq) h0

theorem cell_of_box {W : World} {B : Nat} {v : Value} {t : TypeId} (h : W.heap[B]? = some (.cells #[v] t (0, 0))) : W.cell? ⟨B, 0, none⟩ = some v ∧ W.frozen? ⟨B, 0, none⟩ = false := by
  constructor <;> simp [World.cell?, World.frozen?, h]
theorem cell_new_box (W : World) (v : Value) (t : TypeId) : (W.alloc (.cells #[v] t)).cell? ⟨W.heap.size, 0, none⟩ = some v ∧ (W.alloc (.cells #[v] t)).frozen? ⟨W.heap.size, 0, none⟩ = false :=
  cell_of_box (World.alloc_heap_new W _)

set_option maxRecDepth 100000 in
set_option maxHeartbeats 2000000 in
/-- 'find' in a holding without orders: nothing. -/
theorem find_none (bh c : Nat) (a : Option Addr) (cl : ByteArray) (w : World) (h4 : w.cell? ⟨bh, 4, none⟩ = some (.map none)) (h2 : w.cell? ⟨bh, 2, none⟩ = some (.slice a 0 c)) :
    Calls Yba.prog 22 #[.pointer (some ⟨bh, 0, none⟩), .string cl] w fun e w' => e = .returned (.pointer none) ∧ Below w.heap.size w w' := by
  have hro : Fence.wide.round = none := rfl
  have hbl := World.block_lt_of_cell? _ _ h4
  refine (callsIn_wide (n := 3)).1 ?_
  refine callsIn_of_wp_marks Yba.func22 rfl trivial ?_ hro
  simp only [Yba.ntmps22, List.size_toArray, List.length_cons, List.length_nil, Nat.reduceAdd, Nat.reduceSub, Array.replicate_succ, Array.replicate_zero, List.push_toArray, List.append_toArray, List.nil_append, List.cons_append]
  have hmn := fun w => run_neq_map_nil (P := Yba.prog) w 89 _ _ none Yba.underlying89
  gi_wp2_with (refine ⟨trivial, ?_⟩; gi_at_call 30; refine (all_in Fence.wide 2 trivial hro _ _).mono ?_; rintro e w' ⟨rfl, rfl⟩)
  have c1 := cell_new_box (w.alloc (.cells #[.string cl] 9)) (.pointer none) 78
  have c2 := cell_new_box ((w.alloc (.cells #[.string cl] 9)).alloc (.cells #[.pointer none] 78)) (.pointer (some ⟨bh, 2, none⟩)) 125
  simp only [World.size_alloc] at c1 c2
  have hB0 : Below w.heap.size w (((w.alloc (.cells #[.string cl] 9)).alloc (.cells #[.pointer none] 78)).alloc (.cells #[.pointer (some ⟨bh, 2, none⟩)] 125)) := (((Below.refl _ w).alloc (Nat.le_refl _) _).alloc (by simp) _).alloc (by simp; omega) _
  refine wpIn_rangeFunc_ownF hro (show 1 ≤ 3 by omega) (gf := 37) (lb := #[.pointer (some ⟨w.heap.size + 1 + 1, 0, none⟩)]) rfl trivial (enters_of Yba.func37 (by kernel_rfl) rfl)
    (all_stops Fence.wide 2 trivial hro (w.heap.size + 1 + 1) bh c a _ c2.1 ((hB0.cell (p := ⟨bh, 2, none⟩) hbl).trans h2)) belowK_t (belowK_b (Nat.le_refl _)) (Below.refl _ _) (fun x => Empty.elim x)
    (fun pre W => (W.cell? ⟨w.heap.size + 1, 0, none⟩ = some (.pointer none) ∧ W.frozen? ⟨w.heap.size + 1, 0, none⟩ = false) ∧ Below w.heap.size w W)
    (fun _ _ _ => False)
    (OwnFrom.and (Own.from (fun s A B row hs hg hr => ⟨cell_kept hs.1 hg hr, (frozen_kept hs.1 hg hr).trans hs.2⟩) _) (ownFrom_below (Nat.le_refl _) (by simp; omega)))
    (fun _ _ _ _ _ hs _ _ => hs)
    ⟨⟨(World.cell?_alloc_past _ _ _ (by simp)).trans c1.1, (World.frozen?_alloc_past _ _ _ (by simp)).trans c1.2⟩, hB0⟩
    (fun x => Empty.elim x) ?assign ?body ?done ?stop
  case assign =>
    intro l x
    exact Empty.elim x
  case body =>
    intro l pre x
    exact Empty.elim x
  case done =>
    rintro D ys W hD rfl ⟨⟨hcr, hfr⟩, hB⟩ hK
    gi_wp2
    have hK' := (KeepsOthers.setCell W ⟨w.heap.size + 1, 0, none⟩ (.pointer none)).same D _ hK rfl
    refine ⟨by simp, .inl ⟨_, _, rfl, run_takeDeferred hK', ?_⟩⟩
    have hc5 := cell_kept (World.cell?_setCell_same' W ⟨w.heap.size + 1, 0, none⟩ (.pointer none) (by rw [hcr]; rfl)) (grownBy_putObj' _ D (.deferred none)) (fun r e => by cases e; exact ⟨_, hK', rfl⟩)
    refine ⟨.pointer none, ?_, rfl, (hB.setCell (p := ⟨w.heap.size + 1, 0, none⟩) (by simp) _).trans (belowK_b (w := w) (Nat.le_refl _) _ D _ _ (by simp at hD; omega) hK' rfl rfl)⟩
    simp [results, Yba.f22, go_sem, hc5]
  case stop =>
    rintro D c pre W _ _ h _
    exact h.elim

end Go.Proofs.Ybulkapzy
