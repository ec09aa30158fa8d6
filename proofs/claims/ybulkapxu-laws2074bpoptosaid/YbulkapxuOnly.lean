import Derived.Test.YbulkapxuPtrs
import Derived.Lib.LazyBuf
import Derived.Lib.SliceRun
namespace Go.Proofs.Ybulkapxu
open Go.RowKit

/-- Nothing has turned but block g; no block has come or gone. -/
structure OnlyAt (g : Nat) (w w' : World) : Prop where
  os : w'.os = w.os
  tape : w'.tape = w.tape
  output : w'.output = w.output
  size : w'.heap.size = w.heap.size
  block : ∀ k, k ≠ g → w'.heap[k]? = w.heap[k]?

theorem OnlyAt.refl (g : Nat) (w : World) : OnlyAt g w w := ⟨rfl, rfl, rfl, rfl, fun _ _ => rfl⟩
theorem OnlyAt.drew {g : Nat} {w w' : World} (h : OnlyAt g w w') : OnlyAt g w w'.drew := ⟨h.os, h.tape, h.output, h.size, h.block⟩
theorem OnlyAt.setCell {g : Nat} {w w' : World} (h : OnlyAt g w w') (o : Nat) (v : Value) : OnlyAt g w (w'.setCell ⟨g, o, none⟩ v) :=
  ⟨h.os, h.tape, h.output, by rw [World.size_setCell]; exact h.size, fun k hk => (Below.heap_setCell _ _ _ _ hk).trans (h.block k hk)⟩
theorem OnlyAt.below {g B : Nat} {w0 w w' : World} (h : OnlyAt g w w') (hb : Below B w0 w) (hg : B ≤ g) : Below B w0 w' :=
  hb.trans ⟨h.os, h.tape, h.output, Nat.le_of_eq h.size.symm, fun k hk => h.block k (by omega)⟩

theorem onlyAt_setCells {g : Nat} {w : World} : ∀ (o : Nat) (vs : List Value) (w' : World), OnlyAt g w w' → OnlyAt g w (w'.setCells g o vs)
  | _, [], _, h => h
  | o, v :: r, _, h => onlyAt_setCells (o + 1) r _ (h.setCell o v)

theorem Yba.zeroValue40 (w : World) : (zeroValue 40).run Yba.prog w = .ok (.pointer none) w := by kernel_rfl
theorem Yba.zeroValue3 (w : World) : (zeroValue 3).run Yba.prog w = .ok (.int .i64 0) w := by kernel_rfl
theorem Yba.info3 : (Yba.prog.info? 3).map (fun i => (i.zero, i.size, i.bytes)) = some (some (.int .i64 0), 1, 8) := by kernel_rfl

end Go.Proofs.Ybulkapxu
