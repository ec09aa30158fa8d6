import Derived.Test.YbulkaqreRows
import Derived.WalkKit
import Derived.WalkSpells
import Derived.Handy
import Derived.Lib.VarintMem
import Derived.Lib.VarintBits
import Derived.Lib.EndianBits
import Derived.Laws.AppendOwnNone
import Derived.Lib.SliceRun
import Derived.Deep.OwnRows
namespace Go.Proofs.Ybulkaqre
open Go.RowKit

theorem hide {p : Prop} (h : p) : Hid p := h
theorem unhide {p : Prop} (h : Hid p) : p := h

theorem Yba.info5 : (Yba.prog.info? 5).map (fun i => (i.zero, i.size, i.bytes)) = some (some (.int .u8 0), 1, 1) := by kernel_rfl

/-- The slice at 'a', n bytes long, holds the bytes l. -/
structure Bs (w : World) (a : Option Addr) (n : Nat) (l : List UInt8) : Prop where
  len : l.length = n
  nil : a = none → n = 0
  cells : ∀ x, a = some x → ∀ j u, (Lib.byteCells l)[j]? = some u → w.cell? (x.add j) = some u

theorem Bs.conv {w : World} {a : Option Addr} {n : Nat} {l : List UInt8} (h : Bs w a n l) (c : Nat) : (convert 22 9 (.slice a n c)).run Yba.prog w = .ok (.string ⟨l.toArray⟩) w := by
  cases a with
  | none =>
    have h0 := h.nil rfl
    have h1 := h.len
    rw [h0] at h1
    rw [List.eq_nil_of_length_eq_zero h1]
    exact run_convert_bytes_nil w 22 5 Yba.underlying22 Yba.underlying5 n c 9 Yba.underlying9
  | some x =>
    have hl : (loadCells x n).run Yba.prog w = .ok ((l.map fun b => (b.toNat : Int)).map (Value.int .u8)).toArray w := by
      have := run_loadCells_list (P := Yba.prog) w x (Lib.byteCells l) (h.cells x rfl)
      rw [Lib.byteCells_length, h.len] at this
      rw [this]
      simp [Lib.byteCells, Function.comp_def]
    rw [run_convert_bytes_string w 22 9 5 _ n c Yba.underlying22 Yba.underlying5 Yba.underlying9, run_bytesToString w x n c _ hl, foldl_push_bytes]
    simp [ByteArray.empty, ByteArray.emptyWithCapacity, Function.comp_def]
    rfl

/-- bytes.Equal. -/
theorem equal_any (a b : Option Addr) (n m c d : Nat) (l k : List UInt8) (w : World) (h1 : Bs w a n l) (h2 : Bs w b m k) :
    Calls Yba.prog 6 #[.slice a n c, .slice b m d] w fun e w' => e = .returned (.bool (l == k)) ∧ w' = w := by
  have g1 := h1.conv c
  have g2 := h2.conv d
  have e1 : ((⟨l.toArray⟩ : ByteArray).toList == (⟨k.toArray⟩ : ByteArray).toList) = (l == k) := by
    rw [ByteArray.toList_eq, ByteArray.toList_eq]
  clear h1 h2
  go_enter Yba.func6, Yba.ntmps6
  go_wp2
  go_ret
  refine ⟨?_, rfl⟩
  rw [← e1]
  rfl

end Go.Proofs.Ybulkaqre
