import Derived.Test.YbulkapxuRows
import Derived.WalkKit
import Derived.WalkSpells
import Derived.LaidEqlPtr
import Derived.Deep.OwnRows
import Derived.Handy
namespace Go.Proofs.Ybulkapxu
open Go.RowKit

theorem Yba.info44 : (Yba.prog.info? 44).map (fun i => (i.zero, i.size, i.bytes)) = some (some (.agg #[.string ByteArray.empty, .int .u16 0, .string ByteArray.empty, .int .i64 0]), 4, 48) := by kernel_rfl
theorem Yba.info40 : (Yba.prog.info? 40).map (fun i => (i.zero, i.size, i.bytes)) = some (some (.pointer none), 1, 8) := by kernel_rfl

/-- What a pointer leads to is a block of plain cells, none frozen. -/
def PtrOk (w : World) (p : Option Addr) : Prop := ∀ a, p = some a → ∃ c t, w.heap[a.block]? = some (.cells c t (0, 0))

theorem PtrOk.none (w : World) : PtrOk w none := fun a h => by cases h

theorem PtrOk.of_same {w w' : World} {p : Option Addr} (h : PtrOk w p) (hb : ∀ a, p = some a → w'.heap[a.block]? = w.heap[a.block]?) : PtrOk w' p := by
  intro a ha
  obtain ⟨c, t, hc⟩ := h a ha
  exact ⟨c, t, (hb a ha).trans hc⟩

theorem eql_yes (w : World) (p : Option Addr) : (binOp .eql 40 (.pointer p) (.pointer p)).run Yba.prog w = .ok (.bool true) w := by
  obtain ⟨i, hi, h1, h2, h3⟩ := info_parts Yba.info44
  cases p with
  | none => rw [run_eql_pointer_nil]; rfl; exact Yba.underlying40
  | some a => exact run_eql_ptr_same w a Yba.underlying40 hi

theorem eql_no (w : World) (p q : Option Addr) (hp : PtrOk w p) (hq : PtrOk w q) (hne : p ≠ q) : (binOp .eql 40 (.pointer p) (.pointer q)).run Yba.prog w = .ok (.bool false) w := by
  obtain ⟨i, hi, h1, h2, h3⟩ := info_parts Yba.info44
  cases q with
  | none =>
    rw [run_eql_pointer_nil]
    · cases p with
      | none => exact absurd rfl hne
      | some a => rfl
    · exact Yba.underlying40
  | some b =>
    cases p with
    | none =>
      have h : ∀ d : Nat, (Op.equalIn (d + 1) 40 (.pointer none) (.pointer (some b))).run Yba.prog w = .ok false w := fun d => by
        simp [Op.equalIn, run_underlying Yba.underlying40]
      simp only [binOp]
      simp [Op.equal, Op.maxDepth, h 9999]
    | some a =>
      obtain ⟨ca, ta, ha⟩ := hp a rfl
      obtain ⟨cb, tb, hb⟩ := hq b rfl
      exact run_eql_ptr_other w Yba.underlying40 hi (by rw [h2]; decide) (fun e => hne (by rw [e])) ha hb

/-- The last place among the first n that holds p, or -1. -/
def lastIdx (f : Nat → Option Addr) (p : Option Addr) : Nat → Int
  | 0 => -1
  | n + 1 => if f n = p then n else lastIdx f p n

theorem lastIdx_yes {f : Nat → Option Addr} {p : Option Addr} {n : Nat} (h : f n = p) : lastIdx f p (n + 1) = n := by simp [lastIdx, h]
theorem lastIdx_no {f : Nat → Option Addr} {p : Option Addr} {n : Nat} (h : f n ≠ p) : lastIdx f p (n + 1) = lastIdx f p n := by simp [lastIdx, h]
theorem lastIdx_bd (f : Nat → Option Addr) (p : Option Addr) (n : Nat) : -1 ≤ lastIdx f p n ∧ lastIdx f p n < n := by
  induction n with
  | zero => simp [lastIdx]
  | succ n ih => unfold lastIdx; split <;> omega

end Go.Proofs.Ybulkapxu
