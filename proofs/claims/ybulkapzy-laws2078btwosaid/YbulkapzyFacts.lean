import Derived.Test.YbulkapzyMaps
import Derived.Laws.StructEq
namespace Go.Proofs.Ybulkapzy
open Go.RowKit

theorem Yba.check68 (b : Bool) (p c : ByteArray) (w : World) : (Instr.checkKey b 10000 68 (.agg #[.string p, .string c])).run Yba.prog w = .ok () w := by kernel_rfl
theorem Yba.stood68 : Yba.prog.stoodInHeld 68 = false := by kernel_rfl
theorem Yba.under68 : Yba.prog.underlying 68 = some (.struct (Yba.prog.fieldsOf 68)) := by kernel_rfl
theorem Yba.part68a (p c : ByteArray) (w : World) : (part 9 #[.string p, .string c] 0).run Yba.prog w = .ok (.string p) w := by kernel_rfl
theorem Yba.part68b (p c : ByteArray) (w : World) : (part 9 #[.string p, .string c] 1).run Yba.prog w = .ok (.string c) w := by kernel_rfl
theorem Yba.eq68 (p c : ByteArray) (w : World) : (Op.equal 68 (.agg #[.string p, .string c]) (.agg #[.string p, .string c])).run Yba.prog w = .ok true w := by
  unfold Op.equal Op.maxDepth
  rw [run_equalIn_struct w 9999 68 _ _ Yba.under68 Yba.stood68]
  simp [Program.fieldsOf, Yba.underlying68, Op.eqFields, Yba.part68a, Yba.part68b, run_equalIn_string _ 9998 9 _ _ Yba.underlying9, Result.andThen]

/-- A look at the map of holds under its only key. -/
theorem look_hold {w : World} {r clock : Nat} {p c : ByteArray} {v : Value} {b : Nat} (hb : w.heap[r]? = some (.map #[{ key := .agg #[.string p, .string c], val := v, born := b }] clock)) :
    (Instr.lookup 51 (.map (some r)) (.agg #[.string p, .string c]) false).run Yba.prog w = .ok v w := by
  simp [Instr.lookup, run_underlying Yba.underlying51, MapKept.run_getObj_map hb, Yba.check68, Instr.findKey, run_underlying Yba.underlying68, Instr.findNow, Instr.sameNow, Instr.findAsking, Yba.eq68, Result.andThen]

theorem look_hold_nil (w : World) (p c : ByteArray) : (Instr.lookup 51 (.map none) (.agg #[.string p, .string c]) false).run Yba.prog w = .ok (.pointer none) w := by
  simp [Instr.lookup, run_underlying Yba.underlying51, Yba.check68, Instr.findKey, run_underlying Yba.underlying68, Instr.findNow, Result.andThen]

theorem put_hold {w : World} {r clock : Nat} {p c : ByteArray} {v : Value} (hb : w.heap[r]? = some (.map #[] clock)) :
    (Instr.mapUpdate 51 (.map (some r)) (.agg #[.string p, .string c]) v).run Yba.prog w = .ok () (setB w r (.map #[{ key := .agg #[.string p, .string c], val := v, born := clock }] (clock + 1))) := by
  simp [Instr.mapUpdate, run_underlying Yba.underlying51, MapKept.run_getObj_map hb, Yba.check68, Instr.findKey, run_underlying Yba.underlying68, Instr.findNow, MapKept.run_setObj_map _ hb, Result.andThen, setB]

/-- Two errors of one text are one. -/
theorem Yba.comp76 : (Yba.prog.info? 76).map (·.comparable) = some true := by kernel_rfl
theorem eql_err (w : World) (s : ByteArray) : (binOp .eql 75 (.iface 76 (.string s)) (.iface 76 (.string s))).run Yba.prog w = .ok (.bool true) w := by
  cases hi : Yba.prog.info? 76 with
  | none => have := Yba.comp76; simp [hi] at this
  | some i =>
    have hcc : i.comparable = true := by have := Yba.comp76; simpa [hi] using this
    have h : ∀ d : Nat, (Op.equalIn (d + 2) 75 (.iface 76 (.string s)) (.iface 76 (.string s))).run Yba.prog w = .ok true w := fun d => by
      simp [Op.equalIn, run_underlying Yba.underlying75, run_underlying Yba.underlying76, typeInfo, hi, hcc, beq_toListBytes]
    simp only [binOp]
    simp [Op.equal, Op.maxDepth, h 9998]

theorem Yba.info54 : (Yba.prog.info? 54).map (fun i => i.size) = some 13 := by kernel_rfl
theorem Yba.info88 : (Yba.prog.info? 88).map (fun i => i.size) = some 18 := by kernel_rfl
theorem Yba.info93 : (Yba.prog.info? 93).map (fun i => i.size) = some 7 := by kernel_rfl

theorem eql_same {tp te n : TypeId} (hp : Yba.prog.underlying tp = some (.pointer te)) (hi : (Yba.prog.info? te).map (fun i => i.size) = some n) (w : World) (a : Addr) :
    (binOp .eql tp (.pointer (some a)) (.pointer (some a))).run Yba.prog w = .ok (.bool true) w := by
  cases h : Yba.prog.info? te with
  | none => rw [h] at hi; cases hi
  | some i => exact run_eql_ptr_same w a hp h

theorem neq_of_eql {tp : TypeId} {x y : Option Addr} {b : Bool} {w : World} (h : (binOp .eql tp (.pointer x) (.pointer y)).run Yba.prog w = .ok (.bool b) w) : (binOp .neq tp (.pointer x) (.pointer y)).run Yba.prog w = .ok (.bool (!b)) w := by
  simp only [binOp] at h ⊢
  cases hq : (Op.equal tp (.pointer x) (.pointer y)).run Yba.prog w with
  | ok b' w1 => simp [hq] at h ⊢; exact ⟨by rw [h.1], h.2⟩
  | halt x w1 => simp [hq] at h

theorem neq_same {tp te n : TypeId} (hp : Yba.prog.underlying tp = some (.pointer te)) (hi : (Yba.prog.info? te).map (fun i => i.size) = some n) (w : World) (a : Addr) :
    (binOp .neq tp (.pointer (some a)) (.pointer (some a))).run Yba.prog w = .ok (.bool false) w := neq_of_eql (eql_same hp hi w a)

/-- Two pointers that lead to two blocks. -/
theorem eql_apart {tp te n : TypeId} (hp : Yba.prog.underlying tp = some (.pointer te)) (hi : (Yba.prog.info? te).map (fun i => i.size) = some (n + 1)) {w : World} {a b : Addr} {ca cb : Array Value} {ta tb : TypeId} (hne : a ≠ b)
    (ha : w.heap[a.block]? = some (.cells ca ta (0, 0))) (hb : w.heap[b.block]? = some (.cells cb tb (0, 0))) :
    (binOp .eql tp (.pointer (some a)) (.pointer (some b))).run Yba.prog w = .ok (.bool false) w := by
  cases h : Yba.prog.info? te with
  | none => rw [h] at hi; cases hi
  | some i =>
    rw [h] at hi
    have : i.size = n + 1 := by simpa using hi
    exact run_eql_ptr_other w hp h (by omega) hne ha hb

end Go.Proofs.Ybulkapzy
