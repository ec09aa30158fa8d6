import Derived.Test.YbulkapxuLib9
namespace Go.Proofs.Ybulkapxu
open Go.RowKit

theorem eqIn40 (p : Option Addr) (w : World) (d : Nat) : (Op.equalIn (d + 1) 40 (.pointer p) (.pointer p)).run Yba.prog w = .ok true w := by
  obtain ⟨i, hi, h1, h2, h3⟩ := info_parts Yba.info44
  cases p with
  | none => simp [Op.equalIn, run_underlying Yba.underlying40]
  | some a =>
    simp [Op.equalIn, run_underlying Yba.underlying40, sizeOf, typeInfo, hi, run_sameAddr_same]

theorem neq47 (ns : Int) (nm : ByteArray) (kd : Int) (p : Option Addr) (g : Bool) (bk : Int) (w : World) :
    (binOp .neq 47 (.agg #[.int .u8 ns, .string nm, .int .u8 0, .int .u16 kd, .pointer p, .bool g, .string ⟨#[]⟩, .int .i64 bk]) (.agg #[.int .u8 ns, .string nm, .int .u8 0, .int .u16 kd, .pointer p, .bool g, .string ⟨#[]⟩, .int .i64 bk])).run Yba.prog w = .ok (.bool false) w := by
  have h1 : Yba.prog.stoodInHeld 47 = false := by kernel_rfl
  have h2 : Yba.prog.underlying 47 = some (.struct (Yba.prog.fieldsOf 47)) := by kernel_rfl
  have h3 : Yba.prog.stoodInHeld 39 = false := by kernel_rfl
  have h4 : Yba.prog.underlying 39 = some (.struct (Yba.prog.fieldsOf 39)) := by kernel_rfl
  rw [run_neq_struct, run_equalIn_struct w 9999 47 _ _ h2 h1]
  simp [Program.fieldsOf, Yba.underlying47, Op.eqFields, go_sem, eqIn40]

end Go.Proofs.Ybulkapxu
