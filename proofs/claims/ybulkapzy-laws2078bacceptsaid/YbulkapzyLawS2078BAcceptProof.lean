/-
  A proof of 'Rows.LawS2078BAcceptSaid'. The frame follows the guide's template (one struct by value); the walks are ours.
-/
import Derived.Test.YbulkapzyBacc
import Derived.ProofKit
import Derived.OpenShut
import Derived.ShutString
import Derived.ChangeOld
import Derived.Below
namespace Go.Proofs.Ybulkapzy.lawS2078BAccept
open Go.ChangeShapes Go.WideShapes Go.ChangeAt Go.RowKit
open Go.ChangeMaps (open_string shut_string)
set_option linter.unusedVariables false

theorem own : ownKnob Yba.prog.godebug = none := by kernel_rfl
theorem laidOut : laidOutB Yba.prog = true := by kernel_rfl
theorem cells40 : Yba.prog.cellsOf 40 = 15 := by kernel_rfl
theorem cells22 : Yba.prog.cellsOf 22 = 1 := by kernel_rfl
theorem cells9 : Yba.prog.cellsOf 9 = 1 := by kernel_rfl
theorem cells5 : Yba.prog.cellsOf 5 = 1 := by kernel_rfl
theorem cells4 : Yba.prog.cellsOf 4 = 1 := by kernel_rfl
theorem cells2 : Yba.prog.cellsOf 2 = 1 := by kernel_rfl

theorem array15 {cs : Array Value} (h : cs.size = 15) : ∃ c0 c1 c2 c3 c4 c5 c6 c7 c8 c9 c10 c11 c12 c13 c14, cs = #[c0, c1, c2, c3, c4, c5, c6, c7, c8, c9, c10, c11, c12, c13, c14] := by
  obtain ⟨l⟩ := cs
  match l, h with
  | [c0, c1, c2, c3, c4, c5, c6, c7, c8, c9, c10, c11, c12, c13, c14], _ => exact ⟨c0, c1, c2, c3, c4, c5, c6, c7, c8, c9, c10, c11, c12, c13, c14, rfl⟩

set_option maxRecDepth 100000 in
/-- The struct that came in, written out. -/
theorem open40 {H : Type} {enc : TypeId × Value → H} {w : World} {r : Reach} {b0 base : Nat} {spare : Nat → Bool} {held : Bool} {v : Value} {d : DataW H} {p : List MemPlace}
    (hv : Value.okWide Yba.prog w r b0 40 v) (h : DataW.Trod enc Yba.prog w base spare held 40 v d p) :
    ∃ (x0 : Int) (x1 : ByteArray) (x2 : ByteArray) (x3 : ByteArray) (x4 : Int) (x5 : Int) (x6 : Int) (x7 : Bool) (x8 : Bool) (x9 : Int) (x10 : Int) (x11 : Bool) (x12 : Bool) (x13 : Bool) (x14 : Int), v = .agg #[.int .u8 x0, .string x1, .string x2, .string x3, .int .u8 x4, .int .i64 x5, .int .i64 x6, .bool x7, .bool x8, .int .u64 x9, .int .u64 x10, .bool x11, .bool x12, .bool x13, .int .u64 x14] := by
  obtain ⟨cs, rfl, hsz⟩ := okWide_struct Yba.underlying40 hv
  obtain ⟨c0, c1, c2, c3, c4, c5, c6, c7, c8, c9, c10, c11, c12, c13, c14, rfl⟩ := array15 (hsz.trans cells40)
  obtain ⟨fuel, hf⟩ := h
  obtain ⟨xs, n, _, _, _, hlen, hf⟩ := DataW.trod_struct Yba.underlying40 hf
  match xs, hlen with
  | [y0, y1, y2, y3, y4, y5, y6, y7, y8, y9, y10, y11, y12, y13, y14], _ =>
    have g0 := hf 0 _ rfl
    have g1 := hf 1 _ rfl
    have g2 := hf 2 _ rfl
    have g3 := hf 3 _ rfl
    have g4 := hf 4 _ rfl
    have g5 := hf 5 _ rfl
    have g6 := hf 6 _ rfl
    have g7 := hf 7 _ rfl
    have g8 := hf 8 _ rfl
    have g9 := hf 9 _ rfl
    have g10 := hf 10 _ rfl
    have g11 := hf 11 _ rfl
    have g12 := hf 12 _ rfl
    have g13 := hf 13 _ rfl
    have g14 := hf 14 _ rfl
    simp only [Value.cells, List.getElem?_cons_zero, List.getElem?_cons_succ] at g0 g1 g2 g3 g4 g5 g6 g7 g8 g9 g10 g11 g12 g13 g14
    obtain ⟨x0, e0, _, _⟩ := DataW.trod_int Yba.underlying5 g0
    obtain ⟨x1, e1, _, _⟩ := DataW.trod_string Yba.underlying9 g1
    obtain ⟨x2, e2, _, _⟩ := DataW.trod_string Yba.underlying9 g2
    obtain ⟨x3, e3, _, _⟩ := DataW.trod_string Yba.underlying9 g3
    obtain ⟨x4, e4, _, _⟩ := DataW.trod_int Yba.underlying5 g4
    obtain ⟨x5, e5, _, _⟩ := DataW.trod_int Yba.underlying2 g5
    obtain ⟨x6, e6, _, _⟩ := DataW.trod_int Yba.underlying2 g6
    obtain ⟨x7, e7, _⟩ := DataW.trod_bool Yba.underlying4 g7
    obtain ⟨x8, e8, _⟩ := DataW.trod_bool Yba.underlying4 g8
    obtain ⟨x9, e9, _, _⟩ := DataW.trod_int Yba.underlying22 g9
    obtain ⟨x10, e10, _, _⟩ := DataW.trod_int Yba.underlying22 g10
    obtain ⟨x11, e11, _⟩ := DataW.trod_bool Yba.underlying4 g11
    obtain ⟨x12, e12, _⟩ := DataW.trod_bool Yba.underlying4 g12
    obtain ⟨x13, e13, _⟩ := DataW.trod_bool Yba.underlying4 g13
    obtain ⟨x14, e14, _, _⟩ := DataW.trod_int Yba.underlying22 g14
    simp [cells9] at e1 e2 e3
    simp [cells5] at e0 e4
    simp [cells2] at e5 e6
    simp [cells4] at e7 e8 e11 e12 e13
    simp [cells22] at e9 e10 e14
    subst e0 e1 e2 e3 e4 e5 e6 e7 e8 e9 e10 e11 e12 e13 e14
    exact ⟨x0, x1, x2, x3, x4, x5, x6, x7, x8, x9, x10, x11, x12, x13, x14, rfl⟩

set_option maxRecDepth 100000 in
theorem lifted (os : Os) (started : os.Started) (H : Type) (enc : TypeId × Value → H) :
    ReturnsInHanded {} Yba.checked os 5 .any (Rows.lawS2078BAcceptSpec.pre6 enc Yba.prog Yba.f5 Rows.lawS2078BAcceptRow.domain false) (Rows.lawS2078BAcceptSpec.post enc Yba.prog Yba.f5 false true false false) := by
  refine returnsInHanded_of_change (C := Yba.checked) own started (by kernel_rfl) Yba.func5
    (ChangeSpec.witness6 (enc := enc) (C := Yba.checked) false ⟨#[], #[.agg #[.int .u8 0, .string ⟨#[]⟩, .string ⟨#[]⟩, .string ⟨#[]⟩, .int .u8 0, .int .i64 0, .int .i64 0, .bool false, .bool false, .int .u64 0, .int .u64 0, .bool false, .bool false, .bool false, .int .u64 0]], []⟩ 8 (by kernel_rfl) (by kernel_rfl) (by kernel_rfl) (by kernel_rfl)) ?_
  intro W base args ds gs before hval0 hW hcnd _
  have hval : ∀ (j : Nat) t v, Yba.f5.params[j]? = some t → args[j]? = some v → Value.okWide Yba.prog W .any base t v := hval0
  have hW' := hW
  obtain ⟨p, q, hA0, hV, rfl, hfz, hnd⟩ := hW
  have hA : DataW.TrodAll enc Yba.prog W 0 (fun _ => true) true Yba.f5.params.toList args.toList ds p := hA0
  rw [Yba.params5] at hA hval
  obtain ⟨v0, vs0, d0, ds0, p0, q0, hargs, rfl, rfl, h0, r0⟩ := trodAll_cons hA
  obtain ⟨rfl, rfl, rfl⟩ := trodAll_nil r0
  obtain rfl : args = #[v0] := by cases args; simp_all
  obtain ⟨rfl, rfl⟩ := trodVars_none hV
  have k0 := h0
  have lt0 : ∀ x ∈ p0, x.block < W.heap.size := by obtain ⟨m, hm⟩ := k0; exact DataW.trod_lt m _ _ _ hm
  obtain ⟨x0, x1, x2, x3, x4, x5, x6, x7, x8, x9, x10, x11, x12, x13, x14, rfl⟩ := open40 (hval 0 40 v0 rfl rfl) h0
  clear hA0 hval0
  refine (bacc x0 x1 x2 x3 x4 x5 x6 x7 x8 x9 x10 x11 x12 x13 x14 W.heap.size W rfl).mono fun e W' ⟨he, bel⟩ => ?_
  subst he
  exact ⟨_, rfl, _, _, _, [], _, [], hW', trodAll_mk1 (shut_bool Yba.underlying4 _), (trodAll_cons_mk (Below.trod laidOut (by kernel_rfl) (of_decide_eq_true (by kernel_rfl)) k0 bel lt0) trodAll_mk0), rfl, bel.frame _, fun h => by cases h⟩

theorem over : Rows.lawS2078BAcceptRow.holds Yba.pinned (OpenSpec.ofChange Rows.lawS2078BAcceptSpec) :=
  OpenClaim.holds_of_wide 5 Yba.f5 rfl rfl rfl rfl rfl rfl rfl ⟨rfl, rfl, rfl, rfl, rfl⟩ rfl rfl rfl rfl rfl (by kernel_rfl) Yba.func5 (by kernel_rfl)
    (of_decide_eq_true (by kernel_rfl)) (by unfold Func.isWrapper; first | (rw [if_pos (by decide +kernel)]; kernel_rfl) | (rw [if_neg (by decide +kernel)]; exact ⟨rfl, rfl⟩))
    (fun os started H enc _ => lifted os started H enc)

theorem proved : Rows.LawS2078BAcceptSaid := over
#print axioms proved
end Go.Proofs.Ybulkapzy.lawS2078BAccept
