/-
  A proof of 'Rows.LawS2078BTwoSaid'. The frame follows the guide's template (one struct by value); the walks are ours.
-/
import Derived.Test.YbulkapzyBtwo
import Derived.ProofKit
import Derived.OpenShut
import Derived.ShutString
import Derived.ChangeOld
import Derived.Below
namespace Go.Proofs.Ybulkapzy.lawS2078BTwo
open Go.ChangeShapes Go.WideShapes Go.ChangeAt Go.RowKit
open Go.ChangeMaps (open_string shut_string)
set_option linter.unusedVariables false

theorem own : ownKnob Yba.prog.godebug = none := by kernel_rfl
theorem laidOut : laidOutB Yba.prog = true := by kernel_rfl
theorem cells99 : Yba.prog.cellsOf 99 = 13 := by kernel_rfl
theorem cells22 : Yba.prog.cellsOf 22 = 1 := by kernel_rfl
theorem cells97 : Yba.prog.cellsOf 97 = 1 := by kernel_rfl
theorem cells5 : Yba.prog.cellsOf 5 = 1 := by kernel_rfl
theorem nat8 {x : Int} (h : (Lit.int .u8 x).wf = true) : ∃ m : Nat, x = m := by
  simp [Lit.wf, IntKind.min, IntKind.max, IntKind.signed, IntKind.bits] at h
  exact ⟨x.toNat, by omega⟩
theorem nat64 {x : Int} (h : (Lit.int .u64 x).wf = true) : ∃ m : Nat, x = m := by
  simp [Lit.wf, IntKind.min, IntKind.max, IntKind.signed, IntKind.bits] at h
  exact ⟨x.toNat, by omega⟩
theorem nat16 {x : Int} (h : (Lit.int .u16 x).wf = true) : ∃ m : Nat, x = m ∧ m ≤ 65535 := by
  simp [Lit.wf, IntKind.min, IntKind.max, IntKind.signed, IntKind.bits] at h
  exact ⟨x.toNat, by omega, by omega⟩

theorem array13 {cs : Array Value} (h : cs.size = 13) : ∃ c0 c1 c2 c3 c4 c5 c6 c7 c8 c9 c10 c11 c12, cs = #[c0, c1, c2, c3, c4, c5, c6, c7, c8, c9, c10, c11, c12] := by
  obtain ⟨l⟩ := cs
  match l, h with
  | [c0, c1, c2, c3, c4, c5, c6, c7, c8, c9, c10, c11, c12], _ => exact ⟨c0, c1, c2, c3, c4, c5, c6, c7, c8, c9, c10, c11, c12, rfl⟩

set_option maxRecDepth 100000 in
/-- The struct that came in, written out. -/
theorem open99 {H : Type} {enc : TypeId × Value → H} {w : World} {r : Reach} {b0 base : Nat} {spare : Nat → Bool} {held : Bool} {v : Value} {d : DataW H} {p : List MemPlace}
    (hv : Value.okWide Yba.prog w r b0 99 v) (h : DataW.Trod enc Yba.prog w base spare held 99 v d p) :
    ∃ (x0 : Nat) (x1 : Nat) (x2 : Nat) (x3 : Nat) (x4 : Nat) (x5 : Nat) (x6 : Nat) (x7 : Nat) (x8 : Nat) (x9 : Nat) (x10 : Nat) (x11 : Nat) (x12 : Nat), v = .agg #[.int .u16 x0, .int .u8 x1, .int .u8 x2, .int .u8 x3, .int .u8 x4, .int .u8 x5, .int .u8 x6, .int .u8 x7, .int .u8 x8, .int .u64 x9, .int .u64 x10, .int .u64 x11, .int .u64 x12] ∧ x0 ≤ 65535 := by
  obtain ⟨cs, rfl, hsz⟩ := okWide_struct Yba.underlying99 hv
  obtain ⟨c0, c1, c2, c3, c4, c5, c6, c7, c8, c9, c10, c11, c12, rfl⟩ := array13 (hsz.trans cells99)
  obtain ⟨fuel, hf⟩ := h
  obtain ⟨xs, n, _, _, _, hlen, hf⟩ := DataW.trod_struct Yba.underlying99 hf
  match xs, hlen with
  | [y0, y1, y2, y3, y4, y5, y6, y7, y8, y9, y10, y11, y12], _ =>
    have g0 := hf 0 _ rfl
    have g1 := hf 1 _ rfl
    have g2 := hf 2 _ rfl
    have g3 := hf 3 _ rfl
    have g4 := hf 4 _ rfl
    have g5 := hf 5 _ rfl
    have g6 := hf 6 _ rfl
    have g7 := hf 7 _ rfl
    have g8 := hf 8 _ rfl
    have g9 := hf 9 _ rfl
    have g10 := hf 10 _ rfl
    have g11 := hf 11 _ rfl
    have g12 := hf 12 _ rfl
    simp only [Value.cells, List.getElem?_cons_zero, List.getElem?_cons_succ] at g0 g1 g2 g3 g4 g5 g6 g7 g8 g9 g10 g11 g12
    obtain ⟨z0, e0, _, f0⟩ := DataW.trod_int Yba.underlying97 g0
    obtain ⟨z1, e1, _, f1⟩ := DataW.trod_int Yba.underlying5 g1
    obtain ⟨z2, e2, _, f2⟩ := DataW.trod_int Yba.underlying5 g2
    obtain ⟨z3, e3, _, f3⟩ := DataW.trod_int Yba.underlying5 g3
    obtain ⟨z4, e4, _, f4⟩ := DataW.trod_int Yba.underlying5 g4
    obtain ⟨z5, e5, _, f5⟩ := DataW.trod_int Yba.underlying5 g5
    obtain ⟨z6, e6, _, f6⟩ := DataW.trod_int Yba.underlying5 g6
    obtain ⟨z7, e7, _, f7⟩ := DataW.trod_int Yba.underlying5 g7
    obtain ⟨z8, e8, _, f8⟩ := DataW.trod_int Yba.underlying5 g8
    obtain ⟨z9, e9, _, f9⟩ := DataW.trod_int Yba.underlying22 g9
    obtain ⟨z10, e10, _, f10⟩ := DataW.trod_int Yba.underlying22 g10
    obtain ⟨z11, e11, _, f11⟩ := DataW.trod_int Yba.underlying22 g11
    obtain ⟨z12, e12, _, f12⟩ := DataW.trod_int Yba.underlying22 g12
    obtain ⟨x0, rfl, l0⟩ := nat16 f0
    obtain ⟨x1, rfl⟩ := nat8 f1
    obtain ⟨x2, rfl⟩ := nat8 f2
    obtain ⟨x3, rfl⟩ := nat8 f3
    obtain ⟨x4, rfl⟩ := nat8 f4
    obtain ⟨x5, rfl⟩ := nat8 f5
    obtain ⟨x6, rfl⟩ := nat8 f6
    obtain ⟨x7, rfl⟩ := nat8 f7
    obtain ⟨x8, rfl⟩ := nat8 f8
    obtain ⟨x9, rfl⟩ := nat64 f9
    obtain ⟨x10, rfl⟩ := nat64 f10
    obtain ⟨x11, rfl⟩ := nat64 f11
    obtain ⟨x12, rfl⟩ := nat64 f12
    simp [cells97] at e0
    simp [cells5] at e1 e2 e3 e4 e5 e6 e7 e8
    simp [cells22] at e9 e10 e11 e12
    subst e0 e1 e2 e3 e4 e5 e6 e7 e8 e9 e10 e11 e12
    exact ⟨x0, x1, x2, x3, x4, x5, x6, x7, x8, x9, x10, x11, x12, rfl, l0⟩

set_option maxRecDepth 100000 in
theorem lifted (os : Os) (started : os.Started) (H : Type) (enc : TypeId × Value → H) :
    ReturnsInHanded {} Yba.checked os 6 .any (Rows.lawS2078BTwoSpec.pre6 enc Yba.prog Yba.f6 Rows.lawS2078BTwoRow.domain false) (Rows.lawS2078BTwoSpec.post enc Yba.prog Yba.f6 false true false false) := by
  refine returnsInHanded_of_change (C := Yba.checked) own started (by kernel_rfl) Yba.func6
    (ChangeSpec.witness6 (enc := enc) (C := Yba.checked) false ⟨#[], #[.agg #[.int .u16 0, .int .u8 0, .int .u8 0, .int .u8 0, .int .u8 0, .int .u8 0, .int .u8 0, .int .u8 0, .int .u8 0, .int .u64 0, .int .u64 0, .int .u64 0, .int .u64 0]], []⟩ 8 (by kernel_rfl) (by kernel_rfl) (by kernel_rfl) (by kernel_rfl)) ?_
  intro W base args ds gs before hval0 hW hcnd _
  have hval : ∀ (j : Nat) t v, Yba.f6.params[j]? = some t → args[j]? = some v → Value.okWide Yba.prog W .any base t v := hval0
  have hW' := hW
  obtain ⟨p, q, hA0, hV, rfl, hfz, hnd⟩ := hW
  have hA : DataW.TrodAll enc Yba.prog W 0 (fun _ => true) true Yba.f6.params.toList args.toList ds p := hA0
  rw [Yba.params6] at hA hval
  obtain ⟨v0, vs0, d0, ds0, p0, q0, hargs, rfl, rfl, h0, r0⟩ := trodAll_cons hA
  obtain ⟨rfl, rfl, rfl⟩ := trodAll_nil r0
  obtain rfl : args = #[v0] := by cases args; simp_all
  obtain ⟨rfl, rfl⟩ := trodVars_none hV
  have k0 := h0
  have lt0 : ∀ x ∈ p0, x.block < W.heap.size := by obtain ⟨m, hm⟩ := k0; exact DataW.trod_lt m _ _ _ hm
  obtain ⟨x0, x1, x2, x3, x4, x5, x6, x7, x8, x9, x10, x11, x12, rfl, l0⟩ := open99 (hval 0 99 v0 rfl rfl) h0
  clear hA0 hval0
  refine (btwo x0 x1 x2 x3 x4 x5 x6 x7 x8 x9 x10 x11 x12 l0 W.heap.size W rfl).mono fun e W' ⟨he, bel⟩ => ?_
  subst he
  exact ⟨_, rfl, _, _, _, [], _, [], hW', trodAll_mk1 (shut_bool Yba.underlying4 _), (trodAll_cons_mk (Below.trod laidOut (by kernel_rfl) (of_decide_eq_true (by kernel_rfl)) k0 bel lt0) trodAll_mk0), rfl, bel.frame _, fun h => by cases h⟩

theorem over : Rows.lawS2078BTwoRow.holds Yba.pinned (OpenSpec.ofChange Rows.lawS2078BTwoSpec) :=
  OpenClaim.holds_of_wide 6 Yba.f6 rfl rfl rfl rfl rfl rfl rfl ⟨rfl, rfl, rfl, rfl, rfl⟩ rfl rfl rfl rfl rfl (by kernel_rfl) Yba.func6 (by kernel_rfl)
    (of_decide_eq_true (by kernel_rfl)) (by unfold Func.isWrapper; first | (rw [if_pos (by decide +kernel)]; kernel_rfl) | (rw [if_neg (by decide +kernel)]; exact ⟨rfl, rfl⟩))
    (fun os started H enc _ => lifted os started H enc)

theorem proved : Rows.LawS2078BTwoSaid := over
#print axioms proved
end Go.Proofs.Ybulkapzy.lawS2078BTwo
