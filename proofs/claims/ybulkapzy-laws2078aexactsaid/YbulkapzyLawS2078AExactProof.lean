/-
  A proof of 'Rows.LawS2078AExactSaid'. The frame follows the guide's template (a struct by value, three integers); the walks are ours.
-/
import Derived.Test.YbulkapzyExactWalk
import Derived.ProofKit
import Derived.OpenShut
import Derived.ShutString
import Derived.ChangeOld
import Derived.Below
namespace Go.Proofs.Ybulkapzy.lawS2078AExact
open Go.ChangeShapes Go.WideShapes Go.ChangeAt Go.RowKit
open Go.ChangeMaps (open_string shut_string)
set_option linter.unusedVariables false

theorem own : ownKnob Yba.prog.godebug = none := by kernel_rfl
theorem laidOut : laidOutB Yba.prog = true := by kernel_rfl
theorem cells24 : Yba.prog.cellsOf 24 = 12 := by kernel_rfl
theorem cells22 : Yba.prog.cellsOf 22 = 1 := by kernel_rfl
theorem cells9 : Yba.prog.cellsOf 9 = 1 := by kernel_rfl

theorem word_of_wf {x : Int} (h : (Lit.int .u64 x).wf = true) : Word x := by
  simp [Lit.wf, IntKind.min, IntKind.max, IntKind.signed, IntKind.bits] at h
  exact ⟨by omega, by omega⟩

theorem array12 {cs : Array Value} (h : cs.size = 12) : ∃ c0 c1 c2 c3 c4 c5 c6 c7 c8 c9 c10 c11, cs = #[c0, c1, c2, c3, c4, c5, c6, c7, c8, c9, c10, c11] := by
  obtain ⟨l⟩ := cs
  match l, h with
  | [c0, c1, c2, c3, c4, c5, c6, c7, c8, c9, c10, c11], _ => exact ⟨c0, c1, c2, c3, c4, c5, c6, c7, c8, c9, c10, c11, rfl⟩

set_option maxRecDepth 100000 in
/-- The struct that came in, written out. -/
theorem open24 {H : Type} {enc : TypeId × Value → H} {w : World} {r : Reach} {b0 base : Nat} {spare : Nat → Bool} {held : Bool} {v : Value} {d : DataW H} {p : List MemPlace}
    (hv : Value.okWide Yba.prog w r b0 24 v) (h : DataW.Trod enc Yba.prog w base spare held 24 v d p) :
    ∃ (m q : ByteArray) (x2 x3 x4 x5 x6 x7 x8 x9 x10 x11 : Int), v = .agg #[.string m, .string q, .int .u64 x2, .int .u64 x3, .int .u64 x4, .int .u64 x5, .int .u64 x6, .int .u64 x7, .int .u64 x8, .int .u64 x9, .int .u64 x10, .int .u64 x11] ∧
      Word x3 ∧ Word x5 ∧ Word x7 ∧ Word x8 ∧ Word x10 ∧ Word x11 := by
  obtain ⟨cs, rfl, hsz⟩ := okWide_struct Yba.underlying24 hv
  obtain ⟨c0, c1, c2, c3, c4, c5, c6, c7, c8, c9, c10, c11, rfl⟩ := array12 (hsz.trans cells24)
  obtain ⟨fuel, hf⟩ := h
  obtain ⟨xs, n, _, _, _, hlen, hf⟩ := DataW.trod_struct Yba.underlying24 hf
  match xs, hlen with
  | [y0, y1, y2, y3, y4, y5, y6, y7, y8, y9, y10, y11], _ =>
    have g0 := hf 0 _ rfl
    have g1 := hf 1 _ rfl
    have g2 := hf 2 _ rfl
    have g3 := hf 3 _ rfl
    have g4 := hf 4 _ rfl
    have g5 := hf 5 _ rfl
    have g6 := hf 6 _ rfl
    have g7 := hf 7 _ rfl
    have g8 := hf 8 _ rfl
    have g9 := hf 9 _ rfl
    have g10 := hf 10 _ rfl
    have g11 := hf 11 _ rfl
    simp only [Value.cells, List.getElem?_cons_zero, List.getElem?_cons_succ] at g0 g1 g2 g3 g4 g5 g6 g7 g8 g9 g10 g11
    obtain ⟨m, e0, _, _⟩ := DataW.trod_string Yba.underlying9 g0
    obtain ⟨q, e1, _, _⟩ := DataW.trod_string Yba.underlying9 g1
    obtain ⟨x2, e2, _, f2⟩ := DataW.trod_int Yba.underlying22 g2
    obtain ⟨x3, e3, _, f3⟩ := DataW.trod_int Yba.underlying22 g3
    obtain ⟨x4, e4, _, f4⟩ := DataW.trod_int Yba.underlying22 g4
    obtain ⟨x5, e5, _, f5⟩ := DataW.trod_int Yba.underlying22 g5
    obtain ⟨x6, e6, _, f6⟩ := DataW.trod_int Yba.underlying22 g6
    obtain ⟨x7, e7, _, f7⟩ := DataW.trod_int Yba.underlying22 g7
    obtain ⟨x8, e8, _, f8⟩ := DataW.trod_int Yba.underlying22 g8
    obtain ⟨x9, e9, _, f9⟩ := DataW.trod_int Yba.underlying22 g9
    obtain ⟨x10, e10, _, f10⟩ := DataW.trod_int Yba.underlying22 g10
    obtain ⟨x11, e11, _, f11⟩ := DataW.trod_int Yba.underlying22 g11
    simp [cells9] at e0 e1
    simp [cells22] at e2 e3 e4 e5 e6 e7 e8 e9 e10 e11
    subst e0 e1 e2 e3 e4 e5 e6 e7 e8 e9 e10 e11
    exact ⟨m, q, x2, x3, x4, x5, x6, x7, x8, x9, x10, x11, rfl, word_of_wf f3, word_of_wf f5, word_of_wf f7, word_of_wf f8, word_of_wf f10, word_of_wf f11⟩

set_option maxRecDepth 100000 in
theorem lifted (os : Os) (started : os.Started) (H : Type) (enc : TypeId × Value → H) :
    ReturnsInHanded {} Yba.checked os 3 .any (Rows.lawS2078AExactSpec.pre6 enc Yba.prog Yba.f3 Rows.lawS2078AExactRow.domain false) (Rows.lawS2078AExactSpec.post enc Yba.prog Yba.f3 false true false false) := by
  refine returnsInHanded_of_change (C := Yba.checked) own started (by kernel_rfl) Yba.func3
    (ChangeSpec.witness6 (enc := enc) (C := Yba.checked) false ⟨#[], #[.agg #[.string ⟨#[]⟩, .string ⟨#[]⟩, .int .u64 0, .int .u64 0, .int .u64 0, .int .u64 0, .int .u64 0, .int .u64 0, .int .u64 0, .int .u64 0, .int .u64 0, .int .u64 0], .int .u8 0, .int .i64 0, .int .i64 0], []⟩ 8 (by kernel_rfl) (by kernel_rfl) (by kernel_rfl) (by kernel_rfl)) ?_
  intro W base args ds gs before hval0 hW hcnd _
  have hval : ∀ (j : Nat) t v, Yba.f3.params[j]? = some t → args[j]? = some v → Value.okWide Yba.prog W .any base t v := hval0
  have hW' := hW
  obtain ⟨p, q, hA0, hV, rfl, hfz, hnd⟩ := hW
  have hA : DataW.TrodAll enc Yba.prog W 0 (fun _ => true) true Yba.f3.params.toList args.toList ds p := hA0
  rw [Yba.params3] at hA hval
  obtain ⟨v0, vs0, d0, ds0, p0, q0, hargs, rfl, rfl, h0, r0⟩ := trodAll_cons hA
  obtain ⟨v1, vs1, d1, ds1, p1, q1, rfl, rfl, rfl, h1, r1⟩ := trodAll_cons r0
  obtain ⟨v2, vs2, d2, ds2, p2, q2, rfl, rfl, rfl, h2, r2⟩ := trodAll_cons r1
  obtain ⟨v3, vs3, d3, ds3, p3, q3, rfl, rfl, rfl, h3, r3⟩ := trodAll_cons r2
  obtain ⟨rfl, rfl, rfl⟩ := trodAll_nil r3
  obtain rfl : args = #[v0, v1, v2, v3] := by cases args; simp_all
  obtain ⟨rfl, rfl⟩ := trodVars_none hV
  have k0 := h0
  have lt0 : ∀ x ∈ p0, x.block < W.heap.size := by obtain ⟨m, hm⟩ := k0; exact DataW.trod_lt m _ _ _ hm
  obtain ⟨m, q, x2, x3, x4, x5, x6, x7, x8, x9, x10, x11, rfl, f3, f5, f7, f8, f10, f11⟩ := open24 (hval 0 24 v0 rfl rfl) h0
  obtain ⟨a1, rfl, rfl, rfl, w1⟩ := open_int Yba.underlying5 (hval 1 5 v1 rfl rfl) h1
  obtain ⟨a2, rfl, rfl, rfl, w2⟩ := open_int Yba.underlying2 (hval 2 2 v2 rfl rfl) h2
  obtain ⟨a3, rfl, rfl, rfl, w3⟩ := open_int Yba.underlying2 (hval 3 2 v3 rfl rfl) h3
  clear hA0 hval0
  have hwalk : Calls Yba.prog 3 #[.agg #[.string m, .string q, .int .u64 x2, .int .u64 x3, .int .u64 x4, .int .u64 x5, .int .u64 x6, .int .u64 x7, .int .u64 x8, .int .u64 x9, .int .u64 x10, .int .u64 x11], .int .u8 a1, .int .i64 a2, .int .i64 a3] W fun e w' => e = .returned (.bool true) ∧ Below W.heap.size W w' := by
    by_cases hs : a1 = 1
    · subst hs
      exact exact_buy m q x2 x3 x4 x5 x6 x7 x8 x9 x10 x11 a2 a3 f3 f7 f8 W
    · exact exact_sell m q x2 x3 x4 x5 x6 x7 x8 x9 x10 x11 a1 a2 a3 (by simpa using hs) f5 f10 f11 W
  refine hwalk.mono fun e W' ⟨he, bel⟩ => ?_
  subst he
  exact ⟨_, rfl, _, _, _, [], _, [], hW', trodAll_mk1 (shut_bool Yba.underlying4 _), (trodAll_cons_mk (Below.trod laidOut (by kernel_rfl) (of_decide_eq_true (by kernel_rfl)) k0 bel lt0) (trodAll_cons_mk (shut_int Yba.underlying5 w1) (trodAll_cons_mk (shut_int Yba.underlying2 w2) (trodAll_cons_mk (shut_int Yba.underlying2 w3) trodAll_mk0)))), rfl, bel.frame _, fun h => by cases h⟩

theorem over : Rows.lawS2078AExactRow.holds Yba.pinned (OpenSpec.ofChange Rows.lawS2078AExactSpec) :=
  OpenClaim.holds_of_wide 3 Yba.f3 rfl rfl rfl rfl rfl rfl rfl ⟨rfl, rfl, rfl, rfl, rfl⟩ rfl rfl rfl rfl rfl (by kernel_rfl) Yba.func3 (by kernel_rfl)
    (of_decide_eq_true (by kernel_rfl)) (by unfold Func.isWrapper; first | (rw [if_pos (by decide +kernel)]; kernel_rfl) | (rw [if_neg (by decide +kernel)]; exact ⟨rfl, rfl⟩))
    (fun os started H enc _ => lifted os started H enc)

theorem proved : Rows.LawS2078AExactSaid := over
#print axioms proved
end Go.Proofs.Ybulkapzy.lawS2078AExact
