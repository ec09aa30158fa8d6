/-
  A proof of 'Rows.LawS2110CDecodeSaid'. The frame follows the guide's template (a slice of bytes, a bool, two integers, a slice of slices of bytes); the walks are ours.
-/
import Derived.Test.YbulkaqreWalk
import Derived.ProofKit
import Derived.OpenShut
import Derived.ShutString
import Derived.ChangeOld
import Derived.Below
import Derived.Deep.Matrix
namespace Go.Proofs.Ybulkaqre.lawS2110CDecode
open Go.ChangeShapes Go.WideShapes Go.ChangeAt Go.RowKit Go.Deep
set_option linter.unusedVariables false

theorem own : ownKnob Yba.prog.godebug = none := by kernel_rfl
theorem laidOut : laidOutB Yba.prog = true := by kernel_rfl

/-- The bytes of a list of numbers. -/
def bytesOf (zs : List Int) : List UInt8 := zs.map fun n => UInt8.ofNat n.toNat

theorem bs_of_ints {w : World} {a' : Addr} {n c : Nat} {zs : List Int} (hc : ∀ i, i < c → w.cell? (a'.add i) = some (.int .u8 (zs.getD i 0))) (hn : n ≤ c) (hz : zs.length = c) (hwf : ∀ z ∈ zs, (Lit.int .u8 z).wf = true) :
    ∀ wx, Below w.heap.size w wx → Bs wx (some a') n (bytesOf (zs.take n)) := by
  intro wx hb
  refine ⟨by simp [bytesOf, hz]; omega, (fun h => by cases h), fun x hx j u hu => ?_⟩
  obtain rfl := Option.some.inj hx
  have hj : j < n := by
    have := (List.getElem?_eq_some_iff.1 hu).1
    simp [Lib.byteCells, bytesOf] at this
    omega
  have hcj := hc j (by omega)
  rw [hb.cell (World.block_lt_of_cell? _ _ hcj), hcj, ← hu]
  have hjz : j < zs.length := by omega
  have hb := bounds_u8 (hwf zs[j] (List.getElem_mem hjz))
  simp [Lib.byteCells, bytesOf, hj, hjz, List.getD]
  omega

theorem bs_nil (wx : World) : Bs wx none 0 [] := ⟨rfl, fun _ => rfl, fun x hx => by cases hx⟩

set_option maxRecDepth 100000 in
theorem lifted (os : Os) (started : os.Started) (H : Type) (enc : TypeId × Value → H) :
    ReturnsInHanded {} Yba.checked os 3 .any (Rows.lawS2110CDecodeSpec.pre6 enc Yba.prog Yba.f3 Rows.lawS2110CDecodeRow.domain false) (Rows.lawS2110CDecodeSpec.post enc Yba.prog Yba.f3 false true false false) := by
  refine returnsInHanded_of_change (C := Yba.checked) own started (by kernel_rfl) Yba.func3
    (ChangeSpec.witness6 (enc := enc) (C := Yba.checked) false ⟨#[], #[.slice none 0 0, .bool false, .int .i64 0, .int .u64 0, .slice none 0 0], []⟩ 8 (by kernel_rfl) (by kernel_rfl) (by kernel_rfl) (by kernel_rfl)) ?_
  intro W base args ds gs before hval0 hW hcnd _
  have hval : ∀ (j : Nat) t v, Yba.f3.params[j]? = some t → args[j]? = some v → Value.okWide Yba.prog W .any base t v := hval0
  have hW' := hW
  obtain ⟨p, q, hA0, hV, rfl, hfz, hnd⟩ := hW
  have hA : DataW.TrodAll enc Yba.prog W 0 (fun _ => true) true Yba.f3.params.toList args.toList ds p := hA0
  rw [Yba.params3] at hA hval
  obtain ⟨v0, vs0, d0, ds0, p0, q0, hargs, rfl, rfl, h0, r0⟩ := trodAll_cons hA
  obtain ⟨v1, vs1, d1, ds1, p1, q1, rfl, rfl, rfl, h1, r1⟩ := trodAll_cons r0
  obtain ⟨v2, vs2, d2, ds2, p2, q2, rfl, rfl, rfl, h2, r2⟩ := trodAll_cons r1
  obtain ⟨v3, vs3, d3, ds3, p3, q3, rfl, rfl, rfl, h3, r3⟩ := trodAll_cons r2
  obtain ⟨v4, vs4, d4, ds4, p4, q4, rfl, rfl, rfl, h4, r4⟩ := trodAll_cons r3
  obtain ⟨rfl, rfl, rfl⟩ := trodAll_nil r4
  obtain rfl : args = #[v0, v1, v2, v3, v4] := by cases args; simp_all
  obtain ⟨rfl, rfl⟩ := trodVars_none hV
  obtain ⟨a0, len0, cap0, rfl⟩ := okWide_slice Yba.underlying22 (hval 0 22 v0 rfl rfl)
  obtain ⟨ac, lc, cc, rfl⟩ := okWide_slice Yba.underlying24 (hval 4 24 v4 rfl rfl)
  have k0 := h0
  have lt0 : ∀ x ∈ p0, x.block < W.heap.size := by obtain ⟨m, hm⟩ := k0; exact DataW.trod_lt m _ _ _ hm
  have k4 := h4
  have lt4 : ∀ x ∈ p4, x.block < W.heap.size := by obtain ⟨m, hm⟩ := k4; exact DataW.trod_lt m _ _ _ hm
  obtain ⟨l0, f1, f2, f3⟩ : ∃ l0 : List UInt8, (a0 = none → cap0 = 0) ∧ len0 ≤ 9223372036854775807 ∧ ∀ wx, Below W.heap.size W wx → Bs wx a0 len0 l0 := by
    obtain ⟨fuel, hf⟩ := h0
    rcases open_ints Yba.underlying22 Yba.underlying5 (by kernel_rfl) hf with ⟨hcs, _⟩ | ⟨x, l, c, zs, hcs, _, hl, hm, hz, _, hcell, hwz⟩
    · simp [Value.cells] at hcs
      obtain ⟨rfl, rfl, rfl⟩ := hcs
      exact ⟨[], fun _ => rfl, by omega, fun wx _ => bs_nil wx⟩
    · simp [Value.cells] at hcs
      obtain ⟨rfl, rfl, rfl⟩ := hcs
      have hz' : zs.length = cap0 := by simpa using hz
      unfold maxLen at hm
      exact ⟨_, (fun h => by cases h), by omega, bs_of_ints (fun i hi => hcell i (by omega)) hl hz' hwz⟩
  obtain ⟨A, L, C, D, f4, f5, f6, f7⟩ : ∃ (A : Nat → Option Addr) (L C : Nat → Nat) (D : Nat → List UInt8), lc ≤ 9223372036854775807 ∧ (∀ i, i < lc → L i ≤ 9223372036854775807) ∧ (∀ i, i < lc → L i = (D i).length ∧ (A i = none → C i = 0)) ∧
      ∀ i, i < lc → ∃ bc oc, ac = some ⟨bc, oc, none⟩ ∧ ∀ wx, Below W.heap.size W wx → wx.cell? ⟨bc, oc + i, none⟩ = some (.slice (A i) (L i) (C i)) ∧ Bs wx (A i) (L i) (D i) := by
    obtain ⟨fuel, hf⟩ := h4
    rcases open_int_rows Yba.underlying24 Yba.underlying22 Yba.underlying5 (by kernel_rfl) (by kernel_rfl) hf with ⟨hcs, _⟩ | ⟨x, l, c, A, L, C, Z, hcs, _, hl, hm, _, hr⟩
    · simp [Value.cells] at hcs
      obtain ⟨rfl, rfl, rfl⟩ := hcs
      exact ⟨fun _ => none, fun _ => 0, fun _ => 0, fun _ => [], by omega, fun i hi => absurd hi (by omega), fun i hi => absurd hi (by omega), fun i hi => absurd hi (by omega)⟩
    · simp [Value.cells] at hcs
      obtain ⟨rfl, rfl, rfl⟩ := hcs
      unfold maxLen at hm hr
      refine ⟨A, L, C, fun i => bytesOf ((Z i).take (L i)), by omega, fun i hi => ?_, fun i hi => ?_, fun i hi => ?_⟩
      · obtain ⟨_, g1, g2, _⟩ := hr i (by omega); omega
      · obtain ⟨_, g1, g2, g3, _, g5, _⟩ := hr i (by omega)
        exact ⟨by simp [bytesOf, g3]; omega, g5⟩
      · obtain ⟨g0, g1, g2, g3, g4, g5, g6⟩ := hr i (by omega)
        obtain ⟨b, off, spot⟩ := x
        have hspot : spot = none := by simpa [Addr.add] using World.cell?_spot (hr 0 (by omega)).1
        subst hspot
        refine ⟨b, off, rfl, fun wx hwx => ⟨?_, ?_⟩⟩
        · rw [← Go.WideShapes.add_plain, hwx.cell (World.block_lt_of_cell? _ _ g0), g0]
        · cases hAi : A i with
          | none =>
            have hC0 := g5 hAi
            have hL0 : L i = 0 := by omega
            have e : bytesOf ((Z i).take (L i)) = [] := by rw [hL0]; rfl
            show Bs wx none (L i) (bytesOf ((Z i).take (L i)))
            rw [e, hL0]
            exact bs_nil wx
          | some a' => exact bs_of_ints (g6 a' hAi).2 g1 g3 g4 wx hwx
  obtain ⟨a1, rfl, rfl, rfl⟩ := open_bool Yba.underlying4 (hval 1 4 v1 rfl rfl) h1
  obtain ⟨a2, rfl, rfl, rfl, w2⟩ := open_int Yba.underlying3 (hval 2 3 v2 rfl rfl) h2
  obtain ⟨a3, rfl, rfl, rfl, w3⟩ := open_int Yba.underlying23 (hval 3 23 v3 rfl rfl) h3
  clear hA0 hval0
  have hb3 : 0 ≤ a3 ∧ a3 < 18446744073709551616 := by
    have := w3
    simp [Lit.wf, IntKind.min, IntKind.max, IntKind.signed, IntKind.bits] at this
    omega
  obtain ⟨x, hx⟩ := Int.eq_ofNat_of_zero_le hb3.1
  have hargs2 : Args W a0 len0 cap0 l0 ac lc A L C D := ⟨f1, f2, f4, f5, f3, f6, f7⟩
  have hwalk : Calls Yba.prog 3 #[.slice a0 len0 cap0, .bool a1, .int .i64 a2, .int .u64 a3, .slice ac lc cc] W fun e w' => e = .returned (.bool true) ∧ Below W.heap.size W w' := by
    rw [hx]
    cases a1 with
    | false => exact walk_no a0 len0 cap0 l0 a2 x ac lc cc A L C D W hargs2
    | true => exact walk_yes a0 len0 cap0 l0 a2 x ac lc cc A L C D W (by omega) hargs2
  refine hwalk.mono fun e W' ⟨he, bel⟩ => ?_
  subst he
  exact ⟨_, rfl, _, _, _, [], _, [], hW', trodAll_mk1 (shut_bool Yba.underlying4 _), (trodAll_cons_mk (Below.trod laidOut (by kernel_rfl) (of_decide_eq_true (by kernel_rfl)) k0 bel lt0) (trodAll_cons_mk (shut_bool Yba.underlying4 _) (trodAll_cons_mk (shut_int Yba.underlying3 w2) (trodAll_cons_mk (shut_int Yba.underlying23 w3) (trodAll_cons_mk (Below.trod laidOut (by kernel_rfl) (of_decide_eq_true (by kernel_rfl)) k4 bel lt4) trodAll_mk0))))), rfl, bel.frame _, fun h => by cases h⟩

theorem over : Rows.lawS2110CDecodeRow.holds Yba.pinned (OpenSpec.ofChange Rows.lawS2110CDecodeSpec) :=
  OpenClaim.holds_of_wide 3 Yba.f3 rfl rfl rfl rfl rfl rfl rfl ⟨rfl, rfl, rfl, rfl, rfl⟩ rfl rfl rfl rfl rfl (by kernel_rfl) Yba.func3 (by kernel_rfl)
    (of_decide_eq_true (by kernel_rfl)) (by unfold Func.isWrapper; first | (rw [if_pos (by decide +kernel)]; kernel_rfl) | (rw [if_neg (by decide +kernel)]; exact ⟨rfl, rfl⟩))
    (fun os started H enc _ => lifted os started H enc)

theorem proved : Rows.LawS2110CDecodeSaid := over
#print axioms proved
end Go.Proofs.Ybulkaqre.lawS2110CDecode
