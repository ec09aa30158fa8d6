/-
  A proof of 'Rows.LawS2074CIndexSaid'. The frame is the seat's shell; the walk is ours.
-/
import Derived.Test.YbulkapxuRows
import Derived.WalkKit
import Derived.ProofKit
import Derived.OpenShut
import Derived.ShutString
import Derived.ChangeOld
import Derived.Below
import Derived.Test.YbulkapxuIndexActive
import Derived.Test.YbulkapxuBuild
namespace Go.Proofs.Ybulkapxu.lawS2074CIndex
open Go.ChangeShapes Go.WideShapes Go.ChangeAt Go.RowKit
open Go.ChangeMaps (open_string shut_string)
set_option linter.unusedVariables false

theorem own : ownKnob Yba.prog.godebug = none := by kernel_rfl
theorem laidOut : laidOutB Yba.prog = true := by kernel_rfl

/-- WHAT THE WALK IS TOLD OF A SLICE OF INTEGERS THAT CAME IN: it is nil; or it leads to a row of 'cap' cells, the numbers 'zs' (the first 'len' are its elements, the rest its spare room), each fitting its kind. -/
def IsRow (k : IntKind) (w : World) (a : Option Addr) (len cap : Nat) (zs : List Int) : Prop :=
  (a = none ∧ len = 0 ∧ cap = 0 ∧ zs = []) ∨
  ∃ x, a = some x ∧ len ≤ cap ∧ cap ≤ maxLen ∧ zs.length = cap ∧ (∀ i, i < zs.length → w.cell? (x.add i) = some (.int k (zs.getD i 0))) ∧ ∀ n ∈ zs, (Lit.int k n).wf = true

theorem row_cells {w : World} {a0 : Option Addr} {len0 cap0 : Nat} {z0 : List Int} (w0 : IsRow .u8 w a0 len0 cap0 z0) :
    ∀ i, i < len0 → ∃ b o, a0 = some ⟨b, o, none⟩ ∧ b < w.heap.size ∧ w.cell? ⟨b, o + i, none⟩ = some (.int .u8 (z0.getD i 0)) ∧ 0 ≤ z0.getD i 0 ∧ z0.getD i 0 ≤ 255 := by
  intro i hi
  rcases w0 with ⟨_, h, _⟩ | ⟨x, rfl, hlc, _, hzl, hc, hwf⟩
  · omega
  · obtain ⟨b, off, rfl, hc'⟩ := ints_at hc (by omega)
    have hci := hc' i (by omega)
    have hb := range_u8 hwf i
    simp only [← List.getD_eq_getElem?_getD] at hb
    exact ⟨b, off, rfl, World.block_lt_of_cell? _ _ hci, hci, hb.1, hb.2⟩

theorem built_facts {B m n : Nat} {f : Nat → Option Addr} {w : World} (h : Built B m n f w) (o : Obj) (pe : Option Addr) (hpe : pe = none ∨ ∃ j, j < m ∧ pe = some ⟨B + 1 + j, 0, none⟩) :
    (∀ i, i < n → (w.alloc o).cell? ⟨B + 1 + m, i, none⟩ = some (.pointer (f i))) ∧ (∀ i, i < n → PtrOk (w.alloc o) (f i)) ∧ PtrOk (w.alloc o) pe := by
  have key : ∀ p : Option Addr, (p = none ∨ ∃ j, j < m ∧ p = some ⟨B + 1 + j, 0, none⟩) → PtrOk (w.alloc o) p := by
    intro p hp a ha
    rcases hp with hp | ⟨j, hj, hp⟩
    · rw [hp] at ha; cases ha
    · rw [hp] at ha
      obtain rfl := Option.some.inj ha
      have hs := h.size
      exact ⟨_, _, (Below.heap_alloc _ _ _ (by simp; omega)).trans (h.entry j hj)⟩
  exact ⟨fun i hi => (h.act.alloc o).cell hi, fun i hi => key _ (h.each i hi), key _ hpe⟩

theorem hide {p : Prop} (h : p) : Hid p := h
theorem unhide {p : Prop} (h : Hid p) : p := h

/-! ### STEP 1: THE WALK: the Go text returns true, AND WRITES NOTHING THAT WAS THERE: 'Below w.heap.size w w'' (Derived/Below.lean: '.refl', '.alloc', '.drew', '.setCell' at a new block, '.trans'). Open each 'IsRow' by 'rcases' AHEAD of 'go_enter'; part every test ahead of the walk. -/
theorem walk (a0 : Option Addr) (len0 cap0 : Nat) (z0 : List Int) (a1 : Int) (a2 : Int) (w : World) (w0 : IsRow .u8 w a0 len0 cap0 z0) (w1 : (Lit.int .u8 a1).wf = true) (w2 : (Lit.int .u8 a2).wf = true) :
    Calls Yba.prog 4 #[.slice a0 len0 cap0, .int .u8 a1, .int .u8 a2] w fun e w' => e = .returned (.bool true) ∧ Below w.heap.size w w' := by
  have hb1 := bounds_u8 w1
  have hb2 := bounds_u8 w2
  by_cases hlen : len0 ≤ 1024
  · have hz := row_cells w0
    go_enter Yba.func4, Yba.ntmps4
    go_wp2_with fail
    refine (build_any a0 len0 cap0 z0 a1 w hb1.1 hb1.2 hlen hz).mono ?_
    rintro e w1' ⟨m, f, hm1, hm5, rfl, hB, hbel⟩
    clear hz w0
    obtain ⟨j, hj⟩ : ∃ j : Nat, a2 % ((m : Int) + 1) = (j : Int) := ⟨(a2 % ((m : Int) + 1)).toNat, by have := Int.emod_nonneg a2 (show ((m : Int) + 1) ≠ 0 by omega); omega⟩
    have hj2 : j < m + 1 := by have := Int.emod_lt_of_pos a2 (show (0:Int) < (m : Int) + 1 by omega); omega
    by_cases hjm : j < m
    · have hcp := hB.pool.cell hjm
      have hk : ∀ o, (∀ i, i < len0 → (w1'.alloc o).cell? ⟨w.heap.size + 1 + m, i, none⟩ = some (.pointer (f i))) ∧ (∀ i, i < len0 → PtrOk (w1'.alloc o) (f i)) ∧ PtrOk (w1'.alloc o) (some ⟨w.heap.size + 1 + j, 0, none⟩) := fun o => built_facts hB o (some ⟨w.heap.size + 1 + j, 0, none⟩) (by exact .inr ⟨j, hjm, rfl⟩)
      go_wp2_with fail
      refine (indexActive_any w1'.heap.size (w.heap.size + 1 + m) len0 len0 f (some ⟨w.heap.size + 1 + j, 0, none⟩) _ hlen (by simp) (hk _).1 (hk _).2.1 (hk _).2.2).mono ?_
      rintro e w2' ⟨rfl, rfl⟩
      have hlb := fun k => lastIdx_bd f (some ⟨w.heap.size + 1 + j, 0, none⟩) k
      obtain ⟨got, hgot⟩ : ∃ g, g = lastIdx f (some ⟨w.heap.size + 1 + j, 0, none⟩) len0 := ⟨_, rfl⟩
      rw [← hgot]
      have HG := hide hgot
      have HK := hide hk
      clear hgot hk
      go_wp2
      go_loop [13, 14] (fun v i => ∃ k : Nat, k ≤ len0 ∧ i = .int .i64 k ∧ v = .int .i64 (lastIdx f (some ⟨w.heap.size + 1 + j, 0, none⟩) k)) (fun _ i => len0 - (intOf i).toNat)
      case atStart => exact ⟨0, Nat.zero_le _, rfl, rfl⟩
      case round =>
        obtain ⟨k, hk, rfl, rfl⟩ := hrel
        by_cases hkl : k < len0
        · have hck := fun o => (unhide HK o).1 k hkl
          have hpk := fun o => (unhide HK o).2.1 k hkl
          have hpe := fun o => (unhide HK o).2.2
          by_cases hp : f k = some ⟨w.heap.size + 1 + j, 0, none⟩
          · have heq := fun wq => eql_yes wq (some ⟨w.heap.size + 1 + j, 0, none⟩)
            simp only [hp] at hck
            have HP := hide hp
            clear hp hpk hpe hlb
            go_wp2
            go_round
            case rel => exact ⟨k + 1, hkl, by go_num, by rw [lastIdx_yes (unhide HP)]⟩
            case measure => simp [intOf]; omega
          · have heq := fun o => eql_no _ _ _ (hpk o) (hpe o) hp
            have HP := hide hp
            clear hp hpk hpe hlb
            go_wp2
            go_round
            case rel => exact ⟨k + 1, hkl, by go_num, by rw [lastIdx_no (unhide HP)]⟩
            case measure => simp [intOf]; omega
        · obtain rfl : k = len0 := by omega
          have hll := hlb k
          have hgg : (got == lastIdx f (some ⟨w.heap.size + 1 + j, 0, none⟩) k) = true := by rw [unhide HG]; simp
          clear hlb
          go_wp2
          go_ret
          exact ⟨rfl, hbel.alloc hbel.size _⟩
    · skip
      have hk : ∀ o, (∀ i, i < len0 → (w1'.alloc o).cell? ⟨w.heap.size + 1 + m, i, none⟩ = some (.pointer (f i))) ∧ (∀ i, i < len0 → PtrOk (w1'.alloc o) (f i)) ∧ PtrOk (w1'.alloc o) (none) := fun o => built_facts hB o (none) (by exact .inl rfl)
      go_wp2_with fail
      refine (indexActive_any w1'.heap.size (w.heap.size + 1 + m) len0 len0 f (none) _ hlen (by simp) (hk _).1 (hk _).2.1 (hk _).2.2).mono ?_
      rintro e w2' ⟨rfl, rfl⟩
      have hlb := fun k => lastIdx_bd f (none) k
      obtain ⟨got, hgot⟩ : ∃ g, g = lastIdx f (none) len0 := ⟨_, rfl⟩
      rw [← hgot]
      have HG := hide hgot
      have HK := hide hk
      clear hgot hk
      go_wp2
      go_loop [13, 14] (fun v i => ∃ k : Nat, k ≤ len0 ∧ i = .int .i64 k ∧ v = .int .i64 (lastIdx f (none) k)) (fun _ i => len0 - (intOf i).toNat)
      case atStart => exact ⟨0, Nat.zero_le _, rfl, rfl⟩
      case round =>
        obtain ⟨k, hk, rfl, rfl⟩ := hrel
        by_cases hkl : k < len0
        · have hck := fun o => (unhide HK o).1 k hkl
          have hpk := fun o => (unhide HK o).2.1 k hkl
          have hpe := fun o => (unhide HK o).2.2
          by_cases hp : f k = none
          · have heq := fun wq => eql_yes wq (none)
            simp only [hp] at hck
            have HP := hide hp
            clear hp hpk hpe hlb
            go_wp2
            go_round
            case rel => exact ⟨k + 1, hkl, by go_num, by rw [lastIdx_yes (unhide HP)]⟩
            case measure => simp [intOf]; omega
          · have heq := fun o => eql_no _ _ _ (hpk o) (hpe o) hp
            have HP := hide hp
            clear hp hpk hpe hlb
            go_wp2
            go_round
            case rel => exact ⟨k + 1, hkl, by go_num, by rw [lastIdx_no (unhide HP)]⟩
            case measure => simp [intOf]; omega
        · obtain rfl : k = len0 := by omega
          have hll := hlb k
          have hgg : (got == lastIdx f (none) k) = true := by rw [unhide HG]; simp
          clear hlb
          go_wp2
          go_ret
          exact ⟨rfl, hbel.alloc hbel.size _⟩
  · go_enter Yba.func4, Yba.ntmps4
    go_wp2
    go_ret
    exact ⟨rfl, Below.refl _ _⟩

/-! ### THE ROW's STEP: WRITTEN OUT: LEAVE IT -/
set_option maxRecDepth 100000 in
theorem lifted (os : Os) (started : os.Started) (H : Type) (enc : TypeId × Value → H) :
    ReturnsInHanded {} Yba.checked os 4 .any (Rows.lawS2074CIndexSpec.pre6 enc Yba.prog Yba.f4 Rows.lawS2074CIndexRow.domain false) (Rows.lawS2074CIndexSpec.post enc Yba.prog Yba.f4 false true false false) := by
  refine returnsInHanded_of_change (C := Yba.checked) own started (by kernel_rfl) Yba.func4
    (ChangeSpec.witness6 (enc := enc) (C := Yba.checked) false ⟨#[], #[.slice none 0 0, .int .u8 0, .int .u8 0], []⟩ 8 (by kernel_rfl) (by kernel_rfl) (by kernel_rfl) (by kernel_rfl)) ?_
  intro W base args ds gs before hval0 hW hcnd _
  have hval : ∀ (j : Nat) t v, Yba.f4.params[j]? = some t → args[j]? = some v → Value.okWide Yba.prog W .any base t v := hval0
  have hW' := hW
  obtain ⟨p, q, hA0, hV, rfl, hfz, hnd⟩ := hW
  have hA : DataW.TrodAll enc Yba.prog W 0 (fun _ => true) true Yba.f4.params.toList args.toList ds p := hA0
  rw [Yba.params4] at hA hval
  obtain ⟨v0, vs0, d0, ds0, p0, q0, hargs, rfl, rfl, h0, r0⟩ := trodAll_cons hA
  obtain ⟨v1, vs1, d1, ds1, p1, q1, rfl, rfl, rfl, h1, r1⟩ := trodAll_cons r0
  obtain ⟨v2, vs2, d2, ds2, p2, q2, rfl, rfl, rfl, h2, r2⟩ := trodAll_cons r1
  obtain ⟨rfl, rfl, rfl⟩ := trodAll_nil r2
  obtain rfl : args = #[v0, v1, v2] := by cases args; simp_all
  obtain ⟨rfl, rfl⟩ := trodVars_none hV
  obtain ⟨a0, len0, cap0, rfl⟩ := okWide_slice Yba.underlying22 (hval 0 22 v0 rfl rfl)
  have k0 := h0
  have lt0 : ∀ x ∈ p0, x.block < W.heap.size := by obtain ⟨m, hm⟩ := k0; exact DataW.trod_lt m _ _ _ hm
  obtain ⟨z0, w0⟩ : ∃ zs, IsRow .u8 W a0 len0 cap0 zs := by
    obtain ⟨fuel, hf⟩ := h0
    rcases open_ints Yba.underlying22 Yba.underlying5 (by kernel_rfl) hf with ⟨hcs, _⟩ | ⟨x, l, c, zs, hcs, _, hl, hm, hz, _, hcell, hwz⟩
    · simp [Value.cells] at hcs
      obtain ⟨rfl, rfl, rfl⟩ := hcs
      exact ⟨[], .inl ⟨rfl, rfl, rfl, rfl⟩⟩
    · simp [Value.cells] at hcs
      obtain ⟨rfl, rfl, rfl⟩ := hcs
      exact ⟨zs, .inr ⟨_, rfl, hl, hm, by simpa using hz, hcell, hwz⟩⟩
  obtain ⟨a1, rfl, rfl, rfl, w1⟩ := open_int Yba.underlying5 (hval 1 5 v1 rfl rfl) h1
  obtain ⟨a2, rfl, rfl, rfl, w2⟩ := open_int Yba.underlying5 (hval 2 5 v2 rfl rfl) h2
  clear hA0 hval0
  refine (walk a0 len0 cap0 z0 a1 a2 W w0 w1 w2).mono fun e W' ⟨he, bel⟩ => ?_
  subst he
  exact ⟨_, rfl, _, _, _, [], _, [], hW', trodAll_mk1 (shut_bool Yba.underlying4 _), (trodAll_cons_mk (Below.trod laidOut (by kernel_rfl) (of_decide_eq_true (by kernel_rfl)) k0 bel lt0) (trodAll_cons_mk (shut_int Yba.underlying5 w1) (trodAll_cons_mk (shut_int Yba.underlying5 w2) trodAll_mk0))), rfl, bel.frame _, fun h => by cases h⟩

theorem over : Rows.lawS2074CIndexRow.holds Yba.pinned (OpenSpec.ofChange Rows.lawS2074CIndexSpec) :=
  OpenClaim.holds_of_wide 4 Yba.f4 rfl rfl rfl rfl rfl rfl rfl ⟨rfl, rfl, rfl, rfl, rfl⟩ rfl rfl rfl rfl rfl (by kernel_rfl) Yba.func4 (by kernel_rfl)
    (of_decide_eq_true (by kernel_rfl)) (by unfold Func.isWrapper; first | (rw [if_pos (by decide +kernel)]; kernel_rfl) | (rw [if_neg (by decide +kernel)]; exact ⟨rfl, rfl⟩))
    (fun os started H enc _ => lifted os started H enc)

/-- ████ THE STATEMENT ████ -/
theorem proved : Rows.LawS2074CIndexSaid := over
#print axioms proved
end Go.Proofs.Ybulkapxu.lawS2074CIndex
