/-
  A proof of 'Rows.LawS2095AModelSaid'. The frame is the seat's shell; the walk is ours.
-/
import Derived.Test.YbulkaqjcRows
import Derived.WalkKit
import Derived.ProofKit
import Derived.OpenShut
import Derived.ShutString
import Derived.ChangeOld
import Derived.Below
import Derived.Test.YbulkaqjcBuild
namespace Go.Proofs.Ybulkaqjc.lawS2095AModel
open Go.ChangeShapes Go.WideShapes Go.ChangeAt Go.RowKit
open Go.ChangeMaps (open_string shut_string)
set_option linter.unusedVariables false

theorem own : ownKnob Yba.prog.godebug = none := by kernel_rfl
theorem laidOut : laidOutB Yba.prog = true := by kernel_rfl

/-- WHAT THE WALK IS TOLD OF A SLICE OF INTEGERS THAT CAME IN: it is nil; or it leads to a row of 'cap' cells, the numbers 'zs' (the first 'len' are its elements, the rest its spare room), each fitting its kind. -/
def IsRow (k : IntKind) (w : World) (a : Option Addr) (len cap : Nat) (zs : List Int) : Prop :=
  (a = none ∧ len = 0 ∧ cap = 0 ∧ zs = []) ∨
  ∃ x, a = some x ∧ len ≤ cap ∧ cap ≤ maxLen ∧ zs.length = cap ∧ (∀ i, i < zs.length → w.cell? (x.add i) = some (.int k (zs.getD i 0))) ∧ ∀ n ∈ zs, (Lit.int k n).wf = true

theorem row_cells {w : World} {a0 : Option Addr} {len0 cap0 : Nat} {z0 : List Int} (w0 : IsRow .u8 w a0 len0 cap0 z0) :
    ∀ i, i < len0 → ∃ b o, a0 = some ⟨b, o, none⟩ ∧ b < w.heap.size ∧ w.cell? ⟨b, o + i, none⟩ = some (.int .u8 (z0.getD i 0)) ∧ 0 ≤ z0.getD i 0 ∧ z0.getD i 0 ≤ 255 := by
  intro i hi
  rcases w0 with ⟨_, h, _⟩ | ⟨x, rfl, hlc, _, hzl, hc, hwf⟩
  · omega
  · obtain ⟨b, off, rfl, hc'⟩ := ints_at hc (by omega)
    have hci := hc' i (by omega)
    have hb := range_u8 hwf i
    simp only [← List.getD_eq_getElem?_getD] at hb
    exact ⟨b, off, rfl, World.block_lt_of_cell? _ _ hci, hci, hb.1, hb.2⟩

theorem belowN {B : Nat} {a w : World} (h : Below B a w) (n : Nat) : Below B a (w.drewN n) := h.trans (Below.mk rfl rfl rfl (Nat.le_refl _) (fun _ _ => rfl))

/-! ### STEP 1: THE WALK: the Go text returns true, AND WRITES NOTHING THAT WAS THERE: 'Below w.heap.size w w'' (Derived/Below.lean: '.refl', '.alloc', '.drew', '.setCell' at a new block, '.trans'). Open each 'IsRow' by 'rcases' AHEAD of 'go_enter'; part every test ahead of the walk. -/
set_option maxHeartbeats 8000000 in
set_option maxRecDepth 100000 in
theorem walk (a0 : Option Addr) (len0 cap0 : Nat) (z0 : List Int) (a1 : Int) (a2 : Int) (w : World) (w0 : IsRow .u8 w a0 len0 cap0 z0) (w1 : (Lit.int .u16 a1).wf = true) (w2 : (Lit.int .u16 a2).wf = true) :
    Calls Yba.prog 3 #[.slice a0 len0 cap0, .int .u16 a1, .int .u16 a2] w fun e w' => e = .returned (.bool true) ∧ Below w.heap.size w w' := by
  have hb1 := bounds_u16 w1
  have hb2 := bounds_u16 w2
  by_cases hlen : len0 ≤ 1024
  · have hz := row_cells w0
    have hz' : ∀ i, i < len0 → ∃ b o, a0 = some ⟨b, o, none⟩ ∧ b < (w.alloc (.cells #[.int .u16 a2] 23)).heap.size ∧ (w.alloc (.cells #[.int .u16 a2] 23)).cell? ⟨b, o + i, none⟩ = some (.int .u8 (z0.getD i 0)) ∧ 0 ≤ z0.getD i 0 ∧ z0.getD i 0 ≤ 255 := by
      intro i hi
      obtain ⟨b, o, h1, h2, h3, h4, h5⟩ := hz i hi
      exact ⟨b, o, h1, by simp; omega, (World.cell?_alloc_past _ _ _ h2).trans h3, h4, h5⟩
    have hbld := build_any a0 len0 cap0 z0 _ hlen hz'
    simp only [World.size_alloc] at hbld
    have HBL := hide hbld
    clear hz hz' hbld w0 w1 w2
    obtain ⟨f, hf⟩ : ∃ f : Nat, a1 % ((len0 : Int) + 1) = (f : Int) := ⟨(a1 % ((len0 : Int) + 1)).toNat, by have := Int.emod_nonneg a1 (show ((len0 : Int) + 1) ≠ 0 by omega); omega⟩
    have hfn : f ≤ len0 := by have := Int.emod_lt_of_pos a1 (show (0:Int) < (len0 : Int) + 1 by omega); omega
    go_enter Yba.func3, Yba.ntmps3
    go_wp2_with fail
    refine (unhide HBL).mono ?_
    rintro e w1' ⟨g, rfl, hrow, hg, hsz, hbel⟩
    clear HBL
    have hmc : w1'.cell? ⟨w.heap.size, 0, none⟩ = some (.int .u16 a2) := (hbel.cell (p := ⟨w.heap.size, 0, none⟩) (by simp)).trans (by simp)
    have hrow' : ∀ i, i < len0 → w1'.cell? ⟨w.heap.size + 1, i, none⟩ = some (.int .u8 (g i)) ∧ 0 ≤ g i ∧ g i ≤ 255 := fun i hi => ⟨hrow.cell hi, hg i⟩
    have hbel1 : Below w.heap.size w w1' := ((Below.refl _ _).alloc (Nat.le_refl _) _).trans (hbel.mono (by simp))
    obtain ⟨D, hD⟩ : ∃ D : Nat → Bool, ∀ i, D i = dig a2 (g i) := ⟨_, fun _ => rfl⟩
    obtain ⟨U, hU⟩ : ∃ U : Nat → Bool, ∀ i, U i = (g i == 95) := ⟨_, fun _ => rfl⟩
    have HD := hide hD
    have HU := hide hU
    have HROW := hide hrow'
    have HMC := hide hmc
    have HB1 := hide hbel1
    clear hD hU hrow hrow' hg hbel hbel1 hsz
    go_wp2
    simp only [hf]
    clear hf
    go_loopw [11] (fun i wr => ∃ k nq : Nat, f ≤ k ∧ k ≤ len0 ∧ i = .int .i64 k ∧ RunTo D U f k ∧ wr = w1'.drewN nq) (fun i _ => len0 - (intOf i).toNat)
    case atStart => exact ⟨f, 0, Nat.le_refl _, hfn, rfl, fun i h1 h2 => absurd h2 (by omega), rfl⟩
    case round =>
      obtain ⟨j, nq, hfj, hjn, rfl, hrun, hwr⟩ := hrel
      have HRun := hide hrun
      have HROW' : Hid (∀ i, i < len0 → wr.cell? ⟨w.heap.size + 1, i, none⟩ = some (.int .u8 (g i)) ∧ 0 ≤ g i ∧ g i ≤ 255) := by rw [hwr]; exact HROW
      have HMC' : Hid (wr.cell? ⟨w.heap.size, 0, none⟩ = some (.int .u16 a2)) := by rw [hwr]; exact HMC
      have HB1' : Hid (Below w.heap.size w wr) := by rw [hwr]; exact belowN (unhide HB1) _
      have hmc' := unhide HMC'
      have HW := hide hwr
      clear hrun hwr HROW HMC HB1 hmc
      by_cases hlt : j < len0
      · obtain ⟨hc, hg0, hg1⟩ := unhide HROW' j hlt
        have ED := hide (unhide HD j)
        have EU := hide (unhide HU j)
        have hdl : decide ((j : Int) < (len0 : Int)) = true := by simp; omega
        cases hd : dig a2 (g j) with
        | true =>
          go_wp2
          go_quiet ((go_at_call 7; exact Calls.quiet_of_same (dig_any a2 _ (by assumption) (by assumption) _)))
          go_wp2
          go_roundw
          case rel => exact ⟨j + 1, _, by omega, by omega, by go_num, (unhide HRun).step (.inl ((unhide ED).trans hd)), by rw [unhide HW, World.drewN_drewN]⟩
          case measure => simp [intOf]; omega
        | false =>
          cases hu : (g j == 95) with
          | true =>
            go_wp2
            go_quiet ((go_at_call 7; exact Calls.quiet_of_same (dig_any a2 _ (by assumption) (by assumption) _)))
            go_wp2
            go_roundw
            case rel => exact ⟨j + 1, _, by omega, by omega, by go_num, (unhide HRun).step (.inr ((unhide EU).trans hu)), by rw [unhide HW, World.drewN_drewN]⟩
            case measure => simp [intOf]; omega
          | false =>
            have HE := hide (show EndsAt D U f len0 j from ⟨hfj, hjn, unhide HRun, .inr ⟨(unhide ED).trans hd, (unhide EU).trans hu⟩⟩)
            go_wp2
            go_quiet ((go_at_call 7; exact Calls.quiet_of_same (dig_any a2 _ (by assumption) (by assumption) _)))
            go_wp2
            clear hc hg0 hg1 hd hu ED EU hdl
            go_loop [12, 13, 14, 15] (fun e q m i => ∃ k : Nat, f ≤ k ∧ k ≤ j ∧ e = .bool false ∧ q = .int .i64 0 ∧ m = .string ⟨#[]⟩ ∧ i = .int .i64 k ∧ Fine D U f len0 k) (fun _ _ _ i => j - (intOf i).toNat)
            case atStart => exact ⟨f, Nat.le_refl _, hfj, rfl, rfl, rfl, rfl, fun i h1 h2 => absurd h2 (by omega)⟩
            case round =>
              obtain ⟨k, hfk, hkj', rfl, rfl, rfl, rfl, hfine⟩ := hrel
              have HF := hide hfine
              clear hfine
              by_cases hkj : k < j
              · obtain ⟨hc, hg0, hg1⟩ := unhide HROW' k (by omega)
                have EU := hide (unhide HU k)
                have hlast := last_iff (unhide HE) hfk hkj
                have HLA := hide hlast
                clear hlast
                cases hu : (g k == 95) with
                | false =>
                  have hu2 : (g k != 95) = true := by simp [bne, hu]
                  go_wp2
                  go_round
                  case rel => exact ⟨k + 1, by omega, by omega, rfl, rfl, rfl, by go_num, (unhide HF).step (kind0 ((unhide EU).trans hu))⟩
                  case measure => simp [intOf]; omega
                | true =>
                  have hu2 : (g k != 95) = false := by simp [bne, hu]
                  by_cases hff : f < k
                  · obtain ⟨q, rfl⟩ : ∃ q, k = q + 1 := ⟨k - 1, by omega⟩
                    obtain ⟨hcq, hq0, hq1⟩ := unhide HROW' q (by omega)
                    have EUq := hide (unhide HU q)
                    cases hv : (g q == 95) with
                    | true =>
                      have HK := hide (kind2 (D := D) (n := len0) ((unhide EU).trans hu) hff ((unhide EUq).trans hv))
                      go_wp2_with fail
                      refine (digitsEnd_at (w.heap.size + 1) len0 len0 f w.heap.size a2 g D U _ hlen hfn (unhide HD) (unhide HU) (by exact unhide HROW') (by exact unhide HMC')).mono ?_
                      rintro e w3 (⟨j', rfl, rfl, hE', hF'⟩ | ⟨k', msg, pb, rfl, hp0, hp1, hbw, h1, h2, h3, h4, h5⟩)
                      · exfalso
                        obtain rfl := endsAt_unique (unhide HE) hE'
                        have h0 := hF' (q + 1) hfk hkj
                        have h1 := unhide HK
                        omega
                      · have hkk : q + 1 = k' := first_unique hfk h1 (unhide HF) (by have := unhide HK; omega) h4 (by rcases h5 with ⟨h5, _⟩ | ⟨h5, _⟩ <;> omega)
                        have hmsg : msg = msg2 := by
                          have h0 := unhide HK
                          rw [← hkk] at h5
                          rcases h5 with ⟨h5, h6⟩ | ⟨h5, h6⟩
                          · exact h6
                          · omega
                        clear h1 h2 h3 h4 h5
                        rw [hmsg] at hp1
                        rw [← hkk] at hp0
                        unfold msg2 at hp1
                        rw [show ((q + 1 : Nat) : Int) = (q : Int) + 1 from by omega] at hp0
                        have HBW := hide hbw
                        clear hkk hmsg hbw hcq
                        clear hc
                        go_wp2
                        go_ret
                        exact ⟨rfl, (belowN (unhide HB1') _).trans ((unhide HBW).mono (by simpa using (unhide HB1').size))⟩
                    | false =>
                      have hne : ¬ (f < q + 1 ∧ U (q + 1 - 1) = true) := by
                        rintro ⟨_, h⟩
                        rw [show q + 1 - 1 = q by omega, unhide EUq, hv] at h
                        cases h
                      have HNE := hide hne
                      clear hne
                      have hfe : (((q : Int) + 1) == (f : Int)) = false := by rw [beq_eq_false_iff_ne]; omega
                      by_cases hl : q + 1 + 1 = j
                      · have hle : (((q : Int) + 1) == (j : Int) - 1) = true := by rw [beq_iff_eq]; omega
                        have HK := hide (kind1 ((unhide EU).trans hu) (unhide HNE) (.inr ((unhide HLA).2 hl)))
                        clear hl
                        go_wp2_with fail
                        refine (digitsEnd_at (w.heap.size + 1) len0 len0 f w.heap.size a2 g D U _ hlen hfn (unhide HD) (unhide HU) (by exact unhide HROW') (by exact unhide HMC')).mono ?_
                        rintro e w3 (⟨j', rfl, rfl, hE', hF'⟩ | ⟨k', msg, pb, rfl, hp0, hp1, hbw, h1, h2, h3, h4, h5⟩)
                        · exfalso
                          obtain rfl := endsAt_unique (unhide HE) hE'
                          have h0 := hF' (q + 1) hfk hkj
                          have h1 := unhide HK
                          omega
                        · have hkk : q + 1 = k' := first_unique hfk h1 (unhide HF) (by have := unhide HK; omega) h4 (by rcases h5 with ⟨h5, _⟩ | ⟨h5, _⟩ <;> omega)
                          have hmsg : msg = msg1 := by
                            have h0 := unhide HK
                            rw [← hkk] at h5
                            rcases h5 with ⟨h5, h6⟩ | ⟨h5, h6⟩
                            · omega
                            · exact h6
                          clear h1 h2 h3 h4 h5
                          rw [hmsg] at hp1
                          rw [← hkk] at hp0
                          unfold msg1 at hp1
                          rw [show ((q + 1 : Nat) : Int) = (q : Int) + 1 from by omega] at hp0
                          have HBW := hide hbw
                          clear hkk hmsg hbw hcq
                          clear hc
                          go_wp2
                          go_ret
                          exact ⟨rfl, (belowN (unhide HB1') _).trans ((unhide HBW).mono (by simpa using (unhide HB1').size))⟩
                      · have hle : (((q : Int) + 1) == (j : Int) - 1) = false := by rw [beq_eq_false_iff_ne]; omega
                        have HK := hide (kind00 ((unhide EU).trans hu) (unhide HNE) (by
                          rintro (h | h)
                          · omega
                          · exact hl ((unhide HLA).1 h)))
                        go_wp2
                        go_round
                        case rel => exact ⟨q + 1 + 1, by omega, by omega, rfl, rfl, rfl, by go_num, (unhide HF).step (unhide HK)⟩
                        case measure => simp [intOf]; omega
                  · obtain rfl : f = k := by omega
                    have HK := hide (kind1 (D := D) (n := len0) ((unhide EU).trans hu) (by omega) (.inl rfl))
                    go_wp2_with fail
                    refine (digitsEnd_at (w.heap.size + 1) len0 len0 f w.heap.size a2 g D U _ hlen hfn (unhide HD) (unhide HU) (by exact unhide HROW') (by exact unhide HMC')).mono ?_
                    rintro e w3 (⟨j', rfl, rfl, hE', hF'⟩ | ⟨k', msg, pb, rfl, hp0, hp1, hbw, h1, h2, h3, h4, h5⟩)
                    · exfalso
                      obtain rfl := endsAt_unique (unhide HE) hE'
                      have h0 := hF' (f) hfk hkj
                      have h1 := unhide HK
                      omega
                    · have hkk : f = k' := first_unique hfk h1 (unhide HF) (by have := unhide HK; omega) h4 (by rcases h5 with ⟨h5, _⟩ | ⟨h5, _⟩ <;> omega)
                      have hmsg : msg = msg1 := by
                        have h0 := unhide HK
                        rw [← hkk] at h5
                        rcases h5 with ⟨h5, h6⟩ | ⟨h5, h6⟩
                        · omega
                        · exact h6
                      clear h1 h2 h3 h4 h5
                      rw [hmsg] at hp1
                      rw [← hkk] at hp0
                      unfold msg1 at hp1
                      have HBW := hide hbw
                      clear hkk hmsg hbw
                      clear hc
                      go_wp2
                      go_ret
                      exact ⟨rfl, (belowN (unhide HB1') _).trans ((unhide HBW).mono (by simpa using (unhide HB1').size))⟩
              · obtain rfl : k = j := by omega
                go_wp2_with fail
                refine (digitsEnd_at (w.heap.size + 1) len0 len0 f w.heap.size a2 g D U _ hlen hfn (unhide HD) (unhide HU) (by exact unhide HROW') (by exact unhide HMC')).mono ?_
                rintro e w3 (⟨j', rfl, rfl, hE', hF'⟩ | ⟨k', msg, pb, rfl, hp0, hp1, hbw, h1, h2, h3, h4, h5⟩)
                · obtain rfl := endsAt_unique (unhide HE) hE'
                  clear hE' hF'
                  go_wp2
                  go_ret
                  exact ⟨rfl, belowN (unhide HB1') _⟩
                · exfalso
                  have hin := inside (unhide HE) h2 h3
                  have h0 := (unhide HF) k' h1 hin
                  rcases h5 with ⟨h5, _⟩ | ⟨h5, _⟩ <;> omega
      · have HE := hide (show EndsAt D U f len0 j from ⟨hfj, hjn, unhide HRun, .inl (by omega)⟩)
        have hdl : decide ((j : Int) < (len0 : Int)) = false := by simp; omega
        go_wp2
        go_quiet (fail)
        go_wp2
        clear hdl
        go_loop [12, 13, 14, 15] (fun e q m i => ∃ k : Nat, f ≤ k ∧ k ≤ j ∧ e = .bool false ∧ q = .int .i64 0 ∧ m = .string ⟨#[]⟩ ∧ i = .int .i64 k ∧ Fine D U f len0 k) (fun _ _ _ i => j - (intOf i).toNat)
        case atStart => exact ⟨f, Nat.le_refl _, hfj, rfl, rfl, rfl, rfl, fun i h1 h2 => absurd h2 (by omega)⟩
        case round =>
          obtain ⟨k, hfk, hkj', rfl, rfl, rfl, rfl, hfine⟩ := hrel
          have HF := hide hfine
          clear hfine
          by_cases hkj : k < j
          · obtain ⟨hc, hg0, hg1⟩ := unhide HROW' k (by omega)
            have EU := hide (unhide HU k)
            have hlast := last_iff (unhide HE) hfk hkj
            have HLA := hide hlast
            clear hlast
            cases hu : (g k == 95) with
            | false =>
              have hu2 : (g k != 95) = true := by simp [bne, hu]
              go_wp2
              go_round
              case rel => exact ⟨k + 1, by omega, by omega, rfl, rfl, rfl, by go_num, (unhide HF).step (kind0 ((unhide EU).trans hu))⟩
              case measure => simp [intOf]; omega
            | true =>
              have hu2 : (g k != 95) = false := by simp [bne, hu]
              by_cases hff : f < k
              · obtain ⟨q, rfl⟩ : ∃ q, k = q + 1 := ⟨k - 1, by omega⟩
                obtain ⟨hcq, hq0, hq1⟩ := unhide HROW' q (by omega)
                have EUq := hide (unhide HU q)
                cases hv : (g q == 95) with
                | true =>
                  have HK := hide (kind2 (D := D) (n := len0) ((unhide EU).trans hu) hff ((unhide EUq).trans hv))
                  go_wp2_with fail
                  refine (digitsEnd_at (w.heap.size + 1) len0 len0 f w.heap.size a2 g D U _ hlen hfn (unhide HD) (unhide HU) (by exact unhide HROW') (by exact unhide HMC')).mono ?_
                  rintro e w3 (⟨j', rfl, rfl, hE', hF'⟩ | ⟨k', msg, pb, rfl, hp0, hp1, hbw, h1, h2, h3, h4, h5⟩)
                  · exfalso
                    obtain rfl := endsAt_unique (unhide HE) hE'
                    have h0 := hF' (q + 1) hfk hkj
                    have h1 := unhide HK
                    omega
                  · have hkk : q + 1 = k' := first_unique hfk h1 (unhide HF) (by have := unhide HK; omega) h4 (by rcases h5 with ⟨h5, _⟩ | ⟨h5, _⟩ <;> omega)
                    have hmsg : msg = msg2 := by
                      have h0 := unhide HK
                      rw [← hkk] at h5
                      rcases h5 with ⟨h5, h6⟩ | ⟨h5, h6⟩
                      · exact h6
                      · omega
                    clear h1 h2 h3 h4 h5
                    rw [hmsg] at hp1
                    rw [← hkk] at hp0
                    unfold msg2 at hp1
                    rw [show ((q + 1 : Nat) : Int) = (q : Int) + 1 from by omega] at hp0
                    have HBW := hide hbw
                    clear hkk hmsg hbw hcq
                    clear hc
                    go_wp2
                    go_ret
                    exact ⟨rfl, (belowN (unhide HB1') _).trans ((unhide HBW).mono (by simpa using (unhide HB1').size))⟩
                | false =>
                  have hne : ¬ (f < q + 1 ∧ U (q + 1 - 1) = true) := by
                    rintro ⟨_, h⟩
                    rw [show q + 1 - 1 = q by omega, unhide EUq, hv] at h
                    cases h
                  have HNE := hide hne
                  clear hne
                  have hfe : (((q : Int) + 1) == (f : Int)) = false := by rw [beq_eq_false_iff_ne]; omega
                  by_cases hl : q + 1 + 1 = j
                  · have hle : (((q : Int) + 1) == (j : Int) - 1) = true := by rw [beq_iff_eq]; omega
                    have HK := hide (kind1 ((unhide EU).trans hu) (unhide HNE) (.inr ((unhide HLA).2 hl)))
                    clear hl
                    go_wp2_with fail
                    refine (digitsEnd_at (w.heap.size + 1) len0 len0 f w.heap.size a2 g D U _ hlen hfn (unhide HD) (unhide HU) (by exact unhide HROW') (by exact unhide HMC')).mono ?_
                    rintro e w3 (⟨j', rfl, rfl, hE', hF'⟩ | ⟨k', msg, pb, rfl, hp0, hp1, hbw, h1, h2, h3, h4, h5⟩)
                    · exfalso
                      obtain rfl := endsAt_unique (unhide HE) hE'
                      have h0 := hF' (q + 1) hfk hkj
                      have h1 := unhide HK
                      omega
                    · have hkk : q + 1 = k' := first_unique hfk h1 (unhide HF) (by have := unhide HK; omega) h4 (by rcases h5 with ⟨h5, _⟩ | ⟨h5, _⟩ <;> omega)
                      have hmsg : msg = msg1 := by
                        have h0 := unhide HK
                        rw [← hkk] at h5
                        rcases h5 with ⟨h5, h6⟩ | ⟨h5, h6⟩
                        · omega
                        · exact h6
                      clear h1 h2 h3 h4 h5
                      rw [hmsg] at hp1
                      rw [← hkk] at hp0
                      unfold msg1 at hp1
                      rw [show ((q + 1 : Nat) : Int) = (q : Int) + 1 from by omega] at hp0
                      have HBW := hide hbw
                      clear hkk hmsg hbw hcq
                      clear hc
                      go_wp2
                      go_ret
                      exact ⟨rfl, (belowN (unhide HB1') _).trans ((unhide HBW).mono (by simpa using (unhide HB1').size))⟩
                  · have hle : (((q : Int) + 1) == (j : Int) - 1) = false := by rw [beq_eq_false_iff_ne]; omega
                    have HK := hide (kind00 ((unhide EU).trans hu) (unhide HNE) (by
                      rintro (h | h)
                      · omega
                      · exact hl ((unhide HLA).1 h)))
                    go_wp2
                    go_round
                    case rel => exact ⟨q + 1 + 1, by omega, by omega, rfl, rfl, rfl, by go_num, (unhide HF).step (unhide HK)⟩
                    case measure => simp [intOf]; omega
              · obtain rfl : f = k := by omega
                have HK := hide (kind1 (D := D) (n := len0) ((unhide EU).trans hu) (by omega) (.inl rfl))
                go_wp2_with fail
                refine (digitsEnd_at (w.heap.size + 1) len0 len0 f w.heap.size a2 g D U _ hlen hfn (unhide HD) (unhide HU) (by exact unhide HROW') (by exact unhide HMC')).mono ?_
                rintro e w3 (⟨j', rfl, rfl, hE', hF'⟩ | ⟨k', msg, pb, rfl, hp0, hp1, hbw, h1, h2, h3, h4, h5⟩)
                · exfalso
                  obtain rfl := endsAt_unique (unhide HE) hE'
                  have h0 := hF' (f) hfk hkj
                  have h1 := unhide HK
                  omega
                · have hkk : f = k' := first_unique hfk h1 (unhide HF) (by have := unhide HK; omega) h4 (by rcases h5 with ⟨h5, _⟩ | ⟨h5, _⟩ <;> omega)
                  have hmsg : msg = msg1 := by
                    have h0 := unhide HK
                    rw [← hkk] at h5
                    rcases h5 with ⟨h5, h6⟩ | ⟨h5, h6⟩
                    · omega
                    · exact h6
                  clear h1 h2 h3 h4 h5
                  rw [hmsg] at hp1
                  rw [← hkk] at hp0
                  unfold msg1 at hp1
                  have HBW := hide hbw
                  clear hkk hmsg hbw
                  clear hc
                  go_wp2
                  go_ret
                  exact ⟨rfl, (belowN (unhide HB1') _).trans ((unhide HBW).mono (by simpa using (unhide HB1').size))⟩
          · obtain rfl : k = j := by omega
            go_wp2_with fail
            refine (digitsEnd_at (w.heap.size + 1) len0 len0 f w.heap.size a2 g D U _ hlen hfn (unhide HD) (unhide HU) (by exact unhide HROW') (by exact unhide HMC')).mono ?_
            rintro e w3 (⟨j', rfl, rfl, hE', hF'⟩ | ⟨k', msg, pb, rfl, hp0, hp1, hbw, h1, h2, h3, h4, h5⟩)
            · obtain rfl := endsAt_unique (unhide HE) hE'
              clear hE' hF'
              go_wp2
              go_ret
              exact ⟨rfl, belowN (unhide HB1') _⟩
            · exfalso
              have hin := inside (unhide HE) h2 h3
              have h0 := (unhide HF) k' h1 hin
              rcases h5 with ⟨h5, _⟩ | ⟨h5, _⟩ <;> omega
  · go_enter Yba.func3, Yba.ntmps3
    go_wp2
    go_ret
    exact ⟨rfl, (Below.refl _ _).alloc (Nat.le_refl _) _⟩

/-! ### THE ROW's STEP: WRITTEN OUT: LEAVE IT -/
set_option maxRecDepth 100000 in
theorem lifted (os : Os) (started : os.Started) (H : Type) (enc : TypeId × Value → H) :
    ReturnsInHanded {} Yba.checked os 3 .any (Rows.lawS2095AModelSpec.pre6 enc Yba.prog Yba.f3 Rows.lawS2095AModelRow.domain false) (Rows.lawS2095AModelSpec.post enc Yba.prog Yba.f3 false true false false) := by
  refine returnsInHanded_of_change (C := Yba.checked) own started (by kernel_rfl) Yba.func3
    (ChangeSpec.witness6 (enc := enc) (C := Yba.checked) false ⟨#[], #[.slice none 0 0, .int .u16 0, .int .u16 0], []⟩ 8 (by kernel_rfl) (by kernel_rfl) (by kernel_rfl) (by kernel_rfl)) ?_
  intro W base args ds gs before hval0 hW hcnd _
  have hval : ∀ (j : Nat) t v, Yba.f3.params[j]? = some t → args[j]? = some v → Value.okWide Yba.prog W .any base t v := hval0
  have hW' := hW
  obtain ⟨p, q, hA0, hV, rfl, hfz, hnd⟩ := hW
  have hA : DataW.TrodAll enc Yba.prog W 0 (fun _ => true) true Yba.f3.params.toList args.toList ds p := hA0
  rw [Yba.params3] at hA hval
  obtain ⟨v0, vs0, d0, ds0, p0, q0, hargs, rfl, rfl, h0, r0⟩ := trodAll_cons hA
  obtain ⟨v1, vs1, d1, ds1, p1, q1, rfl, rfl, rfl, h1, r1⟩ := trodAll_cons r0
  obtain ⟨v2, vs2, d2, ds2, p2, q2, rfl, rfl, rfl, h2, r2⟩ := trodAll_cons r1
  obtain ⟨rfl, rfl, rfl⟩ := trodAll_nil r2
  obtain rfl : args = #[v0, v1, v2] := by cases args; simp_all
  obtain ⟨rfl, rfl⟩ := trodVars_none hV
  obtain ⟨a0, len0, cap0, rfl⟩ := okWide_slice Yba.underlying22 (hval 0 22 v0 rfl rfl)
  have k0 := h0
  have lt0 : ∀ x ∈ p0, x.block < W.heap.size := by obtain ⟨m, hm⟩ := k0; exact DataW.trod_lt m _ _ _ hm
  obtain ⟨z0, w0⟩ : ∃ zs, IsRow .u8 W a0 len0 cap0 zs := by
    obtain ⟨fuel, hf⟩ := h0
    rcases open_ints Yba.underlying22 Yba.underlying5 (by kernel_rfl) hf with ⟨hcs, _⟩ | ⟨x, l, c, zs, hcs, _, hl, hm, hz, _, hcell, hwz⟩
    · simp [Value.cells] at hcs
      obtain ⟨rfl, rfl, rfl⟩ := hcs
      exact ⟨[], .inl ⟨rfl, rfl, rfl, rfl⟩⟩
    · simp [Value.cells] at hcs
      obtain ⟨rfl, rfl, rfl⟩ := hcs
      exact ⟨zs, .inr ⟨_, rfl, hl, hm, by simpa using hz, hcell, hwz⟩⟩
  obtain ⟨a1, rfl, rfl, rfl, w1⟩ := open_int Yba.underlying23 (hval 1 23 v1 rfl rfl) h1
  obtain ⟨a2, rfl, rfl, rfl, w2⟩ := open_int Yba.underlying23 (hval 2 23 v2 rfl rfl) h2
  clear hA0 hval0
  refine (walk a0 len0 cap0 z0 a1 a2 W w0 w1 w2).mono fun e W' ⟨he, bel⟩ => ?_
  subst he
  exact ⟨_, rfl, _, _, _, [], _, [], hW', trodAll_mk1 (shut_bool Yba.underlying4 _), (trodAll_cons_mk (Below.trod laidOut (by kernel_rfl) (of_decide_eq_true (by kernel_rfl)) k0 bel lt0) (trodAll_cons_mk (shut_int Yba.underlying23 w1) (trodAll_cons_mk (shut_int Yba.underlying23 w2) trodAll_mk0))), rfl, bel.frame _, fun h => by cases h⟩

theorem over : Rows.lawS2095AModelRow.holds Yba.pinned (OpenSpec.ofChange Rows.lawS2095AModelSpec) :=
  OpenClaim.holds_of_wide 3 Yba.f3 rfl rfl rfl rfl rfl rfl rfl ⟨rfl, rfl, rfl, rfl, rfl⟩ rfl rfl rfl rfl rfl (by kernel_rfl) Yba.func3 (by kernel_rfl)
    (of_decide_eq_true (by kernel_rfl)) (by unfold Func.isWrapper; first | (rw [if_pos (by decide +kernel)]; kernel_rfl) | (rw [if_neg (by decide +kernel)]; exact ⟨rfl, rfl⟩))
    (fun os started H enc _ => lifted os started H enc)

/-- ████ THE STATEMENT ████ -/
theorem proved : Rows.LawS2095AModelSaid := over
#print axioms proved
end Go.Proofs.Ybulkaqjc.lawS2095AModel
