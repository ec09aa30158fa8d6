import Derived.Test.YbulkaqjcDig
namespace Go.Proofs.Ybulkaqjc
open Go.RowKit

def msg2 : ByteArray := ⟨#[116, 119, 111, 32, 110, 117, 109, 101, 114, 105, 99, 32, 115, 101, 112, 97, 114, 97, 116, 111, 114, 115, 32, 34, 95, 34, 32, 105, 110, 32, 97, 32, 114, 111, 119]⟩
def msg1 : ByteArray := ⟨#[110, 117, 109, 101, 114, 105, 99, 32, 115, 101, 112, 97, 114, 97, 116, 111, 114, 32, 34, 95, 34, 32, 110, 111, 116, 32, 98, 101, 116, 119, 101, 101, 110, 32, 116, 119, 111, 32, 100, 105, 103, 105, 116, 115]⟩

theorem dig_95 (m c : Int) (h : (c == 95) = true) : dig m c = false := by
  have : c = 95 := by simpa using h
  subst this
  simp [dig]

theorem RunTo.step {D U : Nat → Bool} {f k : Nat} (h : RunTo D U f k) (hk : D k = true ∨ U k = true) : RunTo D U f (k + 1) := by
  intro i h1 h2
  rcases Nat.lt_or_ge i k with h3 | h3
  · exact h i h1 h3
  · obtain rfl : i = k := by omega
    exact hk
theorem Fine.step {D U : Nat → Bool} {f n k : Nat} (h : Fine D U f n k) (hk : kindAt D U f n k = 0) : Fine D U f n (k + 1) := by
  intro i h1 h2
  rcases Nat.lt_or_ge i k with h3 | h3
  · exact h i h1 h3
  · obtain rfl : i = k := by omega
    exact hk

set_option maxHeartbeats 4000000 in
set_option maxRecDepth 100000 in
theorem digitsEnd_any (gb n cp f bm : Nat) (m : Int) (g : Nat → Int) (D U : Nat → Bool) (w : World) (hn : n ≤ 1024) (hfn : f ≤ n) (hD : ∀ i, D i = dig m (g i)) (hU : ∀ i, U i = (g i == 95))
    (hrow : ∀ i, i < n → w.cell? ⟨gb, i, none⟩ = some (.int .u8 (g i)) ∧ 0 ≤ g i ∧ g i ≤ 255) (hm : w.cell? ⟨bm, 0, none⟩ = some (.int .u16 m)) :
    Calls Yba.prog 8 #[.slice (some ⟨gb, 0, none⟩) n cp, .int .i64 f, .func (.func 6) #[] #[.pointer (some ⟨bm, 0, none⟩)]] w fun e w' =>
      (∃ j : Nat, e = .returned (.tuple #[.int .i64 j, .pointer none]) ∧ w' = w ∧ EndsAt D U f n j ∧ Fine D U f n j) ∨
      (∃ (k : Nat) (msg : ByteArray), e = .returned (.tuple #[.int .i64 0, .pointer (some ⟨w.heap.size, 0, none⟩)]) ∧ w' = w.alloc (.cells #[.int .i64 k, .string msg] 31) ∧ f ≤ k ∧ k < n ∧ RunTo D U f (k + 1) ∧ Fine D U f n k ∧
        ((kindAt D U f n k = 2 ∧ msg = msg2) ∨ (kindAt D U f n k = 1 ∧ msg = msg1))) := by
  have HD := hide hD
  have HU := hide hU
  have HR := hide hrow
  clear hD hU hrow
  go_enter Yba.func8, Yba.ntmps8
  go_wp2
  go_loop [8] (fun i => ∃ k : Nat, f ≤ k ∧ k ≤ n ∧ i = .int .i64 k ∧ RunTo D U f k ∧ Fine D U f n k) (fun i => n - (intOf i).toNat)
  case atStart => exact ⟨f, Nat.le_refl _, hfn, rfl, fun i h1 h2 => absurd h2 (by omega), fun i h1 h2 => absurd h2 (by omega)⟩
  case round =>
    obtain ⟨k, hfk, hkn, rfl, hrun, hfine⟩ := hrel
    have HRun := hide hrun
    have HFin := hide hfine
    clear hrun hfine
    by_cases hlt : k < n
    · obtain ⟨hc, hg0, hg1⟩ := unhide HR k hlt
      have eD := unhide HD k
      have eU := unhide HU k
      have ED := hide eD
      have EU := hide eU
      clear eD eU
      cases hd : dig m (g k) with
      | true =>
        have hu : (g k == 95) = false := by
          cases h : (g k == 95) with
          | false => rfl
          | true => rw [dig_95 m _ h] at hd; cases hd
        have hu2 : (g k != 95) = true := by simp [bne, hu]
        go_wp2_with (go_at_call 6; refine (clo_any m _ bm (by assumption) (by assumption) _ hm).mono ?_; rintro e w' ⟨rfl, rfl⟩)
        go_round
        case rel => exact ⟨k + 1, by omega, by omega, by go_num, (unhide HRun).step (.inl ((unhide ED).trans hd)), (unhide HFin).step (kind0 ((unhide EU).trans hu))⟩
        case measure => simp [intOf]; omega
      | false =>
        cases hu : (g k == 95) with
        | false =>
          go_wp2_with (go_at_call 6; refine (clo_any m _ bm (by assumption) (by assumption) _ hm).mono ?_; rintro e w' ⟨rfl, rfl⟩)
          go_ret2
          exact .inl ⟨k, rfl, rfl, ⟨hfk, hkn, unhide HRun, .inr ⟨(unhide ED).trans hd, (unhide EU).trans hu⟩⟩, unhide HFin⟩
        | true =>
          have hu2 : (g k != 95) = false := by simp [bne, hu]
          by_cases hff : f < k
          · obtain ⟨q, rfl⟩ : ∃ q, k = q + 1 := ⟨k - 1, by omega⟩
            obtain ⟨hcq, hq0, hq1⟩ := unhide HR q (by omega)
            have EUq := hide (unhide HU q)
            cases hv : (g q == 95) with
            | true =>
              go_wp2_with (go_at_call 6; refine (clo_any m _ bm (by assumption) (by assumption) _ hm).mono ?_; rintro e w' ⟨rfl, rfl⟩)
              go_ret2
              exact .inr ⟨q + 1, msg2, rfl, rfl, hfk, hlt, (unhide HRun).step (.inr ((unhide EU).trans hu)), unhide HFin, .inl ⟨kind2 ((unhide EU).trans hu) hff ((unhide EUq).trans hv), rfl⟩⟩
            | false =>
              have hne : ¬ (f < q + 1 ∧ U (q + 1 - 1) = true) := by
                rintro ⟨_, h⟩
                rw [show q + 1 - 1 = q by omega, unhide EUq, hv] at h
                cases h
              have HNE := hide hne
              clear hne
              have hfe : (((q : Int) + 1) == (f : Int)) = false := by rw [beq_eq_false_iff_ne]; omega
              by_cases hlast : q + 1 + 1 = n
              · have hle : (((q : Int) + 1 + 1) == (n : Int)) = true := by rw [beq_iff_eq]; omega
                have HLA := hide hlast
                clear hlast
                go_wp2_with (go_at_call 6; refine (clo_any m _ bm (by assumption) (by assumption) _ hm).mono ?_; rintro e w' ⟨rfl, rfl⟩)
                go_ret2
                exact .inr ⟨q + 1, msg1, rfl, rfl, hfk, hlt, (unhide HRun).step (.inr ((unhide EU).trans hu)), unhide HFin, .inr ⟨kind1 ((unhide EU).trans hu) (unhide HNE) (.inr (.inl (unhide HLA))), rfl⟩⟩
              · have hle : (((q : Int) + 1 + 1) == (n : Int)) = false := by rw [beq_eq_false_iff_ne]; omega
                obtain ⟨hcs, hs0, hs1⟩ := unhide HR (q + 1 + 1) (by omega)
                have EDs := hide (unhide HD (q + 1 + 1))
                have EUs := hide (unhide HU (q + 1 + 1))
                cases hds : dig m (g (q + 1 + 1)) with
                | true =>
                  go_wp2_with (go_at_call 6; refine (clo_any m _ bm (by assumption) (by assumption) _ hm).mono ?_; rintro e w' ⟨rfl, rfl⟩)
                  go_round
                  case rel => exact ⟨q + 1 + 1, by omega, by omega, by go_num, (unhide HRun).step (.inr ((unhide EU).trans hu)), (unhide HFin).step (kind00 ((unhide EU).trans hu) (unhide HNE) (by
                    rintro (h | h | ⟨h, _⟩)
                    · omega
                    · omega
                    · rw [unhide EDs, hds] at h; cases h))⟩
                  case measure => simp [intOf]; omega
                | false =>
                  cases hus : (g (q + 1 + 1) == 95) with
                  | true =>
                    have hus2 : (g (q + 1 + 1) != 95) = false := by simp [bne, hus]
                    go_wp2_with (go_at_call 6; refine (clo_any m _ bm (by assumption) (by assumption) _ hm).mono ?_; rintro e w' ⟨rfl, rfl⟩)
                    go_round
                    case rel => exact ⟨q + 1 + 1, by omega, by omega, by go_num, (unhide HRun).step (.inr ((unhide EU).trans hu)), (unhide HFin).step (kind00 ((unhide EU).trans hu) (unhide HNE) (by
                      rintro (h | h | ⟨_, h⟩)
                      · omega
                      · omega
                      · rw [unhide EUs, hus] at h; cases h))⟩
                    case measure => simp [intOf]; omega
                  | false =>
                    have hus2 : (g (q + 1 + 1) != 95) = true := by simp [bne, hus]
                    go_wp2_with (go_at_call 6; refine (clo_any m _ bm (by assumption) (by assumption) _ hm).mono ?_; rintro e w' ⟨rfl, rfl⟩)
                    go_ret2
                    exact .inr ⟨q + 1, msg1, rfl, rfl, hfk, hlt, (unhide HRun).step (.inr ((unhide EU).trans hu)), unhide HFin, .inr ⟨kind1 ((unhide EU).trans hu) (unhide HNE) (.inr (.inr ⟨(unhide EDs).trans hds, (unhide EUs).trans hus⟩)), rfl⟩⟩
          · obtain rfl : k = f := by omega
            go_wp2_with (go_at_call 6; refine (clo_any m _ bm (by assumption) (by assumption) _ hm).mono ?_; rintro e w' ⟨rfl, rfl⟩)
            go_ret2
            exact .inr ⟨k, msg1, rfl, rfl, hfk, hlt, (unhide HRun).step (.inr ((unhide EU).trans hu)), unhide HFin, .inr ⟨kind1 ((unhide EU).trans hu) (by omega) (.inl rfl), rfl⟩⟩
    · obtain rfl : k = n := by omega
      go_wp2
      go_ret2
      exact .inl ⟨k, rfl, rfl, ⟨hfk, hkn, unhide HRun, .inl rfl⟩, unhide HFin⟩

/-- The same, the error's block under a name of its own. -/
theorem digitsEnd_at (gb n cp f bm : Nat) (m : Int) (g : Nat → Int) (D U : Nat → Bool) (w : World) (hn : n ≤ 1024) (hfn : f ≤ n) (hD : ∀ i, D i = dig m (g i)) (hU : ∀ i, U i = (g i == 95))
    (hrow : ∀ i, i < n → w.cell? ⟨gb, i, none⟩ = some (.int .u8 (g i)) ∧ 0 ≤ g i ∧ g i ≤ 255) (hm : w.cell? ⟨bm, 0, none⟩ = some (.int .u16 m)) :
    Calls Yba.prog 8 #[.slice (some ⟨gb, 0, none⟩) n cp, .int .i64 f, .func (.func 6) #[] #[.pointer (some ⟨bm, 0, none⟩)]] w fun e w' =>
      (∃ j : Nat, e = .returned (.tuple #[.int .i64 j, .pointer none]) ∧ w' = w ∧ EndsAt D U f n j ∧ Fine D U f n j) ∨
      (∃ (k : Nat) (msg : ByteArray) (pb : Nat), e = .returned (.tuple #[.int .i64 0, .pointer (some ⟨pb, 0, none⟩)]) ∧ w'.cell? ⟨pb, 0, none⟩ = some (.int .i64 k) ∧ w'.cell? ⟨pb, 1, none⟩ = some (.string msg) ∧ Below w.heap.size w w' ∧
        f ≤ k ∧ k < n ∧ RunTo D U f (k + 1) ∧ Fine D U f n k ∧ ((kindAt D U f n k = 2 ∧ msg = msg2) ∨ (kindAt D U f n k = 1 ∧ msg = msg1))) := by
  refine (digitsEnd_any gb n cp f bm m g D U w hn hfn hD hU hrow hm).mono ?_
  rintro e w' (h | ⟨k, msg, h1, rfl, h2⟩)
  · exact .inl h
  · exact .inr ⟨k, msg, w.heap.size, h1, by simp, by simp, (Below.refl _ _).alloc (Nat.le_refl _) _, h2⟩

end Go.Proofs.Ybulkaqjc
