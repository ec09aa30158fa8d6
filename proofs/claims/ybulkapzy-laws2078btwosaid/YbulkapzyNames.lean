import Derived.Test.YbulkapzyBits
namespace Go.Proofs.Ybulkapzy
open Go.RowKit
set_option linter.unusedSimpArgs false

/-- A byte that may stand in a name. -/
def okc (c : Int) : Bool := (decide (97 ≤ c) && decide (c ≤ 122)) || ((decide (65 ≤ c) && decide (c ≤ 90)) || ((decide (48 ≤ c) && decide (c ≤ 57)) || ((c == 46) || ((c == 95) || (c == 45)))))

def byteAt (s : ByteArray) (i : Nat) : Int := ((s.data.toList.getD i 0).toNat : Int)

/-- A name: 1 to 64 bytes, each of them fit. -/
def nameOk (s : ByteArray) : Bool := decide (0 < s.size) && (decide (s.size ≤ 64) && (List.range s.size).all fun i => okc (byteAt s i))

theorem nameOk_all {s : ByteArray} (h0 : 0 < s.size) (h1 : s.size ≤ 64) (h : ∀ i, i < s.size → okc (byteAt s i) = true) : nameOk s = true := by
  simp only [nameOk, h0, h1, decide_true, Bool.true_and, List.all_eq_true, List.mem_range]
  exact h
theorem nameOk_not {s : ByteArray} {i : Nat} (hi : i < s.size) (h : okc (byteAt s i) = false) : nameOk s = false := by
  cases hn : nameOk s with
  | false => rfl
  | true =>
    simp only [nameOk, Bool.and_eq_true, List.all_eq_true, List.mem_range] at hn
    have := hn.2.2 i hi
    rw [h] at this
    cases this
theorem nameOk_short {s : ByteArray} (h : s.size = 0) : nameOk s = false := by simp [nameOk, h]
theorem nameOk_long {s : ByteArray} (h : 64 < s.size) : nameOk s = false := by
  have : ¬ s.size ≤ 64 := by omega
  simp [nameOk, this]

theorem byteAt_lt (s : ByteArray) (i : Nat) (h : i < s.size) : byteAt s i = (s[i].toNat : Int) := by
  unfold byteAt
  have : i < s.data.toList.length := by rw [Array.length_toList]; exact h
  rw [List.getD, List.getElem?_eq_getElem this]
  rfl

theorem okc_iff (c : Int) : okc c = true ↔ ((97 ≤ c ∧ c ≤ 122) ∨ (65 ≤ c ∧ c ≤ 90) ∨ (48 ≤ c ∧ c ≤ 57) ∨ c = 46 ∨ c = 95 ∨ c = 45) := by simp [okc]
theorem okc_not (c : Int) (h : ¬ ((97 ≤ c ∧ c ≤ 122) ∨ (65 ≤ c ∧ c ≤ 90) ∨ (48 ≤ c ∧ c ≤ 57) ∨ c = 46 ∨ c = 95 ∨ c = 45)) : okc c = false := by
  cases hc : okc c with
  | false => rfl
  | true => exact absurd ((okc_iff c).1 hc) h
theorem okc_cases (c : Int) : okc c = true ∨ okc c = false := by cases okc c <;> simp
theorem okc_no {c : Int} (h : okc c = false) : ¬ ((97 ≤ c ∧ c ≤ 122) ∨ (65 ≤ c ∧ c ≤ 90) ∨ (48 ≤ c ∧ c ≤ 57) ∨ c = 46 ∨ c = 95 ∨ c = 45) := by
  rw [← okc_iff, h]; simp
theorem all_succ {s : ByteArray} {k : Nat} (h : ∀ q, q < k → okc (byteAt s q) = true) (hk : okc (byteAt s k) = true) : ∀ q, q < k + 1 → okc (byteAt s q) = true := by
  intro q hq
  rcases Nat.lt_or_ge q k with h1 | h1
  · exact h q h1
  · rw [show q = k by omega]; exact hk


def Cls (c : Int) : Prop := (c < 45) ∨ (c = 45) ∨ (c = 46) ∨ (c = 47) ∨ (48 ≤ c ∧ c ≤ 57) ∨ (58 ≤ c ∧ c ≤ 64) ∨ (65 ≤ c ∧ c ≤ 90) ∨ (91 ≤ c ∧ c ≤ 94) ∨ (c = 95) ∨ (c = 96) ∨ (97 ≤ c ∧ c ≤ 122) ∨ (122 < c)
theorem cls (c : Int) : Cls c := by unfold Cls; omega

set_option maxHeartbeats 4000000 in
theorem validName_any (s : ByteArray) (w : World) :
    Calls Yba.prog 20 #[.string s] w fun e w' => e = .returned (.bool (nameOk s)) ∧ w' = w := by
  by_cases h0 : s.size = 0
  · rw [nameOk_short h0]
    go_enter Yba.func20, Yba.ntmps20
    go_wp2
    go_ret
    exact ⟨rfl, rfl⟩
  · have hz : ((s.size : Int) == 0) = false := by rw [beq_eq_false_iff_ne]; omega
    by_cases h1 : s.size ≤ 64
    · go_enter Yba.func20, Yba.ntmps20
      go_wp2
      go_loop [3] (fun i => ∃ k : Nat, k ≤ s.size ∧ i = .int .i64 k ∧ ∀ q, q < k → okc (byteAt s q) = true) (fun i => s.size - (intOf i).toNat)
      case atStart => exact ⟨0, Nat.zero_le _, rfl, fun q hq => absurd hq (by omega)⟩
      case round =>
        obtain ⟨k, hk, rfl, hall⟩ := hrel
        have HA := hide hall
        clear hall
        by_cases hlt : k < s.size
        · have hb := byteAt_lt s k hlt
          have HB := hide hb
          clear hb
          have hcls := cls (s[k].toNat : Int)
          rcases hcls with hc | hc | hc | hc | hc | hc | hc | hc | hc | hc | hc | hc
          · have hq : Hid (okc (s[k].toNat : Int) = false) := hide (okc_not _ (by omega))
            have e46 : ((s[k].toNat : Int) == 46) = false := by rw [beq_eq_false_iff_ne]; omega
            have e95 : ((s[k].toNat : Int) == 95) = false := by rw [beq_eq_false_iff_ne]; omega
            have e45 : ((s[k].toNat : Int) == 45) = false := by rw [beq_eq_false_iff_ne]; omega
            go_wp2
            go_ret
            exact ⟨by rw [nameOk_not hlt (by rw [unhide HB, unhide hq])]; rfl, rfl⟩
          · have hq : Hid (okc (s[k].toNat : Int) = true) := hide ((okc_iff _).2 (by omega))
            go_wp2
            go_round
            case rel => exact ⟨k + 1, hlt, by go_num, all_succ (unhide HA) (by rw [unhide HB, unhide hq])⟩
            case measure => simp [intOf]; omega
          · have hq : Hid (okc (s[k].toNat : Int) = true) := hide ((okc_iff _).2 (by omega))
            go_wp2
            go_round
            case rel => exact ⟨k + 1, hlt, by go_num, all_succ (unhide HA) (by rw [unhide HB, unhide hq])⟩
            case measure => simp [intOf]; omega
          · have hq : Hid (okc (s[k].toNat : Int) = false) := hide (okc_not _ (by omega))
            go_wp2
            go_ret
            exact ⟨by rw [nameOk_not hlt (by rw [unhide HB, unhide hq])]; rfl, rfl⟩
          · have hq : Hid (okc (s[k].toNat : Int) = true) := hide ((okc_iff _).2 (by omega))
            have e46 : ((s[k].toNat : Int) == 46) = false := by rw [beq_eq_false_iff_ne]; omega
            have e95 : ((s[k].toNat : Int) == 95) = false := by rw [beq_eq_false_iff_ne]; omega
            have e45 : ((s[k].toNat : Int) == 45) = false := by rw [beq_eq_false_iff_ne]; omega
            obtain ⟨hc1, hc2⟩ := hc
            go_wp2
            go_round
            case rel => exact ⟨k + 1, hlt, by go_num, all_succ (unhide HA) (by rw [unhide HB, unhide hq])⟩
            case measure => simp [intOf]; omega
          · have hq : Hid (okc (s[k].toNat : Int) = false) := hide (okc_not _ (by omega))
            have e46 : ((s[k].toNat : Int) == 46) = false := by rw [beq_eq_false_iff_ne]; omega
            have e95 : ((s[k].toNat : Int) == 95) = false := by rw [beq_eq_false_iff_ne]; omega
            have e45 : ((s[k].toNat : Int) == 45) = false := by rw [beq_eq_false_iff_ne]; omega
            obtain ⟨hc1, hc2⟩ := hc
            go_wp2
            go_ret
            exact ⟨by rw [nameOk_not hlt (by rw [unhide HB, unhide hq])]; rfl, rfl⟩
          · have hq : Hid (okc (s[k].toNat : Int) = true) := hide ((okc_iff _).2 (by omega))
            have e46 : ((s[k].toNat : Int) == 46) = false := by rw [beq_eq_false_iff_ne]; omega
            have e95 : ((s[k].toNat : Int) == 95) = false := by rw [beq_eq_false_iff_ne]; omega
            have e45 : ((s[k].toNat : Int) == 45) = false := by rw [beq_eq_false_iff_ne]; omega
            obtain ⟨hc1, hc2⟩ := hc
            go_wp2
            go_round
            case rel => exact ⟨k + 1, hlt, by go_num, all_succ (unhide HA) (by rw [unhide HB, unhide hq])⟩
            case measure => simp [intOf]; omega
          · have hq : Hid (okc (s[k].toNat : Int) = false) := hide (okc_not _ (by omega))
            have e46 : ((s[k].toNat : Int) == 46) = false := by rw [beq_eq_false_iff_ne]; omega
            have e95 : ((s[k].toNat : Int) == 95) = false := by rw [beq_eq_false_iff_ne]; omega
            have e45 : ((s[k].toNat : Int) == 45) = false := by rw [beq_eq_false_iff_ne]; omega
            obtain ⟨hc1, hc2⟩ := hc
            go_wp2
            go_ret
            exact ⟨by rw [nameOk_not hlt (by rw [unhide HB, unhide hq])]; rfl, rfl⟩
          · have hq : Hid (okc (s[k].toNat : Int) = true) := hide ((okc_iff _).2 (by omega))
            go_wp2
            go_round
            case rel => exact ⟨k + 1, hlt, by go_num, all_succ (unhide HA) (by rw [unhide HB, unhide hq])⟩
            case measure => simp [intOf]; omega
          · have hq : Hid (okc (s[k].toNat : Int) = false) := hide (okc_not _ (by omega))
            go_wp2
            go_ret
            exact ⟨by rw [nameOk_not hlt (by rw [unhide HB, unhide hq])]; rfl, rfl⟩
          · have hq : Hid (okc (s[k].toNat : Int) = true) := hide ((okc_iff _).2 (by omega))
            have e46 : ((s[k].toNat : Int) == 46) = false := by rw [beq_eq_false_iff_ne]; omega
            have e95 : ((s[k].toNat : Int) == 95) = false := by rw [beq_eq_false_iff_ne]; omega
            have e45 : ((s[k].toNat : Int) == 45) = false := by rw [beq_eq_false_iff_ne]; omega
            obtain ⟨hc1, hc2⟩ := hc
            go_wp2
            go_round
            case rel => exact ⟨k + 1, hlt, by go_num, all_succ (unhide HA) (by rw [unhide HB, unhide hq])⟩
            case measure => simp [intOf]; omega
          · have hq : Hid (okc (s[k].toNat : Int) = false) := hide (okc_not _ (by omega))
            have e46 : ((s[k].toNat : Int) == 46) = false := by rw [beq_eq_false_iff_ne]; omega
            have e95 : ((s[k].toNat : Int) == 95) = false := by rw [beq_eq_false_iff_ne]; omega
            have e45 : ((s[k].toNat : Int) == 45) = false := by rw [beq_eq_false_iff_ne]; omega
            go_wp2
            go_ret
            exact ⟨by rw [nameOk_not hlt (by rw [unhide HB, unhide hq])]; rfl, rfl⟩
        · go_wp2
          go_ret
          exact ⟨by rw [nameOk_all (by omega) h1 (fun i hi => unhide HA i (by omega))]; rfl, rfl⟩
    · rw [nameOk_long (by omega)]
      go_enter Yba.func20, Yba.ntmps20
      go_wp2
      go_ret
      exact ⟨rfl, rfl⟩

set_option maxHeartbeats 4000000 in
theorem bname_any (s : ByteArray) (w : World) :
    Calls Yba.prog 12 #[.string s] w fun e w' => e = .returned (.bool (nameOk s)) ∧ w' = w := by
  by_cases h0 : s.size = 0
  · rw [nameOk_short h0]
    go_enter Yba.func12, Yba.ntmps12
    go_wp2
    go_ret
    exact ⟨rfl, rfl⟩
  · have hz : ¬ ((s.size : Int) < 1) := by omega
    by_cases h1 : s.size ≤ 64
    · go_enter Yba.func12, Yba.ntmps12
      go_wp2
      go_loop [3] (fun i => ∃ k : Nat, k ≤ s.size ∧ i = .int .i64 k ∧ ∀ q, q < k → okc (byteAt s q) = true) (fun i => s.size - (intOf i).toNat)
      case atStart => exact ⟨0, Nat.zero_le _, rfl, fun q hq => absurd hq (by omega)⟩
      case round =>
        obtain ⟨k, hk, rfl, hall⟩ := hrel
        have HA := hide hall
        clear hall
        by_cases hlt : k < s.size
        · have hb := byteAt_lt s k hlt
          have HB := hide hb
          clear hb
          have hcls := cls (s[k].toNat : Int)
          rcases hcls with hc | hc | hc | hc | hc | hc | hc | hc | hc | hc | hc | hc
          · have hq : Hid (okc (s[k].toNat : Int) = false) := hide (okc_not _ (by omega))
            have e46 : ((s[k].toNat : Int) == 46) = false := by rw [beq_eq_false_iff_ne]; omega
            have e95 : ((s[k].toNat : Int) == 95) = false := by rw [beq_eq_false_iff_ne]; omega
            have e45 : ((s[k].toNat : Int) == 45) = false := by rw [beq_eq_false_iff_ne]; omega
            go_wp2
            go_ret
            exact ⟨by rw [nameOk_not hlt (by rw [unhide HB, unhide hq])]; rfl, rfl⟩
          · have hq : Hid (okc (s[k].toNat : Int) = true) := hide ((okc_iff _).2 (by omega))
            go_wp2
            go_round
            case rel => exact ⟨k + 1, hlt, by go_num, all_succ (unhide HA) (by rw [unhide HB, unhide hq])⟩
            case measure => simp [intOf]; omega
          · have hq : Hid (okc (s[k].toNat : Int) = true) := hide ((okc_iff _).2 (by omega))
            go_wp2
            go_round
            case rel => exact ⟨k + 1, hlt, by go_num, all_succ (unhide HA) (by rw [unhide HB, unhide hq])⟩
            case measure => simp [intOf]; omega
          · have hq : Hid (okc (s[k].toNat : Int) = false) := hide (okc_not _ (by omega))
            go_wp2
            go_ret
            exact ⟨by rw [nameOk_not hlt (by rw [unhide HB, unhide hq])]; rfl, rfl⟩
          · have hq : Hid (okc (s[k].toNat : Int) = true) := hide ((okc_iff _).2 (by omega))
            have e46 : ((s[k].toNat : Int) == 46) = false := by rw [beq_eq_false_iff_ne]; omega
            have e95 : ((s[k].toNat : Int) == 95) = false := by rw [beq_eq_false_iff_ne]; omega
            have e45 : ((s[k].toNat : Int) == 45) = false := by rw [beq_eq_false_iff_ne]; omega
            obtain ⟨hc1, hc2⟩ := hc
            go_wp2
            go_round
            case rel => exact ⟨k + 1, hlt, by go_num, all_succ (unhide HA) (by rw [unhide HB, unhide hq])⟩
            case measure => simp [intOf]; omega
          · have hq : Hid (okc (s[k].toNat : Int) = false) := hide (okc_not _ (by omega))
            have d57 : (!decide ((s[k].toNat : Int) ≤ 57)) = true := by simp only [Bool.not_eq_true', decide_eq_false_iff_not]; omega
            have e46 : ((s[k].toNat : Int) == 46) = false := by rw [beq_eq_false_iff_ne]; omega
            have e95 : ((s[k].toNat : Int) == 95) = false := by rw [beq_eq_false_iff_ne]; omega
            have e45 : ((s[k].toNat : Int) == 45) = false := by rw [beq_eq_false_iff_ne]; omega
            obtain ⟨hc1, hc2⟩ := hc
            go_wp2
            go_ret
            exact ⟨by rw [nameOk_not hlt (by rw [unhide HB, unhide hq])]; rfl, rfl⟩
          · have hq : Hid (okc (s[k].toNat : Int) = true) := hide ((okc_iff _).2 (by omega))
            have e46 : ((s[k].toNat : Int) == 46) = false := by rw [beq_eq_false_iff_ne]; omega
            have e95 : ((s[k].toNat : Int) == 95) = false := by rw [beq_eq_false_iff_ne]; omega
            have e45 : ((s[k].toNat : Int) == 45) = false := by rw [beq_eq_false_iff_ne]; omega
            obtain ⟨hc1, hc2⟩ := hc
            go_wp2
            go_round
            case rel => exact ⟨k + 1, hlt, by go_num, all_succ (unhide HA) (by rw [unhide HB, unhide hq])⟩
            case measure => simp [intOf]; omega
          · have hq : Hid (okc (s[k].toNat : Int) = false) := hide (okc_not _ (by omega))
            have d57 : (!decide ((s[k].toNat : Int) ≤ 57)) = true := by simp only [Bool.not_eq_true', decide_eq_false_iff_not]; omega
            have d90 : (!decide ((s[k].toNat : Int) ≤ 90)) = true := by simp only [Bool.not_eq_true', decide_eq_false_iff_not]; omega
            have e46 : ((s[k].toNat : Int) == 46) = false := by rw [beq_eq_false_iff_ne]; omega
            have e95 : ((s[k].toNat : Int) == 95) = false := by rw [beq_eq_false_iff_ne]; omega
            have e45 : ((s[k].toNat : Int) == 45) = false := by rw [beq_eq_false_iff_ne]; omega
            obtain ⟨hc1, hc2⟩ := hc
            go_wp2
            go_ret
            exact ⟨by rw [nameOk_not hlt (by rw [unhide HB, unhide hq])]; rfl, rfl⟩
          · have hq : Hid (okc (s[k].toNat : Int) = true) := hide ((okc_iff _).2 (by omega))
            go_wp2
            go_round
            case rel => exact ⟨k + 1, hlt, by go_num, all_succ (unhide HA) (by rw [unhide HB, unhide hq])⟩
            case measure => simp [intOf]; omega
          · have hq : Hid (okc (s[k].toNat : Int) = false) := hide (okc_not _ (by omega))
            go_wp2
            go_ret
            exact ⟨by rw [nameOk_not hlt (by rw [unhide HB, unhide hq])]; rfl, rfl⟩
          · have hq : Hid (okc (s[k].toNat : Int) = true) := hide ((okc_iff _).2 (by omega))
            have e46 : ((s[k].toNat : Int) == 46) = false := by rw [beq_eq_false_iff_ne]; omega
            have e95 : ((s[k].toNat : Int) == 95) = false := by rw [beq_eq_false_iff_ne]; omega
            have e45 : ((s[k].toNat : Int) == 45) = false := by rw [beq_eq_false_iff_ne]; omega
            obtain ⟨hc1, hc2⟩ := hc
            go_wp2
            go_round
            case rel => exact ⟨k + 1, hlt, by go_num, all_succ (unhide HA) (by rw [unhide HB, unhide hq])⟩
            case measure => simp [intOf]; omega
          · have hq : Hid (okc (s[k].toNat : Int) = false) := hide (okc_not _ (by omega))
            have d57 : (!decide ((s[k].toNat : Int) ≤ 57)) = true := by simp only [Bool.not_eq_true', decide_eq_false_iff_not]; omega
            have d90 : (!decide ((s[k].toNat : Int) ≤ 90)) = true := by simp only [Bool.not_eq_true', decide_eq_false_iff_not]; omega
            have d122 : (!decide ((s[k].toNat : Int) ≤ 122)) = true := by simp only [Bool.not_eq_true', decide_eq_false_iff_not]; omega
            have e46 : ((s[k].toNat : Int) == 46) = false := by rw [beq_eq_false_iff_ne]; omega
            have e95 : ((s[k].toNat : Int) == 95) = false := by rw [beq_eq_false_iff_ne]; omega
            have e45 : ((s[k].toNat : Int) == 45) = false := by rw [beq_eq_false_iff_ne]; omega
            go_wp2
            go_ret
            exact ⟨by rw [nameOk_not hlt (by rw [unhide HB, unhide hq])]; rfl, rfl⟩
        · go_wp2
          go_ret
          exact ⟨by rw [nameOk_all (by omega) h1 (fun i hi => unhide HA i (by omega))]; rfl, rfl⟩
    · rw [nameOk_long (by omega)]
      go_enter Yba.func12, Yba.ntmps12
      go_wp2
      go_ret
      exact ⟨rfl, rfl⟩

end Go.Proofs.Ybulkapzy
