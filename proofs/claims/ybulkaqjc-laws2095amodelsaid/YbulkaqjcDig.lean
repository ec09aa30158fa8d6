import Derived.Test.YbulkaqjcRows
import Derived.WalkKit
import Derived.WalkSpells
import Derived.Handy
import Derived.BigQuiet
import Derived.Deep.QuietTactic
import Derived.Deep.OwnRows
namespace Go.Proofs.Ybulkaqjc
open Go.RowKit

theorem hide {p : Prop} (h : p) : Hid p := h
theorem unhide {p : Prop} (h : Hid p) : p := h

/-- The law's own test for a digit. -/
def dig (m c : Int) : Bool := decide (48 ≤ c) && (decide (c ≤ 57) && (bits BinOp.and IntKind.u16 (m / 2 ^ (c - 48).toNat) 1 == 1))

set_option maxHeartbeats 400000 in
theorem dig_any (m c : Int) (hc0 : 0 ≤ c) (hc1 : c ≤ 255) (w : World) :
    Calls Yba.prog 7 #[.int .u16 m, .int .u8 c] w fun e w' => e = .returned (.bool (dig m c)) ∧ w' = w := by
  by_cases h1 : 48 ≤ c
  · by_cases h2 : c ≤ 57
    · have hd : dig m c = (bits BinOp.and IntKind.u16 (m / 2 ^ (c - 48).toNat) 1 == 1) := by simp [dig, h1, h2]
      rw [hd]
      clear hd
      go_enter Yba.func7, Yba.ntmps7
      go_wp2
      go_ret
      exact ⟨rfl, rfl⟩
    · have hd : dig m c = false := by simp [dig, h2]
      rw [hd]
      go_enter Yba.func7, Yba.ntmps7
      go_wp2
      go_ret
      exact ⟨rfl, rfl⟩
  · have hd : dig m c = false := by simp [dig, h1]
    rw [hd]
    go_enter Yba.func7, Yba.ntmps7
    go_wp2
    go_ret
    exact ⟨rfl, rfl⟩

/-- The closure over the mask, which lies in the cell p. -/
theorem clo_any (m c : Int) (b : Nat) (hc0 : 0 ≤ c) (hc1 : c ≤ 255) (w : World) (hm : w.cell? ⟨b, 0, none⟩ = some (.int .u16 m)) :
    Calls Yba.prog 6 #[.int .u8 c, .pointer (some ⟨b, 0, none⟩)] w fun e w' => e = .returned (.bool (dig m c)) ∧ w' = w := by
  go_enter Yba.func6, Yba.ntmps6
  go_wp2_with (go_at_call 7; refine (dig_any m c hc0 hc1 _).mono ?_; rintro e w' ⟨rfl, rfl⟩)
  go_ret
  exact ⟨rfl, rfl⟩

/-- What is wrong with the '_' at place t of the run that begins at f: 2: it follows another; 1: it does not stand between two digits; 0: nothing. -/
def kindAt (D U : Nat → Bool) (f n t : Nat) : Nat :=
  if U t = true then (if f < t ∧ U (t - 1) = true then 2 else if t = f ∨ t + 1 = n ∨ (D (t + 1) = false ∧ U (t + 1) = false) then 1 else 0) else 0

theorem kind0 {D U : Nat → Bool} {f n t : Nat} (h : U t = false) : kindAt D U f n t = 0 := by simp [kindAt, h]
theorem kind2 {D U : Nat → Bool} {f n t : Nat} (h : U t = true) (h1 : f < t) (h2 : U (t - 1) = true) : kindAt D U f n t = 2 := by simp [kindAt, h, h1, h2]
theorem kind1 {D U : Nat → Bool} {f n t : Nat} (h : U t = true) (h1 : ¬ (f < t ∧ U (t - 1) = true)) (h2 : t = f ∨ t + 1 = n ∨ (D (t + 1) = false ∧ U (t + 1) = false)) : kindAt D U f n t = 1 := by
  unfold kindAt; rw [if_pos h, if_neg h1, if_pos h2]
theorem kind00 {D U : Nat → Bool} {f n t : Nat} (h : U t = true) (h1 : ¬ (f < t ∧ U (t - 1) = true)) (h2 : ¬ (t = f ∨ t + 1 = n ∨ (D (t + 1) = false ∧ U (t + 1) = false))) : kindAt D U f n t = 0 := by
  unfold kindAt; rw [if_pos h, if_neg h1, if_neg h2]

/-- The run of digits and '_' from f reaches to t at least. -/
def RunTo (D U : Nat → Bool) (f t : Nat) : Prop := ∀ i, f ≤ i → i < t → (D i = true ∨ U i = true)
/-- Nothing is wrong from f to t. -/
def Fine (D U : Nat → Bool) (f n t : Nat) : Prop := ∀ i, f ≤ i → i < t → kindAt D U f n i = 0
/-- The run ends at j. -/
def EndsAt (D U : Nat → Bool) (f n j : Nat) : Prop := f ≤ j ∧ j ≤ n ∧ RunTo D U f j ∧ (j = n ∨ (D j = false ∧ U j = false))

theorem endsAt_unique {D U : Nat → Bool} {f n j j' : Nat} (h : EndsAt D U f n j) (h' : EndsAt D U f n j') : j = j' := by
  obtain ⟨a1, a2, a3, a4⟩ := h
  obtain ⟨b1, b2, b3, b4⟩ := h'
  rcases Nat.lt_trichotomy j j' with hlt | rfl | hlt
  · exfalso
    have := b3 j a1 hlt
    rcases a4 with h | ⟨h1, h2⟩
    · omega
    · rw [h1, h2] at this; simp at this
  · rfl
  · exfalso
    have := a3 j' b1 hlt
    rcases b4 with h | ⟨h1, h2⟩
    · omega
    · rw [h1, h2] at this; simp at this

/-- Inside the run, 'the next is no part of it' is 'it is the last'. -/
theorem last_iff {D U : Nat → Bool} {f n j t : Nat} (h : EndsAt D U f n j) (h1 : f ≤ t) (h2 : t < j) : (t + 1 = n ∨ (D (t + 1) = false ∧ U (t + 1) = false)) ↔ t + 1 = j := by
  obtain ⟨a1, a2, a3, a4⟩ := h
  constructor
  · rintro (h | ⟨g1, g2⟩)
    · omega
    · rcases Nat.lt_or_ge (t + 1) j with hlt | hge
      · have := a3 (t + 1) (by omega) hlt
        rw [g1, g2] at this; simp at this
      · omega
  · rintro rfl
    rcases a4 with h | h
    · exact .inl h
    · exact .inr h

/-- A place at which something is wrong lies inside the run. -/
theorem inside {D U : Nat → Bool} {f n j k : Nat} (h : EndsAt D U f n j) (hkn : k < n) (hr : RunTo D U f (k + 1)) : k < j := by
  obtain ⟨a1, a2, a3, a4⟩ := h
  rcases Nat.lt_or_ge k j with hlt | hge
  · exact hlt
  · exfalso
    have := hr j a1 (by omega)
    rcases a4 with h | ⟨h1, h2⟩
    · omega
    · rw [h1, h2] at this; simp at this

theorem first_unique {D U : Nat → Bool} {f n k k' : Nat} (hk : f ≤ k) (hk' : f ≤ k') (h1 : Fine D U f n k) (h2 : kindAt D U f n k ≠ 0) (h1' : Fine D U f n k') (h2' : kindAt D U f n k' ≠ 0) : k = k' := by
  rcases Nat.lt_trichotomy k k' with hlt | rfl | hlt
  · exact absurd (h1' k hk hlt) h2
  · rfl
  · exact absurd (h1 k' hk' hlt) h2'

end Go.Proofs.Ybulkaqjc
