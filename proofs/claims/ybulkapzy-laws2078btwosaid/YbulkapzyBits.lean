import Derived.Test.YbulkapzyRows
import Derived.WalkKit
import Derived.WalkSpells
import Derived.Handy
import Derived.Shelf.Spec.BitsCarry
import Derived.Shelf.Bits.Mul64
namespace Go.Proofs.Ybulkapzy
open Go.RowKit

theorem hide {p : Prop} (h : p) : Hid p := h
theorem unhide {p : Prop} (h : Hid p) : p := h

/-- x - y - b in 64 bits, and the borrow. -/
def subw (x y b : Int) : Int := (x - y - b) % 18446744073709551616
def bor (x y b : Int) : Int := if x < y + b then 1 else 0
def mullo (x y : Int) : Int := (x * y) % 18446744073709551616
def mulhi (x y : Int) : Int := (x * y) / 18446744073709551616

/-- A 64-bit word. -/
def Word (x : Int) : Prop := 0 ≤ x ∧ x < 18446744073709551616

theorem bor01 (x y b : Int) : 0 ≤ bor x y b ∧ bor x y b ≤ 1 := by unfold bor; split <;> omega
theorem word_subw (x y b : Int) : Word (subw x y b) := by unfold Word subw; omega
theorem word_mod (x : Int) : Word (x % 18446744073709551616) := by unfold Word; omega
theorem word_wrap (x : Int) : Word (IntKind.u64.wrap x) := by rw [IntKind.wrap_u64]; exact word_mod x
theorem wrap_sub (x b : Int) : IntKind.u64.wrap (x - b) = subw x 0 b := by rw [IntKind.wrap_u64]; unfold subw; congr 1; omega
theorem word_mullo (x y : Int) : Word (mullo x y) := by unfold mullo; exact word_mod _
theorem word_mulhi (x y : Int) (hx : Word x) (hy : Word y) : Word (mulhi x y) := by
  unfold Word mulhi at *
  have h0 : 0 ≤ x * y := Int.mul_nonneg hx.1 hy.1
  have h1 : x * y ≤ 18446744073709551615 * 18446744073709551615 := Int.mul_le_mul (by omega) (by omega) hy.1 (by omega)
  omega

theorem sub64 (x y b : Int) (hx : Word x) (hy : Word y) (hb : 0 ≤ b ∧ b ≤ 1) (w : World) : (callFunc 26 #[.int .u64 x, .int .u64 y, .int .u64 b]).run Yba.prog w =
    .ok (.value (.tuple #[.int .u64 (subw x y b), .int .u64 (bor x y b)])) w := by
  obtain ⟨hx0, hx1⟩ := hx
  obtain ⟨hy0, hy1⟩ := hy
  obtain ⟨x, rfl⟩ := Int.eq_ofNat_of_zero_le hx0
  obtain ⟨y, rfl⟩ := Int.eq_ofNat_of_zero_le hy0
  obtain ⟨b, rfl⟩ := Int.eq_ofNat_of_zero_le hb.1
  have e1 : (((x + 18446744073709551616 - y - b) % 18446744073709551616 : Nat) : Int) = subw x y b := by unfold subw; omega
  have e2 : ((if x < y + b then 1 else 0 : Nat) : Int) = bor x y b := by unfold bor; split <;> split <;> omega
  rw [← e1, ← e2]
  rw [run_callFunc_extern Yba.func26 (by kernel_rfl) (by kernel_rfl) (by kernel_rfl) (e := sub64Entry) (by kernel_rfl), run_sub64 x y b (by omega)]
  rfl

set_option maxHeartbeats 400000 in
theorem total_sub (hi lo n : Int) (hl : Word lo) (w : World) :
    Calls Yba.prog 16 #[.agg #[.int .u64 hi, .int .u64 lo], .int .i64 n] w fun e w' =>
      e = .returned (.agg #[.int .u64 (subw hi 0 (bor lo (IntKind.u64.wrap n) 0)), .int .u64 (subw lo (IntKind.u64.wrap n) 0)]) ∧ ∃ c1 c2 : Array Value, w' = (w.alloc (.cells c1 26)).alloc (.cells c2 26) := by
  have hs := sub64 lo (IntKind.u64.wrap n) 0 hl (word_wrap n) (by omega)
  have e1 := wrap_sub hi (bor lo (IntKind.u64.wrap n) 0)
  go_enter Yba.func16, Yba.ntmps16
  go_wp2_with (simp only [hs])
  go_returns
  exact ⟨rfl, _, _, rfl⟩

set_option maxHeartbeats 1000000 in
theorem mul64N (x y : Nat) (hx : x < 18446744073709551616) (hy : y < 18446744073709551616) (w : World) :
    Calls Yba.prog 27 #[.int .u64 x, .int .u64 y] w fun e w' => e = .returned (.tuple #[.int .u64 ((x * y / 18446744073709551616 : Nat) : Int), .int .u64 ((x * y % 18446744073709551616 : Nat) : Int)]) ∧ w' = w := by
  obtain ⟨bd, bt, bw, hhi⟩ := Lib.mul64_hi x y hx hy
  have ba := Lib.half_mul_le (a := x / 4294967296) (b := y / 4294967296) (by omega) (by omega)
  have bb := Lib.half_mul_le (a := x / 4294967296) (b := y % 4294967296) (by omega) (by omega)
  have bc := Lib.half_mul_le (a := x % 4294967296) (b := y / 4294967296) (by omega) (by omega)
  have ba' : x / 4294967296 * (y / 4294967296) < 18446744073709551616 := by omega
  have bb' : x / 4294967296 * (y % 4294967296) < 18446744073709551616 := by omega
  have bc' : x % 4294967296 * (y / 4294967296) < 18446744073709551616 := by omega
  have bh1 : x / 4294967296 * (y / 4294967296) + (x / 4294967296 * (y % 4294967296) + x % 4294967296 * (y % 4294967296) / 4294967296) / 4294967296 < 18446744073709551616 := by omega
  have bh : x / 4294967296 * (y / 4294967296) + (x / 4294967296 * (y % 4294967296) + x % 4294967296 * (y % 4294967296) / 4294967296) / 4294967296 + ((x / 4294967296 * (y % 4294967296) + x % 4294967296 * (y % 4294967296) / 4294967296) % 4294967296 + x % 4294967296 * (y / 4294967296)) / 4294967296 < 18446744073709551616 := by omega
  go_enter Yba.func27, Yba.ntmps27
  go_wp2
  simp only [Mul64.maskN x hx, Mul64.maskN y hy, Mul64.divN, Mul64.mulN, Mul64.addN, Mul64.wrapN _ bd, Mul64.wrapN _ bb', Mul64.wrapN _ bt, Mul64.maskN _ bt, Mul64.wrapN _ bc', Mul64.wrapN _ bw, Mul64.wrapN _ ba', Mul64.wrapN _ bh1, Mul64.wrapN _ bh, Mul64.wrapM (x * y)]
  rw [hhi]
  go_ret2
  exact ⟨rfl, rfl⟩

theorem mul64 (x y : Int) (hx : Word x) (hy : Word y) (w : World) :
    Calls Yba.prog 27 #[.int .u64 x, .int .u64 y] w fun e w' => e = .returned (.tuple #[.int .u64 (mulhi x y), .int .u64 (mullo x y)]) ∧ w' = w := by
  obtain ⟨hx0, hx1⟩ := hx
  obtain ⟨hy0, hy1⟩ := hy
  obtain ⟨x, rfl⟩ := Int.eq_ofNat_of_zero_le hx0
  obtain ⟨y, rfl⟩ := Int.eq_ofNat_of_zero_le hy0
  exact mul64N x y (by omega) (by omega) w

/-- The school method on halves: the four products under names. -/
theorem school (x y p00 p01 p10 p11 : Nat) (h : x * y = p11 * 18446744073709551616 + (p01 + p10) * 4294967296 + p00) :
    p11 + p01 / 4294967296 + p10 / 4294967296 + (p00 / 4294967296 + p01 % 4294967296 + p10 % 4294967296) / 4294967296 = x * y / 18446744073709551616 ∧
    p00 % 4294967296 + (p00 / 4294967296 + p01 % 4294967296 + p10 % 4294967296) % 4294967296 * 4294967296 = x * y % 18446744073709551616 := by
  rw [h]
  omega

theorem halves (x y : Nat) : x * y = (x / 4294967296 * (y / 4294967296)) * 18446744073709551616 + (x % 4294967296 * (y / 4294967296) + x / 4294967296 * (y % 4294967296)) * 4294967296 + x % 4294967296 * (y % 4294967296) := by
  have hx : x = x / 4294967296 * 4294967296 + x % 4294967296 := by omega
  have hy : y = y / 4294967296 * 4294967296 + y % 4294967296 := by omega
  generalize x / 4294967296 = x1 at *
  generalize y / 4294967296 = y1 at *
  generalize x % 4294967296 = x0 at *
  generalize y % 4294967296 = y0 at *
  subst hx hy
  simp only [Nat.add_mul, Nat.mul_add]
  have e1 : x1 * 4294967296 * (y1 * 4294967296) = x1 * y1 * 18446744073709551616 := by
    rw [Nat.mul_mul_mul_comm]
  have e2 : x1 * 4294967296 * y0 = x1 * y0 * 4294967296 := by rw [Nat.mul_right_comm]
  have e3 : x0 * (y1 * 4294967296) = x0 * y1 * 4294967296 := by rw [Nat.mul_assoc]
  rw [e1, e2, e3]
  omega

theorem orN (a b : Nat) (ha : a < 4294967296) : bits .or .u64 (a : Int) (IntKind.u64.wrap ((b : Int) * 4294967296)) = ((a + b % 4294967296 * 4294967296 : Nat) : Int) := by
  have hm : IntKind.u64.wrap ((b : Int) * 4294967296) = (((b % 4294967296) * 4294967296 : Nat) : Int) := by rw [IntKind.wrap_u64]; omega
  rw [hm]
  have hb : (b % 4294967296) * 4294967296 < 18446744073709551616 := by omega
  rw [bits_or_u64_nat a ((b % 4294967296) * 4294967296) (by omega) hb]
  have e : a ||| (b % 4294967296) * 4294967296 = a + b % 4294967296 * 4294967296 := by
    have h := Nat.shiftLeft_add_eq_or_of_lt (b := a) (i := 32) (by simpa using ha) (b % 4294967296)
    rw [Nat.shiftLeft_eq, Nat.or_comm] at h
    have h32 : (2 : Nat) ^ 32 = 4294967296 := by decide
    rw [h32] at h
    omega
  rw [e]

set_option maxHeartbeats 1000000 in
theorem amulN (x y : Nat) (hx : x < 18446744073709551616) (hy : y < 18446744073709551616) (w : World) :
    Calls Yba.prog 9 #[.int .u64 x, .int .u64 y] w fun e w' => e = .returned (.tuple #[.int .u64 ((x * y / 18446744073709551616 : Nat) : Int), .int .u64 ((x * y % 18446744073709551616 : Nat) : Int)]) ∧ w' = w := by
  have b11 := Lib.half_mul_le (a := x / 4294967296) (b := y / 4294967296) (by omega) (by omega)
  have b10 := Lib.half_mul_le (a := x / 4294967296) (b := y % 4294967296) (by omega) (by omega)
  have b01 := Lib.half_mul_le (a := x % 4294967296) (b := y / 4294967296) (by omega) (by omega)
  have b00 := Lib.half_mul_le (a := x % 4294967296) (b := y % 4294967296) (by omega) (by omega)
  obtain ⟨hhi, hlo⟩ := school x y _ _ _ _ (halves x y)
  go_enter Yba.func9, Yba.ntmps9
  go_wp2
  simp only [Mul64.maskN x hx, Mul64.maskN y hy, Mul64.divN, Mul64.mulN]
  generalize x / 4294967296 * (y / 4294967296) = p11 at *
  generalize x / 4294967296 * (y % 4294967296) = p10 at *
  generalize x % 4294967296 * (y / 4294967296) = p01 at *
  generalize x % 4294967296 * (y % 4294967296) = p00 at *
  have b11' : p11 < 18446744073709551616 := by omega
  have b10' : p10 < 18446744073709551616 := by omega
  have b01' : p01 < 18446744073709551616 := by omega
  have b00' : p00 < 18446744073709551616 := by omega
  simp only [Mul64.wrapN _ b11', Mul64.wrapN _ b10', Mul64.wrapN _ b01', Mul64.wrapN _ b00', Mul64.maskN _ b10', Mul64.maskN _ b01', Mul64.maskN _ b00', Mul64.divN, Mul64.addN]
  have c1 : p00 / 4294967296 + p01 % 4294967296 < 18446744073709551616 := by omega
  have c2 : p00 / 4294967296 + p01 % 4294967296 + p10 % 4294967296 < 18446744073709551616 := by omega
  have c3 : p11 + p01 / 4294967296 < 18446744073709551616 := by omega
  have c4 : p11 + p01 / 4294967296 + p10 / 4294967296 < 18446744073709551616 := by omega
  have c5 : p11 + p01 / 4294967296 + p10 / 4294967296 + (p00 / 4294967296 + p01 % 4294967296 + p10 % 4294967296) / 4294967296 < 18446744073709551616 := by omega
  simp only [Mul64.wrapN _ c1, Mul64.addN, Mul64.wrapN _ c2, Mul64.wrapN _ c3, Mul64.wrapN _ c4, Mul64.divN, Mul64.wrapN _ c5, orN (p00 % 4294967296) (p00 / 4294967296 + p01 % 4294967296 + p10 % 4294967296) (by omega)]
  rw [hhi, hlo]
  go_ret2
  exact ⟨rfl, rfl⟩

theorem amul (x y : Int) (hx : Word x) (hy : Word y) (w : World) :
    Calls Yba.prog 9 #[.int .u64 x, .int .u64 y] w fun e w' => e = .returned (.tuple #[.int .u64 (mulhi x y), .int .u64 (mullo x y)]) ∧ w' = w := by
  obtain ⟨hx0, hx1⟩ := hx
  obtain ⟨hy0, hy1⟩ := hy
  obtain ⟨x, rfl⟩ := Int.eq_ofNat_of_zero_le hx0
  obtain ⟨y, rfl⟩ := Int.eq_ofNat_of_zero_le hy0
  exact amulN x y (by omega) (by omega) w

theorem wrap_sub2 (x y b : Int) : IntKind.u64.wrap (IntKind.u64.wrap (x - y) - b) = subw x y b := by
  rw [IntKind.wrap_u64, IntKind.wrap_u64]; unfold subw; omega

set_option maxHeartbeats 400000 in
theorem asub (x y b : Int) (hb : 0 ≤ b ∧ b ≤ 1) (w : World) :
    Calls Yba.prog 10 #[.int .u64 x, .int .u64 y, .int .u64 b] w fun e w' => e = .returned (.tuple #[.int .u64 (subw x y b), .int .u64 (bor x y b)]) ∧ w' = w := by
  have e1 := wrap_sub2 x y b
  by_cases h1 : x < y
  · have hbo : bor x y b = 1 := by unfold bor; rw [if_pos (by omega)]
    rw [hbo]
    go_enter Yba.func10, Yba.ntmps10
    go_wp2
    go_ret2
    exact ⟨rfl, rfl⟩
  · by_cases h2 : x = y
    · by_cases h3 : b = 1
      · have hbo : bor x y b = 1 := by unfold bor; rw [if_pos (by omega)]
        rw [hbo]
        have g1 : (x == y) = true := by simp [h2]
        have g2 : (b == 1) = true := by simp [h3]
        clear h2 h3
        go_enter Yba.func10, Yba.ntmps10
        go_wp2
        go_ret2
        exact ⟨rfl, rfl⟩
      · have hbo : bor x y b = 0 := by unfold bor; rw [if_neg (by omega)]
        rw [hbo]
        have g1 : (x == y) = true := by simp [h2]
        have g2 : (b == 1) = false := by simp [h3]
        clear h2 h3
        go_enter Yba.func10, Yba.ntmps10
        go_wp2
        go_ret2
        exact ⟨rfl, rfl⟩
    · have hbo : bor x y b = 0 := by unfold bor; rw [if_neg (by omega)]
      rw [hbo]
      have g1 : (x == y) = false := by simp [h2]
      clear h2
      go_enter Yba.func10, Yba.ntmps10
      go_wp2
      go_ret2
      exact ⟨rfl, rfl⟩

theorem wrap_0 (x : Int) (h : Word x) : IntKind.u64.wrap x = x := by rw [IntKind.wrap_u64]; unfold Word at h; omega

set_option maxHeartbeats 400000 in
theorem sub_product (hi mid lo n p : Int) (hm : Word mid) (hl : Word lo) (w : World) :
    Calls Yba.prog 17 #[.agg #[.int .u64 hi, .int .u64 mid, .int .u64 lo], .int .i64 n, .int .i64 p] w fun e w' =>
      e = .returned (.agg #[.int .u64 (subw hi 0 (bor mid (mulhi (IntKind.u64.wrap n) (IntKind.u64.wrap p)) (bor lo (mullo (IntKind.u64.wrap n) (IntKind.u64.wrap p)) 0))), .int .u64 (subw mid (mulhi (IntKind.u64.wrap n) (IntKind.u64.wrap p)) (bor lo (mullo (IntKind.u64.wrap n) (IntKind.u64.wrap p)) 0)), .int .u64 (subw lo (mullo (IntKind.u64.wrap n) (IntKind.u64.wrap p)) 0)]) ∧ ∃ c1 c2 : Array Value, w' = (w.alloc (.cells c1 28)).alloc (.cells c2 28) := by
  have hwl := word_mullo (IntKind.u64.wrap n) (IntKind.u64.wrap p)
  have hwh := word_mulhi (IntKind.u64.wrap n) (IntKind.u64.wrap p) (word_wrap n) (word_wrap p)
  have hml := mul64 (IntKind.u64.wrap n) (IntKind.u64.wrap p) (word_wrap n) (word_wrap p)
  generalize mullo (IntKind.u64.wrap n) (IntKind.u64.wrap p) = L at *
  generalize mulhi (IntKind.u64.wrap n) (IntKind.u64.wrap p) = H at *
  have hs1 := sub64 lo L 0 hl hwl (by omega)
  have hs2 := sub64 mid H (bor lo L 0) hm hwh (bor01 _ _ _)
  have e1 := wrap_sub hi (bor mid H (bor lo L 0))
  have HM := hide hml
  clear hml
  go_enter Yba.func17, Yba.ntmps17
  go_wp2_with (go_at_call 27; refine (unhide HM _).mono ?_; rintro e w' ⟨rfl, rfl⟩)
  go_returns
  exact ⟨rfl, _, _, rfl⟩

end Go.Proofs.Ybulkapzy
