import Derived.Test.YbulkaqreEntry
namespace Go.Proofs.Ybulkaqre
open Go.RowKit

theorem orP (a b s : Nat) (ha : a < 2 ^ s) (hb : a + b * 2 ^ s < 18446744073709551616) : bits .or .u64 (a : Int) (IntKind.u64.wrap ((b : Int) * 2 ^ s)) = ((a + b * 2 ^ s : Nat) : Int) := by
  have hm : IntKind.u64.wrap ((b : Int) * 2 ^ s) = ((b * 2 ^ s : Nat) : Int) := by
    rw [IntKind.wrap_u64]
    have : ((b : Int) * 2 ^ s) = ((b * 2 ^ s : Nat) : Int) := by push_cast; rfl
    rw [this]
    omega
  rw [hm, bits_or_u64_nat a (b * 2 ^ s) (by omega) (by omega)]
  have h := Nat.shiftLeft_add_eq_or_of_lt (b := a) (i := s) ha b
  rw [Nat.shiftLeft_eq, Nat.or_comm] at h
  rw [← h, Nat.add_comm]

theorem step_math (acc y k x : Nat) (h : x = acc + y * 2 ^ (7 * k)) (ha : acc < 2 ^ (7 * k)) :
    acc + y % 128 * 2 ^ (7 * k) ≤ x ∧ x = acc + y % 128 * 2 ^ (7 * k) + y / 128 * 2 ^ (7 * (k + 1)) ∧ acc + y % 128 * 2 ^ (7 * k) < 2 ^ (7 * (k + 1)) := by
  have hp : 2 ^ (7 * (k + 1)) = 2 ^ (7 * k) * 128 := by rw [Nat.mul_add, Nat.pow_add]
  rw [hp]
  generalize 2 ^ (7 * k) = P at *
  have h1 : y * P = y % 128 * P + y / 128 * (P * 128) := by
    have e : y = y % 128 + y / 128 * 128 := by omega
    have e2 : y / 128 * (P * 128) = (y / 128 * 128) * P := by rw [Nat.mul_comm P 128, Nat.mul_assoc]
    rw [e2, ← Nat.add_mul, ← e]
  have h2 : y % 128 * P ≤ 127 * P := Nat.mul_le_mul_right P (by omega)
  refine ⟨by omega, by omega, by omega⟩

set_option maxHeartbeats 2000000 in
set_option maxRecDepth 100000 in
theorem uvarint_any (g N cap i x : Nat) (o rest : List UInt8) (w : World) (hN : o.length = N) (hN2 : N ≤ 1000000) (hx : x < 18446744073709551616) (hd : o.drop i = Lib.uvarint x ++ rest)
    (hc : ∀ t, t < N → w.cell? ⟨g, t, none⟩ = some (.int .u8 ((o.getD t 0).toNat : Int))) :
    Calls Yba.prog 7 #[.slice (some ⟨g, 0, none⟩) N cap, .int .i64 i] w fun e w' => e = .returned (.tuple #[.int .u64 x, .int .i64 ((i + (Lib.uvarint x).length : Nat) : Int), .bool true]) ∧ w' = w := by
  have hlen := Lib.uvarint_length64 hx
  have HD := hide hd
  have HC := hide hc
  have HN := hide hN
  clear hd hc hN
  go_enter Yba.func7, Yba.ntmps7
  go_wp2
  go_loop [1, 7, 8, 9] (fun vi vx vs vk => ∃ k y acc : Nat, vk = .int .i64 k ∧ vi = .int .i64 ((i + k : Nat) : Int) ∧ vs = .int .u64 ((7 * k : Nat) : Int) ∧ vx = .int .u64 acc ∧ x = acc + y * 2 ^ (7 * k) ∧ acc < 2 ^ (7 * k) ∧
      o.drop (i + k) = Lib.uvarint y ++ rest ∧ (Lib.uvarint x).length = k + (Lib.uvarint y).length) (fun _ _ _ vk => 10 - (intOf vk).toNat)
  case atStart => exact ⟨0, x, 0, rfl, by simp, rfl, rfl, by simp, by simp, by simpa using unhide HD, by simp⟩
  case round =>
    obtain ⟨k, y, acc, rfl, rfl, rfl, rfl, hxe, hacc, hdr, hle⟩ := hrel
    have hyp := Lib.uvarint_pos y
    have hk9 : k ≤ 9 := by omega
    have hik : i + k < N := by
      have h1 := congrArg List.length hdr
      rw [List.length_drop, List.length_append, unhide HN] at h1
      omega
    have hck := unhide HC (i + k) hik
    have hget : o.getD (i + k) 0 = ((Lib.uvarint y ++ rest)[0]?).getD 0 := by
      rw [← hdr, List.getElem?_drop, Nat.add_zero]; rfl
    have HXE := hide hxe
    have HDR := hide hdr
    have HLE := hide hle
    clear hxe hdr hle
    by_cases h128 : 128 ≤ y
    · have hb : ((o.getD (i + k) 0).toNat : Int) = ((y % 128 + 128 : Nat) : Int) := by
        rw [hget, Lib.uvarint_big h128]
        simp
        omega
      rw [hb] at hck
      clear hb hget
      go_wp2
      go_roundw
      case rel =>
        have hP := step_math acc y k x (unhide HXE) hacc
        have e1 : IntKind.u64.wrap (bits BinOp.and IntKind.u8 ((y : Int) % 128 + 128) 127) = ((y % 128 : Nat) : Int) := by
          rw [u8_and127 ((y : Int) % 128 + 128) (by omega) (by omega), IntKind.wrap_u64]; omega
        rw [e1, orP acc (y % 128) (7 * k) hacc (by omega)]
        refine ⟨k + 1, y / 128, acc + y % 128 * 2 ^ (7 * k), by go_num, by go_num, by go_num, rfl, hP.2.1, hP.2.2, ?_, ?_⟩
        · have h1 := unhide HDR
          rw [Lib.uvarint_big h128] at h1
          rw [← Nat.add_assoc, ← List.drop_drop, h1]
          simp
        · have h1 := unhide HLE
          rw [Lib.uvarint_big h128] at h1
          rw [h1]
          simp
          omega
      case measure => simp [intOf]; omega
    · have hb : ((o.getD (i + k) 0).toNat : Int) = (y : Int) := by
        rw [hget, Lib.uvarint_small (by omega)]
        simp [Lib.toUInt8_toNat (show y < 256 by omega)]
      rw [hb] at hck
      clear hb hget
      go_wp2
      rw [orP acc y (7 * k) hacc (by have := unhide HXE; omega), ← unhide HXE]
      go_ret3
      refine ⟨?_, rfl⟩
      have h1 := unhide HLE
      rw [Lib.uvarint_small (x := y) (by omega)] at h1
      have h2 : (i : Int) + ((Lib.uvarint x).length : Int) = (i : Int) + k + 1 := by rw [h1, List.length_singleton]; omega
      rw [h2]
      rfl

end Go.Proofs.Ybulkaqre
