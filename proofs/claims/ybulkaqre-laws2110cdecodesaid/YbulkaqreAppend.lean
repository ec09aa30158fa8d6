import Derived.Test.YbulkaqreBytes
import Derived.Lib.Endian
namespace Go.Proofs.Ybulkaqre
open Go.RowKit

/-- Blocks of cells that are no bytes stay as they are. -/
def KeepOdd (w w' : World) : Prop := ∀ (k : Nat) (c : Array Value) (t : TypeId), t ≠ 5 → w.heap[k]? = some (Obj.cells c t (0, 0)) → w'.heap[k]? = some (Obj.cells c t (0, 0))

theorem KeepOdd.refl (w : World) : KeepOdd w w := fun _ _ _ _ h => h
theorem KeepOdd.trans {a b c : World} (h : KeepOdd a b) (k : KeepOdd b c) : KeepOdd a c := fun i x t ht hx => k i x t ht (h i x t ht hx)
theorem KeepOdd.alloc {a w : World} (h : KeepOdd a w) (o : Obj) : KeepOdd a (w.alloc o) := fun i x t ht hx => by
  have h1 := h i x t ht hx
  rw [Below.heap_alloc _ _ _ (lt_of_block h1)]
  exact h1
theorem KeepOdd.grown {a w w' : World} {B n : Nat} {v : Value} {xs : List Value} (h : KeepOdd a w) (hown : w.ownsRow B 5 1 v n xs) (hg : w.grownBy w' v.ownBlock) : KeepOdd a w' := fun i x t ht hx => by
  have h1 := h i x t ht hx
  rw [hg.block i (lt_of_block h1) ?_]
  · exact h1
  · intro e
    rcases hown.2 with ⟨rfl, _⟩ | ⟨g, cap, cur, rfl, _, hh, _⟩
    · simp [Value.ownBlock] at e
    · simp [Value.ownBlock] at e
      subst e
      rw [hh] at h1
      simp at h1
      exact ht h1.2.symm

/-- What each append leaves: the row's new content, old memory, other blocks. -/
structure Grew (B : Nat) (v : Value) (n : Nat) (l : List UInt8) (w0 w : World) : Prop where
  own : w.ownsRow B 5 1 v n (Lib.byteCells l)
  below : Below B w0 w
  odd : KeepOdd w0 w

theorem byteCells_append (a b : List UInt8) : Lib.byteCells (a ++ b) = Lib.byteCells a ++ Lib.byteCells b := by simp [Lib.byteCells]

set_option maxHeartbeats 4000000 in
set_option maxRecDepth 100000 in
theorem appendUvarint_any (B n x : Nat) (hx : x < 18446744073709551616) (v : Value) (l : List UInt8) (w0 w : World) (h : Grew B v n l w0 w) (hBw : B ≤ w0.heap.size) (hlim : n + 10 ≤ 140737488355328) :
    Calls Yba.prog 8 #[v, .int .u64 x] w fun e w' => ∃ v', e = .returned v' ∧ Grew B v' (n + (Lib.uvarint x).length) (l ++ Lib.uvarint x) w0 w' := by
  obtain ⟨i0, hi, hz0, hz1, hz2⟩ := info_parts Yba.info5
  have hlen := Lib.uvarint_length64 hx
  go_enter Yba.func8, Yba.ntmps8
  go_wp2
  go_loopw [0, 1] (fun vb vx wr => ∃ (y : Nat) (pre : List UInt8), vx = .int .u64 y ∧ y ≤ x ∧ Lib.uvarint x = pre ++ Lib.uvarint y ∧ Grew B vb (n + pre.length) (l ++ pre) w0 wr)
    (fun _ vx _ => (intOf vx).toNat)
  case atStart => exact ⟨x, [], rfl, Nat.le_refl _, rfl, by simpa using h⟩
  case round =>
    obtain ⟨y, pre, rfl, hy, hsplit, hG⟩ := hrel
    have hown1 := hG.own
    have hnx := hG.below
    have hpl : pre.length + (Lib.uvarint y).length ≤ 10 := by
      have h2 := congrArg List.length hsplit
      rw [List.length_append] at h2
      omega
    have hyp := Lib.uvarint_pos y
    have HS := hide hsplit
    have HG := hide hG
    clear hsplit hG h
    by_cases h128 : 128 ≤ y
    · have hor : bits .or .u8 ((y : Int) % 256) 128 = ((y % 128 + 128 : Nat) : Int) := by
        rw [Lib.u8_or128_any _ (by omega) (by omega)]
        omega
      go_wp2_with (at_builtin; refine wpList_append_own _ rfl _ _ 22 rfl B 5 i0 (.int .u8 0) 1 1 Yba.underlying22 hi hz0 hz1 hz2 rfl (by decide) _ _ _ rfl (hown1.alloc _) ⟨wr.heap.size, 0, none⟩ 1 1 [Value.int .u8 ((y % 128 + 128 : Nat) : Int)] rfl rfl ?c1 ?c2 ?c3 ?c4 ?c5 ?_)
      case c1 =>
        intro j u hj
        match j, hj with
        | 0, hj => simp at hj; subst hj; simp [Addr.add]
      case c2 => intro u hu; simp at hu; subst hu; rfl
      case c3 => unfold maxLen; omega
      case c4 => omega
      case c5 => have := hnx.size; simp; omega
      intro v' w1 hown' hgrow _
      have hnx1 : Below B w0 w1 := (hnx.alloc (by have := hnx.size; omega) _).grown hgrow (by have := hnx.size; simp; omega) (fun k hk => (hown1.lt k hk).1)
      have hod : KeepOdd w0 w1 := ((unhide HG).odd.alloc _).grown (hown1.alloc _) hgrow
      have HN := hide hnx1
      have HO := hide hod
      have HW := hide hown'
      clear hnx1 hod hown' hgrow
      go_wp2
      go_roundw
      case rel =>
        refine ⟨y / 128, pre ++ [(y % 128 + 128).toUInt8], by go_num, by omega, by rw [unhide HS, Lib.uvarint_big h128]; simp, ?_, unhide HN, unhide HO⟩
        have ec : ((y % 128 + 128 : Nat) : Int) = (y : Int) % 128 + 128 := by omega
        rw [← List.append_assoc, Lib.byteCells_snoc (l ++ pre) (by omega), List.length_append, List.length_singleton, ← Nat.add_assoc, ec]
        exact unhide HW
      case measure => simp [intOf]; omega
    · have hsm : Lib.uvarint y = [y.toUInt8] := Lib.uvarint_small (by omega)
      have HSM := hide hsm
      clear hsm
      go_wp2_with (at_builtin; refine wpList_append_own _ rfl _ _ 22 rfl B 5 i0 (.int .u8 0) 1 1 Yba.underlying22 hi hz0 hz1 hz2 rfl (by decide) _ _ _ rfl (hown1.alloc _) ⟨wr.heap.size, 0, none⟩ 1 1 [Value.int .u8 (y : Int)] rfl rfl ?c1 ?c2 ?c3 ?c4 ?c5 ?_)
      case c1 =>
        intro j u hj
        match j, hj with
        | 0, hj => simp at hj; subst hj; simp [Addr.add]
      case c2 => intro u hu; simp at hu; subst hu; rfl
      case c3 => unfold maxLen; omega
      case c4 => omega
      case c5 => have := hnx.size; simp; omega
      intro v' w1 hown' hgrow _
      have hnx1 : Below B w0 w1 := (hnx.alloc (by have := hnx.size; omega) _).grown hgrow (by have := hnx.size; simp; omega) (fun k hk => (hown1.lt k hk).1)
      have hod : KeepOdd w0 w1 := ((unhide HG).odd.alloc _).grown (hown1.alloc _) hgrow
      have HN := hide hnx1
      have HO := hide hod
      have HW := hide hown'
      clear hnx1 hod hown' hgrow
      go_wp2
      go_ret
      refine ⟨v', rfl, ?_, unhide HN, unhide HO⟩
      rw [unhide HS, unhide HSM, ← List.append_assoc, Lib.byteCells_snoc (l ++ pre) (by omega), List.length_append, List.length_singleton, ← Nat.add_assoc]
      exact unhide HW

set_option maxHeartbeats 4000000 in
set_option maxRecDepth 100000 in
theorem appendUint64_any (B n x : Nat) (hv : x < 18446744073709551616) (v : Value) (l : List UInt8) (w0 w : World) (h : Grew B v n l w0 w) (hBw : B ≤ w0.heap.size) (hlim : n + 8 ≤ 140737488355328) :
    Calls Yba.prog 9 #[.agg #[], v, .int .u64 x] w fun e w' => ∃ v', e = .returned v' ∧ Grew B v' (n + 8) (l ++ Lib.beBytes 8 x) w0 w' := by
  obtain ⟨i0, hi, hz0, hz1, hz2⟩ := info_parts Yba.info5
  have e0 : ((x % 256 : Nat) : Int) = (x : Int) % 256 := by omega
  have e1 : ((x / 256 % 256 : Nat) : Int) = (x : Int) / 256 % 256 := by omega
  have e2 : ((x / 256 / 256 % 256 : Nat) : Int) = (x : Int) / 65536 % 256 := by omega
  have e3 : ((x / 256 / 256 / 256 % 256 : Nat) : Int) = (x : Int) / 16777216 % 256 := by omega
  have e4 : ((x / 256 / 256 / 256 / 256 % 256 : Nat) : Int) = (x : Int) / 4294967296 % 256 := by omega
  have e5 : ((x / 256 / 256 / 256 / 256 / 256 % 256 : Nat) : Int) = (x : Int) / 1099511627776 % 256 := by omega
  have e6 : ((x / 256 / 256 / 256 / 256 / 256 / 256 % 256 : Nat) : Int) = (x : Int) / 281474976710656 % 256 := by omega
  have e7 : ((x / 256 / 256 / 256 / 256 / 256 / 256 / 256 % 256 : Nat) : Int) = (x : Int) / 72057594037927936 := by omega
  have hb : Lib.byteCells (Lib.beBytes 8 x) = [Value.int .u8 ((x : Int) / 72057594037927936), Value.int .u8 ((x : Int) / 281474976710656 % 256), Value.int .u8 ((x : Int) / 1099511627776 % 256), Value.int .u8 ((x : Int) / 4294967296 % 256), Value.int .u8 ((x : Int) / 16777216 % 256), Value.int .u8 ((x : Int) / 65536 % 256), Value.int .u8 ((x : Int) / 256 % 256), Value.int .u8 ((x : Int) % 256)] := by
    simp only [Lib.byteCells, Lib.beBytes, Lib.leBytes, List.reverse_cons, List.reverse_nil, List.nil_append, List.cons_append, List.map, Lib.toUInt8_mod, e0, e1, e2, e3, e4, e5, e6, e7]
  have hown := h.own
  have HB := hide hb
  have HG := hide h
  clear h hb e0 e1 e2 e3 e4 e5 e6 e7
  go_enter Yba.func9, Yba.ntmps9
  go_wp2_with (at_builtin; refine wpList_append_own _ rfl _ _ 22 rfl B 5 i0 (.int .u8 0) 1 1 Yba.underlying22 hi hz0 hz1 hz2 rfl (by decide) _ _ _ rfl ((hown.alloc _).alloc _) _ 8 8 [Value.int .u8 ((x : Int) / 72057594037927936), Value.int .u8 ((x : Int) / 281474976710656 % 256), Value.int .u8 ((x : Int) / 1099511627776 % 256), Value.int .u8 ((x : Int) / 4294967296 % 256), Value.int .u8 ((x : Int) / 16777216 % 256), Value.int .u8 ((x : Int) / 65536 % 256), Value.int .u8 ((x : Int) / 256 % 256), Value.int .u8 ((x : Int) % 256)] rfl rfl ?c1 ?c2 ?c3 ?c4 ?c5 ?_)
  case c1 =>
    intro j u hj
    match j, hj with
    | 0, hj => simp at hj; subst hj; simp [Addr.add]
    | 1, hj => simp at hj; subst hj; simp [Addr.add]
    | 2, hj => simp at hj; subst hj; simp [Addr.add]
    | 3, hj => simp at hj; subst hj; simp [Addr.add]
    | 4, hj => simp at hj; subst hj; simp [Addr.add]
    | 5, hj => simp at hj; subst hj; simp [Addr.add]
    | 6, hj => simp at hj; subst hj; simp [Addr.add]
    | 7, hj => simp at hj; subst hj; simp [Addr.add]
  case c2 => intro u hu; simp at hu; rcases hu with rfl | rfl | rfl | rfl | rfl | rfl | rfl | rfl <;> rfl
  case c3 => unfold maxLen; omega
  case c4 => omega
  case c5 => have := (unhide HG).below.size; simp; omega
  intro v' w2 hown' hgrow _
  have hbl : Below B w0 w2 := ((((unhide HG).below.alloc (by have := (unhide HG).below.size; omega) _).alloc (by have := (unhide HG).below.size; simp; omega) _).grown hgrow (by have := (unhide HG).below.size; simp; omega) (fun k hk => (hown.lt k hk).1))
  have hod : KeepOdd w0 w2 := (((unhide HG).odd.alloc _).alloc _).grown ((hown.alloc _).alloc _) hgrow
  have HN := hide hbl
  have HO := hide hod
  have HW := hide hown'
  clear hbl hod hown' hgrow
  go_wp2
  go_ret
  exact ⟨v', rfl, by rw [byteCells_append, unhide HB]; exact unhide HW, unhide HN, unhide HO⟩

end Go.Proofs.Ybulkaqre
