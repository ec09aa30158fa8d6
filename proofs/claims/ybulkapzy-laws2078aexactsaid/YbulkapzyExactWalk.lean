import Derived.Test.YbulkapzyExpo
namespace Go.Proofs.Ybulkapzy
open Go.RowKit

theorem belowN {B : Nat} {a w : World} (h : Below B a w) (n : Nat) : Below B a (w.drewN n) := h.trans (Below.mk rfl rfl rfl (Nat.le_refl _) (fun _ _ => rfl))

set_option maxHeartbeats 4000000 in
theorem exact_buy (m p : ByteArray) (bh bl sh sl nh nm nl qh qm ql : Int) (z r : Int) (h2 : Word bl) (h4 : Word nm) (h5 : Word nl) (w : World) :
    Calls Yba.prog 3 #[.agg #[.string m, .string p, .int .u64 bh, .int .u64 bl, .int .u64 sh, .int .u64 sl, .int .u64 nh, .int .u64 nm, .int .u64 nl, .int .u64 qh, .int .u64 qm, .int .u64 ql], .int .u8 1, .int .i64 z, .int .i64 r] w fun e w' =>
      e = .returned (.bool true) ∧ Below w.heap.size w w' := by
  have hwz := word_wrap z
  have hwr := word_wrap r
  go_enter Yba.func3, Yba.ntmps3
  go_wp2_with (first
    | (go_at_call 7; refine (build7 _ _ _ _ _ _ _ _ _ _ _ _ _).mono ?_; rintro e w' ⟨rfl, c1, c2, rfl⟩)
    | (go_at_call 15; refine (side_buy _ _).mono ?_; rintro e w' ⟨rfl, nq, rfl⟩)
    | (go_at_call 16; refine (total_sub _ _ _ h2 _).mono ?_; rintro e w' ⟨rfl, c1, c2, rfl⟩)
    | (go_at_call 17; refine (sub_product _ _ _ _ _ h4 h5 _).mono ?_; rintro e w' ⟨rfl, c1, c2, rfl⟩)
    | (go_at_call 9; refine (amul _ _ hwz hwr _).mono ?_; rintro e w' ⟨rfl, rfl⟩)
    | (go_at_call 10; refine (asub _ _ _ (by first | exact bor01 _ _ _ | decide) _).mono ?_; rintro e w' ⟨rfl, rfl⟩)
    | go_in)
  go_ret
  refine ⟨rfl, ?_⟩
  repeat' (first
    | (with_reducible exact Below.refl _ _)
    | (with_reducible refine Below.alloc ?_ ?_ _)
    | (with_reducible refine Below.setCell ?_ ?_ _)
    | (with_reducible refine belowN ?_ _)
    | go_size)

set_option maxHeartbeats 4000000 in
theorem exact_sell (m p : ByteArray) (bh bl sh sl nh nm nl qh qm ql : Int) (s z r : Int) (hs : (s == 1) = false) (h2 : Word sl) (h4 : Word qm) (h5 : Word ql) (w : World) :
    Calls Yba.prog 3 #[.agg #[.string m, .string p, .int .u64 bh, .int .u64 bl, .int .u64 sh, .int .u64 sl, .int .u64 nh, .int .u64 nm, .int .u64 nl, .int .u64 qh, .int .u64 qm, .int .u64 ql], .int .u8 s, .int .i64 z, .int .i64 r] w fun e w' =>
      e = .returned (.bool true) ∧ Below w.heap.size w w' := by
  have hwz := word_wrap z
  have hwr := word_wrap r
  go_enter Yba.func3, Yba.ntmps3
  go_wp2_with (first
    | (go_at_call 7; refine (build7 _ _ _ _ _ _ _ _ _ _ _ _ _).mono ?_; rintro e w' ⟨rfl, c1, c2, rfl⟩)
    | (go_at_call 15; refine (side_sell _ _ hs _).mono ?_; rintro e w' ⟨rfl, nq, rfl⟩)
    | (go_at_call 16; refine (total_sub _ _ _ h2 _).mono ?_; rintro e w' ⟨rfl, c1, c2, rfl⟩)
    | (go_at_call 17; refine (sub_product _ _ _ _ _ h4 h5 _).mono ?_; rintro e w' ⟨rfl, c1, c2, rfl⟩)
    | (go_at_call 9; refine (amul _ _ hwz hwr _).mono ?_; rintro e w' ⟨rfl, rfl⟩)
    | (go_at_call 10; refine (asub _ _ _ (by first | exact bor01 _ _ _ | decide) _).mono ?_; rintro e w' ⟨rfl, rfl⟩)
    | go_in)
  go_ret
  refine ⟨rfl, ?_⟩
  repeat' (first
    | (with_reducible exact Below.refl _ _)
    | (with_reducible refine Below.alloc ?_ ?_ _)
    | (with_reducible refine Below.setCell ?_ ?_ _)
    | (with_reducible refine belowN ?_ _)
    | go_size)

end Go.Proofs.Ybulkapzy
