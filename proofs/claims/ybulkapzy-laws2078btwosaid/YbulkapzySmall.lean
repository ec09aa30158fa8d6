import Derived.Test.YbulkapzyFacts
import Derived.LoopN
namespace Go.Proofs.Ybulkapzy
open Go.RowKit

theorem isNaN_any (x : Int) (w : World) : Calls Yba.prog 41 #[.int .i64 x] w fun e w' => e = .returned (.bool false) ∧ w' = w := by
  have h : (x != x) = false := by simp
  go_enter Yba.func41, Yba.ntmps41
  go_wp2
  go_ret
  exact ⟨rfl, rfl⟩

def cmpI (x y : Int) : Int := if x < y then -1 else if y < x then 1 else 0

theorem compare_any (x y : Int) (w : World) : Calls Yba.prog 36 #[.int .i64 x, .int .i64 y] w fun e w' => e = .returned (.int .i64 (cmpI x y)) ∧ w' = w := by
  by_cases h1 : x < y
  · go_enter Yba.func36, Yba.ntmps36
    go_wp2_with fail
    refine (isNaN_any x w).mono ?_
    rintro e w' ⟨rfl, rfl⟩
    go_wp2_with fail
    refine (isNaN_any y _).mono ?_
    rintro e w' ⟨rfl, rfl⟩
    go_wp2
    go_ret
    exact ⟨by rw [cmpI, if_pos h1]; rfl, rfl⟩
  · by_cases h2 : y < x
    · go_enter Yba.func36, Yba.ntmps36
      go_wp2_with fail
      refine (isNaN_any x w).mono ?_
      rintro e w' ⟨rfl, rfl⟩
      go_wp2_with fail
      refine (isNaN_any y _).mono ?_
      rintro e w' ⟨rfl, rfl⟩
      go_wp2
      go_ret
      exact ⟨by rw [cmpI, if_neg (by omega), if_pos h2]; rfl, rfl⟩
    · go_enter Yba.func36, Yba.ntmps36
      go_wp2_with fail
      refine (isNaN_any x w).mono ?_
      rintro e w' ⟨rfl, rfl⟩
      go_wp2_with fail
      refine (isNaN_any y _).mono ?_
      rintro e w' ⟨rfl, rfl⟩
      go_wp2
      go_ret
      exact ⟨by rw [cmpI, if_neg (by omega), if_neg (by omega)]; rfl, rfl⟩

theorem byseq_any (bh bm : Nat) (s t : Int) (w : World) (hm : w.cell? ⟨bh, 0, none⟩ = some (.pointer (some ⟨bm, 0, none⟩))) (hs : w.cell? ⟨bm, 1, none⟩ = some (.int .i64 s)) :
    Calls Yba.prog 35 #[.pointer (some ⟨bh, 0, none⟩), .int .i64 t] w fun e w' => e = .returned (.int .i64 (cmpI s t)) ∧ w' = w := by
  go_enter Yba.func35, Yba.ntmps35
  go_wp2_with fail
  refine (compare_any s t w).mono ?_
  rintro e w' ⟨rfl, rfl⟩
  go_wp2
  go_ret
  exact ⟨rfl, rfl⟩

theorem live_any (x : Int) (w : World) : Calls Yba.prog 38 #[.int .u8 x] w fun e w' => e = .returned (.bool ((x == 1) || (x == 4))) ∧ w' = w := by
  cases h1 : (x == 1)
  · go_enter Yba.func38, Yba.ntmps38
    go_wp2
    go_ret
    exact ⟨rfl, rfl⟩
  · go_enter Yba.func38, Yba.ntmps38
    go_wp2
    go_ret
    exact ⟨rfl, rfl⟩

theorem covers_any (u g : Int) (x : Bool) (w : World) : Calls Yba.prog 31 #[.int .u64 u, .bool x, .int .u64 g] w fun e w' => e = .returned (.bool (x && decide (g ≤ u))) ∧ w' = w := by
  cases x
  · go_enter Yba.func31, Yba.ntmps31
    go_wp2
    go_ret
    exact ⟨rfl, rfl⟩
  · go_enter Yba.func31, Yba.ntmps31
    go_wp2
    go_ret
    exact ⟨rfl, rfl⟩

def blk (b : Int) : Int := if b < 1 then 1 else b

theorem block_any (be : Nat) (b : Int) (w : World) (hb : w.cell? ⟨be, 3, none⟩ = some (.int .u64 b)) :
    Calls Yba.prog 23 #[.pointer (some ⟨be, 0, none⟩)] w fun e w' => e = .returned (.int .u64 (blk b)) ∧ w' = w := by
  by_cases h : b < 1
  · go_enter Yba.func23, Yba.ntmps23
    go_wp2
    all_goals go_ret
    all_goals first | exact ⟨by rw [blk, if_pos h]; rfl, rfl⟩ | (exfalso; omega)
  · go_enter Yba.func23, Yba.ntmps23
    go_wp2
    all_goals go_ret
    all_goals first | exact ⟨by rw [blk, if_neg (by omega)]; rfl, rfl⟩ | exact ⟨by rw [blk, if_neg (by omega), show b = 1 by omega]; rfl, rfl⟩

theorem newQueue_any (b o c : Nat) (n : Nat) (w : World) (_hn : n ≤ c) :
    Calls Yba.prog 32 #[.slice (some ⟨b, o, none⟩) n c] w fun e w' => e = .returned (.agg #[.slice (some ⟨b, o, none⟩) 0 c, .int .i64 0]) ∧ w' = w.alloc (.cells #[.slice (some ⟨b, o, none⟩) 0 c, .int .i64 0] 49) := by
  go_enter Yba.func32, Yba.ntmps32
  go_wp2
  go_returns
  exact ⟨rfl, rfl⟩

theorem search0 (a : Option Addr) (c : Nat) (t : Int) (w : World) :
    Calls Yba.prog 34 #[.slice a 0 c, .int .i64 t, .func (.func 35) #[] #[]] w fun e w' => e = .returned (.tuple #[.int .i64 0, .bool false]) ∧ w' = w := by
  go_enter Yba.func34, Yba.ntmps34
  go_wp2
  refine wp_loop_rounds 1 ?_
  rw [rounds_succ]
  go_wp2
  go_ret2
  exact ⟨rfl, rfl⟩

/-- One holding: where the search ends. -/
def at1 (s t : Int) : Int := if s < t then 1 else 0

theorem search1 (g c bh bm : Nat) (s t : Int) (w : World) (hg : w.cell? ⟨g, 0, none⟩ = some (.pointer (some ⟨bh, 0, none⟩))) (hm : w.cell? ⟨bh, 0, none⟩ = some (.pointer (some ⟨bm, 0, none⟩))) (hs : w.cell? ⟨bm, 1, none⟩ = some (.int .i64 s)) :
    Calls Yba.prog 34 #[.slice (some ⟨g, 0, none⟩) 1 c, .int .i64 t, .func (.func 35) #[] #[]] w fun e w' => e = .returned (.tuple #[.int .i64 (at1 s t), .bool (s == t)]) ∧ w' = w := by
  have hc := byseq_any bh bm s t w hm hs
  by_cases h1 : s < t
  · have e1 : cmpI s t = -1 := if_pos h1
    have e2 : (s == t) = false := by rw [beq_eq_false_iff_ne]; omega
    have e3 : at1 s t = 1 := if_pos h1
    rw [e1] at hc
    rw [e2, e3]
    clear e1 e2 e3
    go_enter Yba.func34, Yba.ntmps34
    go_wp2
    refine wp_loop_rounds 2 ?_
    rw [rounds_succ]
    go_wp2_with fail
    refine hc.mono ?_
    rintro e w' ⟨rfl, rfl⟩
    go_wp2
    rw [rounds_succ]
    go_wp2
    go_ret2
    exact ⟨rfl, rfl⟩
  · have e3 : at1 s t = 0 := if_neg h1
    rw [e3]
    clear e3
    by_cases h2 : t < s
    · have e1 : cmpI s t = 1 := by unfold cmpI; rw [if_neg h1, if_pos h2]
      have e2 : (s == t) = false := by rw [beq_eq_false_iff_ne]; omega
      rw [e1] at hc
      rw [e2]
      clear e1 e2
      go_enter Yba.func34, Yba.ntmps34
      go_wp2
      refine wp_loop_rounds 2 ?_
      rw [rounds_succ]
      go_wp2_with fail
      refine hc.mono ?_
      rintro e w' ⟨rfl, rfl⟩
      go_wp2
      rw [rounds_succ]
      go_wp2_with fail
      refine hc.mono ?_
      rintro e w' ⟨rfl, rfl⟩
      go_wp2
      go_ret2
      exact ⟨rfl, rfl⟩
    · have e1 : cmpI s t = 0 := by unfold cmpI; rw [if_neg h1, if_neg h2]
      have e2 : (s == t) = true := by rw [beq_iff_eq]; omega
      rw [e1] at hc
      rw [e2]
      clear e1 e2
      go_enter Yba.func34, Yba.ntmps34
      go_wp2
      refine wp_loop_rounds 2 ?_
      rw [rounds_succ]
      go_wp2_with fail
      refine hc.mono ?_
      rintro e w' ⟨rfl, rfl⟩
      go_wp2
      rw [rounds_succ]
      go_wp2_with fail
      refine hc.mono ?_
      rintro e w' ⟨rfl, rfl⟩
      go_wp2
      go_ret2
      exact ⟨rfl, rfl⟩

theorem find0 (a : Option Addr) (c bm : Nat) (t : Int) (w : World) (ht : w.cell? ⟨bm, 1, none⟩ = some (.int .i64 t)) :
    Calls Yba.prog 29 #[.slice a 0 c, .pointer (some ⟨bm, 0, none⟩)] w fun e w' => e = .returned (.tuple #[.int .i64 0, .bool false]) ∧ w' = w := by
  go_enter Yba.func29, Yba.ntmps29
  go_wp2_with fail
  refine (search0 a c t w).mono ?_
  rintro e w' ⟨rfl, rfl⟩
  go_wp2
  go_ret2
  exact ⟨rfl, rfl⟩

theorem find1 (g c bh bq bm : Nat) (s t : Int) (w : World) (hg : w.cell? ⟨g, 0, none⟩ = some (.pointer (some ⟨bh, 0, none⟩))) (hm : w.cell? ⟨bh, 0, none⟩ = some (.pointer (some ⟨bq, 0, none⟩))) (hs : w.cell? ⟨bq, 1, none⟩ = some (.int .i64 s))
    (ht : w.cell? ⟨bm, 1, none⟩ = some (.int .i64 t)) :
    Calls Yba.prog 29 #[.slice (some ⟨g, 0, none⟩) 1 c, .pointer (some ⟨bm, 0, none⟩)] w fun e w' => e = .returned (.tuple #[.int .i64 (at1 s t), .bool (s == t)]) ∧ w' = w := by
  go_enter Yba.func29, Yba.ntmps29
  go_wp2_with fail
  refine (search1 g c bh bq s t w hg hm hs).mono ?_
  rintro e w' ⟨rfl, rfl⟩
  go_wp2
  go_ret2
  exact ⟨rfl, rfl⟩

/-- A party without a holding. -/
theorem holding0 (be bm : Nat) (pm : Value) (a : Option Addr) (c : Nat) (t : Int) (s : ByteArray) (w : World) (hp : w.cell? ⟨be, 1, none⟩ = some pm) (hl : (Instr.lookup 57 pm (.string s) false).run Yba.prog w = .ok (.slice a 0 c) w)
    (ht : w.cell? ⟨bm, 1, none⟩ = some (.int .i64 t)) :
    Calls Yba.prog 21 #[.pointer (some ⟨be, 0, none⟩), .pointer (some ⟨bm, 0, none⟩), .string s] w fun e w' => e = .returned (.pointer none) ∧ w' = w := by
  go_enter Yba.func21, Yba.ntmps21
  go_wp2_with fail
  refine (find0 a c bm t w ht).mono ?_
  rintro e w' ⟨rfl, rfl⟩
  go_wp2
  go_ret
  exact ⟨rfl, rfl⟩

/-- A party with one holding. -/
theorem holding1 (be bm : Nat) (pm : Value) (g c bh bq : Nat) (s t : Int) (ps : ByteArray) (w : World) (hp : w.cell? ⟨be, 1, none⟩ = some pm) (hl : (Instr.lookup 57 pm (.string ps) false).run Yba.prog w = .ok (.slice (some ⟨g, 0, none⟩) 1 c) w)
    (hg : w.cell? ⟨g, 0, none⟩ = some (.pointer (some ⟨bh, 0, none⟩))) (hm : w.cell? ⟨bh, 0, none⟩ = some (.pointer (some ⟨bq, 0, none⟩))) (hs : w.cell? ⟨bq, 1, none⟩ = some (.int .i64 s))
    (ht : w.cell? ⟨bm, 1, none⟩ = some (.int .i64 t)) :
    Calls Yba.prog 21 #[.pointer (some ⟨be, 0, none⟩), .pointer (some ⟨bm, 0, none⟩), .string ps] w fun e w' => e = .returned (.pointer (if s = t then some ⟨bh, 0, none⟩ else none)) ∧ w' = w := by
  have hf := find1 g c bh bq bm s t w hg hm hs ht
  by_cases h : s = t
  · have e1 : (s == t) = true := by rw [beq_iff_eq]; exact h
    have e2 : at1 s t = 0 := if_neg (by omega)
    rw [e1, e2] at hf
    rw [if_pos h]
    clear e1 e2 h
    go_enter Yba.func21, Yba.ntmps21
    go_wp2_with fail
    refine hf.mono ?_
    rintro e w' ⟨rfl, rfl⟩
    go_wp2
    go_ret
    exact ⟨rfl, rfl⟩
  · have e1 : (s == t) = false := by rw [beq_eq_false_iff_ne]; exact h
    rw [e1] at hf
    rw [if_neg h]
    clear e1 h
    go_enter Yba.func21, Yba.ntmps21
    go_wp2_with fail
    refine hf.mono ?_
    rintro e w' ⟨rfl, rfl⟩
    go_wp2
    go_ret
    exact ⟨rfl, rfl⟩

end Go.Proofs.Ybulkapzy
