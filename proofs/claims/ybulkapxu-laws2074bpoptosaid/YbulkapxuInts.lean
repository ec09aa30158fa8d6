import Derived.Test.YbulkapxuOnly
namespace Go.Proofs.Ybulkapxu
open Go.RowKit

theorem hide {p : Prop} (h : p) : Hid p := h
theorem unhide {p : Prop} (h : Hid p) : p := h

theorem isNaN24 (x : Int) (w : World) : Calls Yba.prog 24 #[.int .i64 x] w fun e w' => e = .returned (.bool false) ∧ w' = w := by
  go_enter Yba.func24, Yba.ntmps24
  go_wp2
  go_ret
  exact ⟨rfl, rfl⟩

theorem less_any (x y : Int) (w : World) : Calls Yba.prog 22 #[.int .i64 x, .int .i64 y] w fun e w' => e = .returned (.bool (decide (x < y))) ∧ w' = w := by
  go_enter Yba.func22, Yba.ntmps22
  go_wp2_with fail
  refine (isNaN24 x w).mono ?_
  rintro e w' ⟨rfl, rfl⟩
  go_wp2
  go_ret
  exact ⟨rfl, rfl⟩

set_option maxHeartbeats 1000000 in
/-- The search finds the place of a number that the row holds. -/
theorem search_hit (g n cap p : Nat) (x : Nat → Int) (w : World) (hc : ∀ i, i < n → w.cell? ⟨g, i, none⟩ = some (.int .i64 (x i))) (hm : ∀ i j, i < j → j < n → x i < x j) (hp : p < n) (hn : n ≤ 4096) :
    Calls Yba.prog 20 #[.slice (some ⟨g, 0, none⟩) n cap, .int .i64 (x p)] w fun e w' => e = .returned (.tuple #[.int .i64 p, .bool true]) ∧ w' = w := by
  have HC := hide hc
  have HM := hide hm
  have hcp := hc p hp
  clear hc hm
  go_enter Yba.func20, Yba.ntmps20
  go_wp2
  go_loopw [7, 8] (fun a b wr => ∃ i j : Nat, i ≤ p ∧ p ≤ j ∧ j ≤ n ∧ a = .int .i64 i ∧ b = .int .i64 j ∧ wr = w) (fun a b _ => (intOf b).toNat - (intOf a).toNat)
  case atStart => exact ⟨0, n, Nat.zero_le _, Nat.le_of_lt hp, Nat.le_refl _, rfl, rfl, rfl⟩
  case round =>
    obtain ⟨i, j, hi, hj, hjn, rfl, rfl, rfl⟩ := hrel
    by_cases hij : i < j
    · have hh1 : i ≤ (i + j) / 2 := by omega
      have hh2 : (i + j) / 2 < j := by omega
      have hch := unhide HC ((i + j) / 2) (by omega)
      go_wp2_with fail
      refine (less_any _ _ _).mono ?_
      rintro e w' ⟨rfl, rfl⟩
      by_cases hlt : (i + j) / 2 < p
      · rw [decide_eq_true (unhide HM _ _ hlt hp)]
        go_wp2
        go_roundw
        case rel => exact ⟨(i + j) / 2 + 1, j, by omega, hj, hjn, by go_num, by first | rfl | trivial, by first | rfl | trivial⟩
        case measure => simp [intOf]; omega
      · rw [decide_eq_false (by
          by_cases e : (i + j) / 2 = p
          · rw [e]; omega
          · have := unhide HM p ((i + j) / 2) (by omega) (by omega); omega)]
        go_wp2
        go_roundw
        case rel => exact ⟨i, (i + j) / 2, hi, by omega, by omega, by first | rfl | trivial, by go_num, by first | rfl | trivial⟩
        case measure => simp [intOf]; omega
    · obtain rfl : i = p := by omega
      go_wp2
      go_ret2
      exact ⟨rfl, rfl⟩

/-- What 'slices.Delete(s, i, i+1)' leaves of a row: n elements, the one at i gone, the last place zeroed. -/
def icut (f : Nat → Value) (i n : Nat) : Nat → Value := fun t => if t < i then f t else if t + 1 < n then f (t + 1) else if t + 1 = n then .int .i64 0 else f t

set_option maxHeartbeats 1000000 in
theorem idelete_any (g n cap i j : Nat) (f : Nat → Value) (w : World) (hf1 : ∀ t, t < n → (f t).oneCell' = true)
    (hrow : w.rowIs g 3 cap f) (hn : n ≤ cap) (_hcap : cap ≤ 9223372036854775807) (hi : i < n) (hij : j = i + 1) :
    Calls Yba.prog 21 #[.slice (some ⟨g, 0, none⟩) n cap, .int .i64 i, .int .i64 j] w fun e w' =>
      e = .returned (.slice (some ⟨g, 0, none⟩) (n - 1) cap) ∧ w'.rowIs g 3 cap (icut f i n) ∧ OnlyAt g w w' := by
  obtain ⟨i0, hi0, hz0, hz1, hz2⟩ := info_parts Yba.info3
  -- the cells that move
  obtain ⟨news, hnews⟩ : ∃ news : List Value, news = (List.range (n - j)).map (fun t => f (j + t)) := ⟨_, rfl⟩
  have hlen : news.length = n - j := by rw [hnews]; simp
  have hget : ∀ t, t < n - j → news[t]? = some (f (j + t)) := by
    intro t ht
    rw [hnews, List.getElem?_map, List.getElem?_range ht]
    rfl
  obtain ⟨A, hA, hsrc⟩ : ∃ A : Addr, (if cap = j then some (⟨g, 0, none⟩ : Addr) else some ⟨g, j, none⟩) = some A ∧ Hid (∀ t u, news[t]? = some u → w.drew.cell? (A.add t) = some u) := by
    by_cases h : cap = j
    · refine ⟨⟨g, 0, none⟩, by simp [h], fun t u hu => ?_⟩
      have h0 : news.length = 0 := by rw [hlen]; omega
      rw [List.length_eq_zero_iff.1 h0] at hu
      simp at hu
    · refine ⟨⟨g, j, none⟩, by simp [h], fun t u hu => ?_⟩
      have ht : t < n - j := by
        have := (List.getElem?_eq_some_iff.1 hu).1
        rwa [hlen] at this
      rw [hget t ht] at hu
      rw [Addr.add_lit]
      exact (hrow.cell (by omega)).trans hu
  have s1 : Hid (news.length = (n - j) * 1) := by rw [Nat.mul_one]; exact hlen
  have s2 : Hid (∀ u ∈ news, u.oneCell' = true) := by
    intro u hu
    rw [hnews] at hu
    obtain ⟨x, hx, rfl⟩ := List.mem_map.1 hu
    have := List.mem_range.1 hx
    exact hf1 _ (by omega)
  have s3 : Hid (∀ t, t < news.length → (w.drew.cell? ⟨g, 0 + i * 1 + t, none⟩).isSome = true ∧ w.drew.frozen? ⟨g, 0 + i * 1 + t, none⟩ = false) := by
    intro t ht
    rw [hlen] at ht
    rw [Nat.mul_one, Nat.zero_add]
    exact ⟨by show (w.cell? _).isSome = true; rw [hrow.cell (by omega)]; rfl, hrow.frozen _⟩
  obtain ⟨W1, hW1⟩ : ∃ W1, W1 = w.drew.setCells g (0 + i * 1) news := ⟨_, rfl⟩
  have hrow1 : W1.rowIs g 3 cap (fun t => if t < i then f t else if t + 1 < n then f (t + 1) else f t) := by
    rw [hW1]
    refine (rowIs_setCells news (0 + i * 1) w.drew f hrow.drew).congr fun t ht => ?_
    simp only [Nat.zero_add, Nat.mul_one, hlen]
    by_cases h1 : t < i
    · rw [if_neg (by omega), if_pos h1]
    · rw [if_neg h1]
      by_cases h2 : t + 1 < n
      · rw [if_pos (by omega), if_pos h2, hget _ (by omega)]
        show f _ = f _
        congr 1
        omega
      · rw [if_neg (by omega), if_neg h2]
  have hon1 : OnlyAt g w W1 := by rw [hW1]; exact onlyAt_setCells _ _ _ (OnlyAt.refl g w).drew
  have hcl : ∀ ty, (Builtin.clear_ #[30] ty #[.slice (some ⟨g, i + (n - j), none⟩) (n - (i + (n - j))) (cap - (i + (n - j)))]).run Yba.prog W1 = .ok (.tuple #[]) (W1.setCells g (i + (n - j)) (List.replicate (n - (i + (n - j))) (.int .i64 0))) :=
    fun ty => Lib.run_clear_slice W1 _ _ ty _ Yba.underlying30 Yba.zeroValue3 rfl rfl g (i + (n - j)) _ _ (by omega) (fun t ht => by rw [hrow1.cell (by omega)]; rfl) (fun t ht => hrow1.frozen _)
  have hrow2 : (W1.setCells g (i + (n - j)) (List.replicate (n - (i + (n - j))) (.int .i64 0))).rowIs g 3 cap (icut f i n) := by
    refine (rowIs_setCells _ _ W1 _ hrow1).congr fun t ht => ?_
    simp only [List.length_replicate, icut]
    by_cases h1 : t < i
    · rw [if_neg (by omega), if_pos h1, if_pos h1]
    · rw [if_neg h1, if_neg h1]
      by_cases h2 : t + 1 < n
      · rw [if_neg (by omega), if_pos h2, if_pos h2]
      · rw [if_neg h2, if_neg h2]
        by_cases h3 : t + 1 = n
        · rw [if_pos (by omega), if_pos h3, List.getElem?_replicate, if_pos (by omega)]
          rfl
        · rw [if_neg (by omega), if_neg h3]
  have hon2 := onlyAt_setCells (i + (n - j)) (List.replicate (n - (i + (n - j))) (.int .i64 0)) W1 hon1
  have hW : Hid (W1 = w.drew.setCells g (0 + i * 1) news) := hW1
  have R : Hid _ := hrow2
  have O : Hid _ := hon2
  have hic : i ≤ cap := by omega
  have hjc : j ≤ cap := by omega
  have hii : ((i : Int) == (j : Int)) = false := by rw [beq_eq_false_iff_ne]; omega
  have hj1 : i < j := by omega
  have hj2 : j ≤ n := by omega
  have HJ : Hid (j = i + 1) := hij
  clear hW1 hrow1 hon1 hrow hget hnews hlen hf1 hrow2 hon2 hij
  go_enter Yba.func21, Yba.ntmps21
  go_wp2_with fail
  go_region_law (refine step_append_room rfl (.tmp 22) (.tmp 25) 30 rfl 3 i0 1 Yba.underlying30 hi0 hz1 g 0 i cap (by simp [Act.eval, Act.put]) A (n - j) (cap - j) news (by simp [Act.eval, Act.put]) s1.out hsrc.out s2.out (by omega) s3.out ?_; rw [← hW.out])
  go_wp2
  go_ret
  have hij := HJ.out
  refine ⟨by rw [show n - 1 = i + (n - j) by omega]; rfl, R.out, O.out⟩

/-- 'drop': the number leaves its row. -/
theorem drop_any (g n cap p : Nat) (x : Nat → Int) (f : Nat → Value) (w : World) (hf : ∀ t, t < n → f t = .int .i64 (x t)) (hm : ∀ i j, i < j → j < n → x i < x j)
    (hrow : w.rowIs g 3 cap f) (hn : n ≤ cap) (hcap : cap ≤ 9223372036854775807) (hp : p < n) (hn4 : n ≤ 4096) :
    Calls Yba.prog 18 #[.slice (some ⟨g, 0, none⟩) n cap, .int .i64 (x p)] w fun e w' =>
      e = .returned (.slice (some ⟨g, 0, none⟩) (n - 1) cap) ∧ w'.rowIs g 3 cap (icut f p n) ∧ OnlyAt g w w' := by
  have hs := search_hit g n cap p x w (fun i hi => (hrow.cell (by omega)).trans (by rw [hf i hi])) hm hp hn4
  have hd := idelete_any g n cap p (p + 1) f w (fun t ht => by rw [hf t ht]; rfl) hrow hn hcap hp rfl
  have HD := hide hd
  clear hf hm hrow hd
  go_enter Yba.func18, Yba.ntmps18
  go_wp2_with fail
  refine hs.mono ?_
  rintro e w' ⟨rfl, rfl⟩
  go_wp2_with fail
  refine (unhide HD).mono ?_
  rintro e w' ⟨rfl, h1, h2⟩
  have H1 := hide h1
  have H2 := hide h2
  clear h1 h2
  go_wp2
  go_ret
  exact ⟨rfl, unhide H1, unhide H2⟩

end Go.Proofs.Ybulkapxu
