import Derived.Test.YbulkapxuMid
namespace Go.Proofs.Ybulkapxu
open Go.RowKit

/-- 'drop' on a row of places in order. -/
theorem drop_row (N i : Nat) (v : Value) (l : List Nat) (w : World) (hr : Row w N v l) (hs : l.Pairwise (· < ·)) (hi : i ∈ l) (hl : l.length ≤ 4096) :
    Calls Yba.prog 18 #[v, .int .i64 (i : Int)] w fun e w' => ∃ g c, v = .slice (some ⟨g, 0, none⟩) l.length c ∧ e = .returned (.slice (some ⟨g, 0, none⟩) (l.length - 1) c) ∧ Row w' N (.slice (some ⟨g, 0, none⟩) (l.length - 1) c) (l.filter (fun k => k != i)) ∧ OnlyAt g w w' := by
  obtain ⟨p, hp, hpi⟩ := List.getElem_of_mem hi
  rcases hr.2 with ⟨_, h0⟩ | ⟨g, c, cur, hv, h1, h2, h3, h4, h5, h6⟩
  · omega
  subst hv
  have hcs : ∀ t, t < l.length → cur[t]? = some (.int .i64 (l.getD t 0 : Nat)) := by
    intro t ht
    have h7 : (cur.toList.take (l.length * 1))[t]? = (ints l)[t]? := by rw [h6]
    rw [List.getElem?_take_of_lt (by omega)] at h7
    rw [← Array.getElem?_toList, h7]
    simp [ints, List.getElem?_map, List.getElem?_eq_getElem ht, List.getD_eq_getElem?_getD]
  have hrow : w.rowIs g 3 c (fun t => cur[t]?.getD (.int .i64 0)) := ⟨cur, h2, by omega, fun t ht => by
    have hlt : t < cur.size := by omega
    simp [hlt]⟩
  have hm : ∀ a b, a < b → b < l.length → ((l.getD a 0 : Nat) : Int) < ((l.getD b 0 : Nat) : Int) := by
    intro a b hab hb
    have ha : a < l.length := by omega
    have h8 := List.pairwise_iff_getElem.1 hs a b ha hb hab
    rw [List.getD_eq_getElem?_getD, List.getD_eq_getElem?_getD, List.getElem?_eq_getElem ha, List.getElem?_eq_getElem hb]
    simp
    exact h8
  have hx : ((l.getD p 0 : Nat) : Int) = (i : Int) := by
    rw [List.getD_eq_getElem?_getD, List.getElem?_eq_getElem hp, hpi]; rfl
  have hd := drop_any g l.length c p (fun t => ((l.getD t 0 : Nat) : Int)) (fun t => cur[t]?.getD (.int .i64 0)) w (fun t ht => by rw [hcs t ht]; rfl) hm hrow h3 (by have : c ≤ maxLen := h4; unfold maxLen at this; omega) hp hl
  rw [hx] at hd
  refine hd.mono ?_
  rintro e w' ⟨rfl, hr', ho⟩
  refine ⟨g, c, rfl, rfl, ?_, ho⟩
  obtain ⟨cur', k1, k2, k3⟩ := hr'
  have hlen : (l.filter (fun k => k != i)).length = l.length - 1 := by
    rw [filter_cut l hs p i (by rw [List.getElem?_eq_getElem hp, hpi]), List.length_append, List.length_take, List.length_drop]
    omega
  unfold Row
  rw [hlen]
  refine ⟨by rw [ints_len, hlen]; omega, .inr ⟨g, c, cur', rfl, h1, k1, by omega, h4, by omega, ?_⟩⟩
  rw [filter_cut l hs p i (by rw [List.getElem?_eq_getElem hp, hpi])]
  apply List.ext_getElem?
  intro t
  by_cases ht : t < l.length - 1
  · rw [List.getElem?_take_of_lt (by omega), Array.getElem?_toList, k3 t (by omega)]
    unfold icut ints
    rw [List.getElem?_map]
    by_cases htp : t < p
    · rw [if_pos htp, List.getElem?_append_left (by rw [List.length_take]; omega), List.getElem?_take_of_lt htp]
      show some (cur[t]?.getD (Value.int .i64 0)) = _
      rw [hcs t (by omega), List.getElem?_eq_getElem (by omega : t < l.length)]
      simp [List.getD_eq_getElem?_getD, List.getElem?_eq_getElem (by omega : t < l.length)]
    · rw [if_neg htp, if_pos (by omega), List.getElem?_append_right (by rw [List.length_take]; omega), List.length_take, List.getElem?_drop, Nat.min_eq_left (by omega), show p + 1 + (t - p) = t + 1 by omega]
      show some (cur[t + 1]?.getD (Value.int .i64 0)) = _
      rw [hcs (t + 1) (by omega), List.getElem?_eq_getElem (by omega : t + 1 < l.length)]
      simp [List.getD_eq_getElem?_getD, List.getElem?_eq_getElem (by omega : t + 1 < l.length)]
  · rw [List.getElem?_eq_none (Nat.le_trans (List.length_take_le _ _) (by omega)), List.getElem?_eq_none (by rw [ints_len, List.length_append, List.length_take, List.length_drop]; omega)]

end Go.Proofs.Ybulkapxu
