import Derived.Test.YbulkapxuLib9
namespace Go.Proofs.Ybulkapxu
open Go.RowKit

/-- The openElements block as it is made. -/
def sCells : Array Value := #[.slice none 0 0, .slice none 0 0, .map none, .map none, .map none, .slice none 0 0, .slice none 0 0, .slice none 0 0, .slice none 0 0, .slice none 0 0, .slice none 0 0, .slice none 0 0, .slice none 0 0, .slice none 0 0, .slice none 0 0, .slice none 0 0, .slice none 0 0, .slice none 0 0, .slice none 0 0, .slice none 0 0, .slice none 0 0, .bool false, .slice none 0 0]

/-- What lay up to block N stands as it stood; its tags are 9. -/
structure Fr (w0 wr : World) (N : Nat) (τ : Nat → Nat) : Prop where
  os : wr.os = w0.os
  tape : wr.tape = w0.tape
  output : wr.output = w0.output
  size : N + 1 ≤ wr.heap.size
  block : ∀ k, k ≤ N → wr.heap[k]? = w0.heap[k]?
  tag : ∀ k, k ≤ N → τ k = 9

theorem Fr.step {w0 wr wy : World} {N : Nat} {τ τ' : Nat → Nat} (h : Fr w0 wr N τ) (hc : Chg τ (fun t => t ≠ 9) wr wy) (ha : ∀ k, k < wr.heap.size → τ k = 9 → τ' k = 9) : Fr w0 wy N τ' := by
  have hs := h.size
  exact ⟨hc.os.trans h.os, hc.tape.trans h.tape, hc.output.trans h.output, Nat.le_trans hs hc.size, fun k hk => (hc.block k (by omega) (by rw [h.tag k hk]; simp)).trans (h.block k hk), fun k hk => ha k (by omega) (h.tag k hk)⟩

theorem Fr.past {w0 wr wy : World} {N : Nat} {τ : Nat → Nat} (h : Fr w0 wr N τ) (hb : Below wr.heap.size wr wy) : Fr w0 wy N τ :=
  h.step (Chg.of_below hb _) (fun _ _ ht => ht)

theorem s_cell {w : World} {S i : Nat} (h : w.heap[S]? = some (.cells sCells 33 (0, 0))) {v : Value} (hi : sCells[i]? = some v) : w.cell? ⟨S, i, none⟩ = some v := cell_of h hi

/-- The state behind the two 'beginBlock's. -/
theorem init_inv {w1 w2 w3 : World} {N : Nat} (hS : w1.heap[N + 1]? = some (.cells sCells 33 (0, 0))) (hN : w1.heap.size = N + 2) {a : Option Addr} {c : Nat} (h2 : Begun w1 w2 (N + 1) (N + 1) 0 (.slice none 0 0) []) (h3 : Begun w2 w3 (N + 1) (N + 1) 1 (.slice a 1 c) [.int .i64 0]) (ha2 : ∀ g, (Value.slice a 1 c).ownBlock = some g → N + 2 ≤ g) :
    ∃ τ, Inv w3 N (N + 1) [] τ ∧ Fr w1 w3 N τ := by
  obtain ⟨g, gc, g1, g2, g3⟩ := h3.row
  have hgN : N + 2 ≤ g := by
    rcases g3 with h | h
    · exact ha2 g h
    · have := h2.size; omega
  obtain ⟨τ, hτ⟩ : ∃ τ : Nat → Nat, τ = fun k => if k = N + 1 then 0 else if k = g then 1 else 9 := ⟨_, rfl⟩
  have cells : ∀ i v, i ≠ 22 → sCells[i]? = some v → w3.cell? ⟨N + 1, i, none⟩ = some v := fun i v hi hv => (h3.cells i hi).trans ((h2.cells i hi).trans (s_cell hS hv))
  have s2 := h2.size
  have s3 := h3.size
  refine ⟨τ, ⟨⟨?_, by omega, ?_, by omega, fun i => ?_, fun b hb => ?_, fun x hx => ?_, ?_⟩, fun i e he => by simp at he, fun i e he => by simp at he, ⟨.slice none 0 0, cells 0 _ (by omega) rfl, World.ownsRow_nil _ _ _ _, fun g hg => by simp [Value.ownBlock] at hg⟩, by simp⟩, ?_⟩
  · intro k hk
    rw [hτ]
    show (if k = N + 1 then 0 else if k = g then 1 else 9) = 9
    rw [if_neg (by omega), if_neg (by omega)]
  · rw [hτ]; simp
  · rw [h3.fz, h2.fz]; exact frozen_of hS
  · refine ⟨.slice none 0 0, cells (5 + b) _ (by omega) ?_, ?_, fun g hg => by simp [Value.ownBlock] at hg⟩
    · have hb' : b = 0 ∨ b = 1 ∨ b = 2 ∨ b = 3 ∨ b = 4 ∨ b = 5 ∨ b = 6 ∨ b = 7 ∨ b = 8 ∨ b = 9 ∨ b = 10 ∨ b = 11 ∨ b = 12 ∨ b = 13 ∨ b = 14 ∨ b = 15 := by omega
      rcases hb' with rfl | rfl | rfl | rfl | rfl | rfl | rfl | rfl | rfl | rfl | rfl | rfl | rfl | rfl | rfl | rfl <;> rfl
    · exact World.ownsRow_nil _ _ _ _
  · refine .inl ⟨cells (2 + x) _ (by omega) ?_, fun m _ => rfl⟩
    have hx' : x = 0 ∨ x = 1 ∨ x = 2 := by omega
    rcases hx' with rfl | rfl | rfl <;> rfl
  · refine ⟨_, g1, ?_, fun q hq => ?_⟩
    · refine ⟨g2.1, ?_⟩
      rcases g2.2 with ⟨h, _⟩ | ⟨g', c', cur, hv, k1, k2⟩
      · cases h
      · cases hv; exact .inr ⟨g, gc, cur, rfl, by omega, k2⟩
    · simp [Value.ownBlock] at hq
      subst hq
      rw [hτ]
      show (if g = N + 1 then 0 else if g = g then 1 else 9) = 1
      rw [if_neg (by omega), if_pos rfl]
  · refine ⟨h3.os.trans h2.os, h3.tape.trans h2.tape, h3.output.trans h2.output, by omega, fun k hk => ?_, fun k hk => ?_⟩
    · have hk2 : k < w2.heap.size := by omega
      rw [h3.block k hk2 (by omega) (fun e => by have := ha2 k e; omega), h2.block k (by omega) (by omega) (by simp [Value.ownBlock])]
    · rw [hτ]
      show (if k = N + 1 then 0 else if k = g then 1 else 9) = 9
      rw [if_neg (by omega), if_neg (by omega)]

/-- 'popTo' on any stack. -/
structure Popped (w w' : World) (N S i m : Nat) (cs : St) (τ : Nat → Nat) : Prop where
  le : m ≤ i
  gap : ∀ q, m ≤ q → q < i → cs[q]? = some none
  last : m = 0 ∨ ∃ e : El, cs[m - 1]? = some (some e)
  inv : Inv w' N S (cs.take m) τ
  shut : ∀ (q : Nat) (e : El), m ≤ q → cs[q]? = some (some e) → w'.cell? ⟨e.en, 3, none⟩ = some (.int .i64 (-1))
  chg : Chg τ (fun t => t ≠ 9) w w'

theorem popTo_inv {w : World} {N S i : Nat} {cs : St} {τ : Nat → Nat} (hI : Inv w N S cs τ) (hi : i ≤ cs.length) :
    Calls Yba.prog 10 #[.pointer (some ⟨S, 0, none⟩), .int .i64 (i : Int)] w fun e w' => (∃ v, e = .returned v) ∧ ∃ m, Popped w w' N S i m cs τ := by
  obtain ⟨v, s1, s2, s3⟩ := hI.stack
  rcases s2.2 with ⟨h, h2⟩ | ⟨gs, c, cur, h, _⟩
  · subst h
    obtain rfl : cs = [] := List.length_eq_zero_iff.1 h2
    obtain rfl : i = 0 := by simpa using hi
    refine (popTo_nil hI s1).mono ?_
    rintro e w' ⟨hv, h3, _, h5⟩
    exact ⟨hv, 0, Nat.le_refl _, fun q h1 h2 => absurd h2 (by omega), .inl rfl, h3, fun q e _ he => by simp at he, h5⟩
  · subst h
    refine (popTo_any hI s1 hi).mono ?_
    rintro e w' ⟨hv, m, h1, h2, h3, h4⟩
    exact ⟨hv, m, h1, h2, h3, h4.inv hI s1 (by omega), h4.shut, h4.chg.mono (fun t ht => ht.1)⟩

/-- 'remove' on a stack that is not empty. -/
theorem remove_inv {w : World} {N S i : Nat} {cs : St} {τ : Nat → Nat} (hI : Inv w N S cs τ) (hi : i < cs.length) :
    Calls Yba.prog 8 #[.pointer (some ⟨S, 0, none⟩), .int .i64 (i : Int)] w fun e w' => (∃ v, e = .returned v) ∧ ∃ cs', Inv w' N S cs' τ ∧ Chg τ (fun t => t ≠ 9) w w' := by
  obtain ⟨v, s1, s2, s3⟩ := hI.stack
  rcases s2.2 with ⟨h, h2⟩ | ⟨gs, c, cur, h, _⟩
  · omega
  · subst h
    refine (remove_any hI s1 hi).mono ?_
    rintro e w' ⟨hv, cs', h1, _, h3⟩
    exact ⟨hv, cs', h1, h3⟩

theorem Inv.slice {w : World} {N S : Nat} {cs : St} {τ : Nat → Nat} (hI : Inv w N S cs τ) : ∃ a c, w.cell? ⟨S, 0, none⟩ = some (.slice a cs.length c) ∧ w.ownsRow N 47 8 (.slice a cs.length c) cs.length (flat cs) := by
  obtain ⟨v, s1, s2, s3⟩ := hI.stack
  rcases s2.2 with ⟨h, h2⟩ | ⟨gs, c, cur, h, _⟩
  · subst h
    refine ⟨none, 0, by rw [s1, h2], ?_⟩
    rw [h2] at s2 ⊢
    exact s2
  · subst h
    exact ⟨_, c, s1, s2⟩

end Go.Proofs.Ybulkapxu
