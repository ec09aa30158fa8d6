import Derived.Test.YbulkaqreDecode
namespace Go.Proofs.Ybulkaqre
open Go.RowKit

/-- The slice that comes back, written out. -/
theorem Grew.shape {B N : Nat} {v : Value} {l : List UInt8} {w0 w : World} (h : Grew B v N l w0 w) (hN : 0 < N) :
    ∃ g cap, v = .slice (some ⟨g, 0, none⟩) N cap ∧ N ≤ cap ∧ cap ≤ 9223372036854775807 ∧ l.length = N ∧ ∀ t, t < N → w.cell? ⟨g, t, none⟩ = some (.int .u8 ((l.getD t 0).toNat : Int)) := by
  have hl : l.length = N := by have := h.own.1; rw [Lib.byteCells_length, Nat.mul_one] at this; exact this
  rcases h.own.2 with ⟨_, h0⟩ | ⟨g, cap, cur, hv, _, _, hc, hm, _, _⟩
  · omega
  · refine ⟨g, cap, hv, hc, by unfold maxLen at hm; exact hm, hl, fun t ht => ?_⟩
    have hown := h.own
    rw [hv] at hown
    rw [hown.cellAt t (by omega)]
    simp [Lib.byteCells, List.getD, hl, ht]

/-- A stretch of a row of bytes, as a slice. -/
theorem bs_of_row {w : World} {g N a n : Nat} {l k : List UInt8} (hc : ∀ t, t < N → w.cell? ⟨g, t, none⟩ = some (.int .u8 ((l.getD t 0).toNat : Int))) (han : a + n ≤ N) (hk : k.length = n) (hget : ∀ j, j < n → l.getD (a + j) 0 = k.getD j 0)
    (ao : Option Addr) (hao : ao = some ⟨g, a, none⟩ ∨ (n = 0 ∧ ao ≠ none)) : Bs w ao n k where
  len := hk
  nil := fun h => by rcases hao with h1 | ⟨h1, _⟩ <;> simp_all
  cells := by
    intro x hx j u hu
    have hj : j < n := by
      have := (List.getElem?_eq_some_iff.1 hu).1
      rw [Lib.byteCells_length, hk] at this
      exact this
    rcases hao with h1 | ⟨h1, _⟩
    · rw [h1] at hx
      obtain rfl := Option.some.inj hx
      rw [Addr.add_lit, hc (a + j) (by omega), hget j hj]
      have hjl : j < k.length := by omega
      simp [Lib.byteCells, List.getElem?_eq_getElem hjl] at hu
      simp [List.getD, List.getElem?_eq_getElem hjl, hu]
    · omega

theorem getD_drop (l : List UInt8) (a j : Nat) : l.getD (a + j) 0 = (l.drop a).getD j 0 := by simp [List.getD, List.getElem?_drop]

theorem enc_prefix (D : Nat → List UInt8) : ∀ m k, ∃ rest, encCmds D (k + m) = encCmds D k ++ rest
  | 0, k => ⟨[], by simp⟩
  | m + 1, k => by
    obtain ⟨rest, h⟩ := enc_prefix D m k
    exact ⟨rest ++ (Lib.uvarint (D (k + m)).length ++ D (k + m)), by rw [← Nat.add_assoc, encCmds_succ, h]; simp⟩

/-- Where the k-th command stands. -/
theorem at_cmd (D : Nat → List UInt8) (o h : List UInt8) (lc k : Nat) (ho : o = h ++ encCmds D lc) (hk : k < lc) :
    ∃ rest, o.drop (h.length + (encCmds D k).length) = Lib.uvarint (D k).length ++ (D k ++ rest) := by
  obtain ⟨rest, hr⟩ := enc_prefix D (lc - (k + 1)) (k + 1)
  rw [show k + 1 + (lc - (k + 1)) = lc by omega, encCmds_succ] at hr
  refine ⟨rest, ?_⟩
  rw [ho, hr, ← List.append_assoc, ← List.append_assoc, ← List.length_append]
  simp

def topk (x k : Nat) : Nat := x / 256 ^ (8 - k)
theorem topk0 (x : Nat) (hx : x < 18446744073709551616) : topk x 0 = 0 := by unfold topk; exact Nat.div_eq_of_lt (by simpa using hx)
theorem topk8 (x : Nat) : topk x 8 = x := by simp [topk]
theorem be_len (x : Nat) : (Lib.beBytes 8 x).length = 8 := by simp [Lib.beBytes, Lib.leBytes_length]
theorem be_step (x k : Nat) (hx : x < 18446744073709551616) (hk : k < 8) : topk x (k + 1) = topk x k * 256 + ((Lib.beBytes 8 x).getD k 0).toNat := by
  have hcase : k = 0 ∨ k = 1 ∨ k = 2 ∨ k = 3 ∨ k = 4 ∨ k = 5 ∨ k = 6 ∨ k = 7 := by omega
  rcases hcase with rfl | rfl | rfl | rfl | rfl | rfl | rfl | rfl <;> simp [topk, Lib.beBytes, Lib.leBytes, List.getD] <;> omega

set_option maxRecDepth 100000 in
theorem or8 (a b : Nat) (hb : b < 256) (h : a * 256 + b < 18446744073709551616) : bits .or .u64 (IntKind.u64.wrap ((a : Int) * 256)) (b : Int) = ((a * 256 + b : Nat) : Int) := by
  have hm : IntKind.u64.wrap ((a : Int) * 256) = ((a * 256 : Nat) : Int) := by rw [IntKind.wrap_u64]; omega
  have ha : a * 256 < 18446744073709551616 := by omega
  have hb2 : b < 18446744073709551616 := by omega
  rw [hm, bits_or_u64_nat (a * 256) b ha hb2]
  have h1 := Nat.shiftLeft_add_eq_or_of_lt (b := b) (i := 8) (by simpa using hb) a
  rw [Nat.shiftLeft_eq] at h1
  have h256 : (2 : Nat) ^ 8 = 256 := by decide
  rw [h256] at h1
  rw [← h1]

theorem uvarint_at (g N cap i j x : Nat) (ii : Int) (o rest : List UInt8) (w : World) (hN : o.length = N) (hN2 : N ≤ 1000000) (hx : x < 18446744073709551616) (hii : ii = (i : Int)) (hj : i + (Lib.uvarint x).length = j) (hd : o.drop i = Lib.uvarint x ++ rest)
    (hc : ∀ t, t < N → w.cell? ⟨g, t, none⟩ = some (.int .u8 ((o.getD t 0).toNat : Int))) :
    Calls Yba.prog 7 #[.slice (some ⟨g, 0, none⟩) N cap, .int .i64 ii] w fun e w' => e = .returned (.tuple #[.int .u64 x, .int .i64 j, .bool true]) ∧ w' = w := by
  subst hii hj
  exact uvarint_any g N cap i x o rest w hN hN2 hx hd hc

/-- The places of the parts of what was written. -/
theorem places (l0 : List UInt8) (r x lc : Nat) (E o : List UInt8) (n : Nat) (hn : l0.length = n) (ho : o = l0 ++ encHead r x lc ++ E) :
    o.getD n 0 = 1 ∧ (∃ R, o.drop (n + 1) = Lib.uvarint r ++ R) ∧ (∃ R, o.drop (n + 1 + (Lib.uvarint r).length) = Lib.beBytes 8 x ++ R) ∧
      o.drop (n + 1 + (Lib.uvarint r).length + 8) = Lib.uvarint lc ++ E ∧ (l0 ++ encHead r x lc).length = n + 1 + (Lib.uvarint r).length + 8 + (Lib.uvarint lc).length ∧
      o.length = n + 1 + (Lib.uvarint r).length + 8 + (Lib.uvarint lc).length + E.length ∧ (∀ j, j < n → o.getD j 0 = l0.getD j 0) := by
  subst hn
  have e1 : o = l0 ++ ([1] ++ (Lib.uvarint r ++ (Lib.beBytes 8 x ++ (Lib.uvarint lc ++ E)))) := by rw [ho]; simp [encHead]
  have hb := be_len x
  have d0 : o.drop l0.length = [1] ++ (Lib.uvarint r ++ (Lib.beBytes 8 x ++ (Lib.uvarint lc ++ E))) := by rw [e1]; simp
  have d1 : o.drop (l0.length + 1) = Lib.uvarint r ++ (Lib.beBytes 8 x ++ (Lib.uvarint lc ++ E)) := by rw [← List.drop_drop, d0]; simp
  have d2 : o.drop (l0.length + 1 + (Lib.uvarint r).length) = Lib.beBytes 8 x ++ (Lib.uvarint lc ++ E) := by rw [← List.drop_drop, d1]; simp
  have d3 : o.drop (l0.length + 1 + (Lib.uvarint r).length + 8) = Lib.uvarint lc ++ E := by
    rw [← List.drop_drop, d2]
    have : (Lib.beBytes 8 x ++ (Lib.uvarint lc ++ E)).drop (Lib.beBytes 8 x).length = Lib.uvarint lc ++ E := List.drop_left
    rwa [hb] at this
  refine ⟨?_, ⟨_, d1⟩, ⟨_, d2⟩, d3, ?_, ?_, ?_⟩
  · have := getD_drop o l0.length 0
    rw [Nat.add_zero, d0] at this
    rw [this]
    rfl
  · simp [encHead, hb]; omega
  · rw [e1]; simp [hb]; omega
  · intro j hj
    rw [e1]
    simp [List.getD, List.getElem?_append_left hj]

end Go.Proofs.Ybulkaqre
