import Derived.Test.YbulkapxuInts
import Derived.MapKept
import Derived.Below
namespace Go.Proofs.Ybulkapxu
open Go.RowKit

theorem Yba.info47 : (Yba.prog.info? 47).map (fun i => (i.zero, i.size, i.bytes)) = some (some (.agg #[.int .u8 0, .string ⟨#[]⟩, .int .u8 0, .int .u16 0, .pointer none, .bool false, .string ⟨#[]⟩, .int .i64 0]), 8, 72) := by kernel_rfl

/-- An open element, as the law lays it. -/
structure El where
  ns : Nat
  nm : Nat
  kd : Nat
  en : Nat
  bk : Nat

def tblName (i : Nat) : ByteArray := if i = 0 then ⟨#[97]⟩ else if i = 1 then ⟨#[98]⟩ else ⟨#[112]⟩

/-- The cells of a place in the stack: an element or a gap. -/
def elCells : Option El → List Value
  | some e => [.int .u8 e.ns, .string (tblName e.nm), .int .u8 0, .int .u16 e.kd, .pointer (some ⟨e.en, 0, none⟩), .bool false, .string ⟨#[]⟩, .int .i64 e.bk]
  | none => [.int .u8 0, .string ⟨#[]⟩, .int .u8 0, .int .u16 0, .pointer none, .bool true, .string ⟨#[]⟩, .int .i64 0]

abbrev St := List (Option El)

def flat (st : St) : List Value := st.flatMap elCells

theorem elCells_len (o : Option El) : (elCells o).length = 8 := by cases o <;> rfl
theorem flat_len (st : St) : (flat st).length = st.length * 8 := by
  induction st with
  | nil => rfl
  | cons o r ih => unfold flat at *; rw [List.flatMap_cons, List.length_append, ih, elCells_len, List.length_cons]; omega
theorem flat_append (a b : St) : flat (a ++ b) = flat a ++ flat b := by unfold flat; simp
theorem flat_get (st : St) (i j : Nat) (o : Option El) (hi : st[i]? = some o) (hj : j < 8) : (flat st)[8 * i + j]? = (elCells o)[j]? := by
  induction st generalizing i with
  | nil => simp at hi
  | cons a r ih =>
    have hf : flat (a :: r) = elCells a ++ flat r := rfl
    rw [hf]
    cases i with
    | zero =>
      simp at hi
      subst hi
      rw [List.getElem?_append_left (by rw [elCells_len]; omega)]
      congr 1
      omega
    | succ i =>
      simp at hi
      rw [List.getElem?_append_right (by rw [elCells_len]; omega), elCells_len, ← ih i hi]
      congr 1
      omega
theorem flat_take (st : St) (i : Nat) : flat (st.take i) = (flat st).take (i * 8) := by
  induction st generalizing i with
  | nil => simp [flat]
  | cons a r ih =>
    cases i with
    | zero => simp [flat]
    | succ i =>
      have hf : flat (a :: r) = elCells a ++ flat r := rfl
      rw [List.take_succ_cons, hf, show flat (a :: r.take i) = elCells a ++ flat (r.take i) from rfl, ih, List.take_append, List.take_of_length_le (l := elCells a) (by rw [elCells_len]; omega), elCells_len, show (i + 1) * 8 - 8 = i * 8 by omega]
theorem flat_oneCell (st : St) : ∀ u ∈ flat st, u.oneCell' = true := by
  intro u hu
  unfold flat at hu
  obtain ⟨o, _, ho⟩ := List.mem_flatMap.1 hu
  cases o with
  | none => simp [elCells] at ho; rcases ho with h | h | h | h | h | h | h | h <;> (subst h; rfl)
  | some e => simp [elCells] at ho; rcases ho with h | h | h | h | h | h | h | h <;> (subst h; rfl)

/-! ### the places of the open elements of a kind -/
def hit (p : El → Bool) (st : St) (i : Nat) : Bool := match st[i]? with | some (some e) => p e | _ => false
def pos (p : El → Bool) (st : St) : List Nat := (List.range st.length).filter (hit p st)

theorem hit_lt {p : El → Bool} {st : St} {i : Nat} (h : hit p st i = true) : i < st.length := by
  unfold hit at h
  cases h1 : st[i]? with
  | none => simp [h1] at h
  | some o => exact (List.getElem?_eq_some_iff.1 h1).1
theorem mem_pos {p : El → Bool} {st : St} {i : Nat} : i ∈ pos p st ↔ hit p st i = true := by
  unfold pos
  rw [List.mem_filter, List.mem_range]
  exact ⟨fun h => h.2, fun h => ⟨hit_lt h, h⟩⟩
theorem pos_sorted (p : El → Bool) (st : St) : (pos p st).Pairwise (· < ·) := List.Pairwise.filter _ List.pairwise_lt_range
theorem pos_len (p : El → Bool) (st : St) : (pos p st).length ≤ st.length := by
  have h := List.length_filter_le (hit p st) (List.range st.length)
  simpa [pos] using h
theorem pos_lt {p : El → Bool} {st : St} {i : Nat} (h : i ∈ pos p st) : i < st.length := hit_lt (mem_pos.1 h)

theorem hit_snoc (p : El → Bool) (st : St) (o : Option El) (i : Nat) (hi : i < st.length) : hit p (st ++ [o]) i = hit p st i := by
  unfold hit
  rw [List.getElem?_append_left hi]
theorem pos_snoc (p : El → Bool) (st : St) (o : Option El) : pos p (st ++ [o]) = pos p st ++ (if (match o with | some e => p e | none => false) = true then [st.length] else []) := by
  unfold pos
  rw [List.length_append, List.length_singleton, List.range_succ, List.filter_append]
  congr 1
  · refine List.filter_congr fun i hi => hit_snoc p st o i (List.mem_range.1 hi)
  · have h : hit p (st ++ [o]) st.length = (match o with | some e => p e | none => false) := by
      unfold hit
      rw [List.getElem?_append_right (Nat.le_refl _), Nat.sub_self]
      cases o <;> rfl
    simp only [List.filter_cons, List.filter_nil, h]
theorem pos_snoc_none (p : El → Bool) (st : St) : pos p (st ++ [none]) = pos p st := by rw [pos_snoc]; simp
theorem pos_set (p : El → Bool) (st : St) (i : Nat) : pos p (st.set i none) = (pos p st).filter (fun k => k != i) := by
  unfold pos
  rw [List.length_set, List.filter_filter]
  refine List.filter_congr fun k _ => ?_
  unfold hit
  rw [List.getElem?_set]
  by_cases h : i = k
  · subst h
    by_cases h2 : i < st.length
    · simp [h2]
    · simp [h2]
  · have : (k != i) = true := by rw [bne_iff_ne]; exact Ne.symm h
    simp [h, this]
theorem pos_nil (p : El → Bool) : pos p [] = [] := rfl
/-- An element that p does not take leaves no trace. -/
theorem pos_set_no (p : El → Bool) (st : St) (i : Nat) (h : hit p st i = false) : pos p (st.set i none) = pos p st := by
  rw [pos_set, List.filter_eq_self]
  intro k hk
  rw [bne_iff_ne]
  rintro rfl
  rw [mem_pos, h] at hk
  cases hk

/-- Taking a place out of a row in order. -/
theorem filter_cut (l : List Nat) (hs : l.Pairwise (· < ·)) (q : Nat) (i : Nat) (hq : l[q]? = some i) : l.filter (fun k => k != i) = l.take q ++ l.drop (q + 1) := by
  induction l generalizing q with
  | nil => simp at hq
  | cons a r ih =>
    rw [List.pairwise_cons] at hs
    cases q with
    | zero =>
      simp at hq
      subst hq
      rw [List.filter_cons_of_neg (by simp)]
      simp
      intro k hk
      have := hs.1 k hk
      omega
    | succ q =>
      simp at hq
      have hlt := hs.1 i (List.mem_of_getElem? hq)
      rw [List.filter_cons_of_pos (by rw [bne_iff_ne]; omega), ih hs.2 q hq]
      simp

end Go.Proofs.Ybulkapxu
