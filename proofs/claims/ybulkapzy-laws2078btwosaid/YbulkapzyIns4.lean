import Derived.Test.YbulkapzyIns3
namespace Go.Proofs.Ybulkapzy
open Go.RowKit

/-- Two cells stored into a row. -/
theorem row_two {w' : World} {g c : Nat} {cur : Array Value} {a b : Value} (hb : w'.heap[g]? = some (.cells cur 86 (0, 0))) (hs : cur.size = c) (hc : 2 ≤ c) (hm : c ≤ maxLen) (h0 : cur[0]? = some a) (h1 : cur[1]? = some b) :
    w'.ownsRow 0 86 1 (.slice (some ⟨g, 0, none⟩) 2 c) 2 [a, b] := by
  refine ⟨by simp, .inr ⟨g, c, cur, rfl, Nat.zero_le _, hb, hc, hm, by omega, ?_⟩⟩
  obtain ⟨l⟩ := cur
  match l, h0, h1 with
  | x :: y :: r, h0, h1 =>
    simp at h0 h1
    simp [h0, h1]

theorem si_same (cs : Array Value) (i : Nat) (v : Value) (h : i < cs.size) : (cs.setIfInBounds i v)[i]? = some v := by simp [h]
theorem si_other (cs : Array Value) (i j : Nat) (v : Value) (h : i ≠ j) : (cs.setIfInBounds i v)[j]? = cs[j]? := by simp [h]

theorem heap_sets {w : World} {g i : Nat} {cs : Array Value} {t : TypeId} {v : Value} (h : w.heap[g]? = some (.cells cs t (0, 0))) : (w.setCells g i [v]).heap[g]? = some (.cells (cs.setIfInBounds i v) t (0, 0)) :=
  heap_setCell_same _ _ _ _ _ _ h
theorem turn_sets {L : List Nat} {w w' : World} {g : Nat} (h : Turn L w w') (hg : g ∈ L ∨ w.heap.size ≤ g) (i : Nat) (v : Value) : Turn L w (w'.setCells g i [v]) := h.setCell (p := ⟨g, i, none⟩) hg v

/-- A second holding, ahead of the first. -/
theorem insertFront (g c q : Nat) (p0 p : Option Addr) (w : World) (hown : w.ownsRow 0 86 1 (.slice (some ⟨g, 0, none⟩) 1 c) 1 [.pointer p0]) (hqb : w.heap[q]? = some (.cells #[.pointer p] 86 (0, 0))) (hqg : q ≠ g) :
    Calls Yba.prog 33 #[.slice (some ⟨g, 0, none⟩) 1 c, .int .i64 0, .slice (some ⟨q, 0, none⟩) 1 1] w fun e w' => ∃ g' c', e = .returned (.slice (some ⟨g', 0, none⟩) 2 c') ∧
      w'.ownsRow 0 86 1 (.slice (some ⟨g', 0, none⟩) 2 c') 2 [.pointer p, .pointer p0] ∧ Turn [g] w w' := by
  have hq : w.cell? ⟨q, 0, none⟩ = some (.pointer p) := by simp [World.cell?, hqb]
  have h0 := hown.cellAt 0 (by omega)
  simp at h0
  obtain ⟨cur, hb, h1c, hcm, hsz⟩ : ∃ cur, w.heap[g]? = some (.cells cur 86 (0, 0)) ∧ 1 ≤ c ∧ c ≤ maxLen ∧ cur.size = c := by
    rcases hown.2 with ⟨h, _⟩ | ⟨g', c', cur, hv, _, h2, h3, h4, h5, _⟩
    · cases h
    · cases hv; exact ⟨cur, h2, h3, h4, by omega⟩
  by_cases hc : 2 ≤ c
  · refine (insertShift g c q p0 p w hc (by unfold maxLen at hcm; omega) hqg h0 ?_ ?_ ?_ hq 86 86 1 c ?_ ?_ (by omega) ?_ ?_).mono ?_
    · simp [World.cell?, hb]; omega
    · simp [World.frozen?, hb]
    · simp [World.frozen?, hb]
    · simp [World.shape?, hqb]
    · simp [World.shape?, hb, hsz]
    · simp [World.frozen?, hqb]
    · simp [World.frozen?, hqb]
    · rintro e w' ⟨rfl, rfl⟩
      refine ⟨g, c, rfl, ?_, turn_sets (turn_sets (Turn.refl _ _).drew (.inl (by simp)) _ _) (.inl (by simp)) _ _⟩
      have hbd : w.drew.heap[g]? = some (.cells cur 86 (0, 0)) := hb
      refine row_two (heap_sets (heap_sets hbd)) (by simpa using hsz) hc hcm ?_ ?_
      · exact si_same _ _ _ (by simp; omega)
      · rw [si_other _ _ _ _ (by decide)]; exact si_same _ _ _ (by omega)
  · obtain rfl : c = 1 := by omega
    refine (insertGrow g q p0 p w h0 hq).mono ?_
    rintro e w' ⟨c', ROW, h2, hm, hR, rfl, rfl⟩
    refine ⟨w.heap.size, c', rfl, ?_, turn_sets (turn_sets ((Turn.refl _ _).alloc _).drew (.inr (Nat.le_refl _)) _ _).drew (.inr (Nat.le_refl _)) _ _⟩
    have hbd : (w.alloc (.cells ROW 86)).drew.heap[w.heap.size]? = some (.cells ROW 86 (0, 0)) := heap_alloc_new w _
    have hbe : ((w.alloc (.cells ROW 86)).drew.setCells w.heap.size 0 [.pointer p]).drew.heap[w.heap.size]? = some (.cells (ROW.setIfInBounds 0 (.pointer p)) 86 (0, 0)) := heap_sets hbd
    refine row_two (heap_sets hbe) (by simpa using hR) h2 hm ?_ ?_
    · rw [si_other _ _ _ _ (by decide)]; exact si_same _ _ _ (by omega)
    · exact si_same _ _ _ (by simp; omega)

end Go.Proofs.Ybulkapzy
