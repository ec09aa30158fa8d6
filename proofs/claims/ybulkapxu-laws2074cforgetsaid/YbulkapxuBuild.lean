import Derived.Test.YbulkapxuPtrs
namespace Go.Proofs.Ybulkapxu
open Go.RowKit

/-- One entry, as the law lays it. -/
def entryCells : Array Value := #[.string ⟨#[]⟩, .int .u16 0, .string ⟨#[]⟩, .int .i64 (-1)]

/-- What the build leaves: the pool's row at B, the entries at B + 1 .. B + m, the row of the active ones at B + 1 + m. -/
structure Built (B m n : Nat) (f : Nat → Option Addr) (w : World) : Prop where
  size : w.heap.size = B + m + 2
  pool : w.rowIs B 40 m (fun i => .pointer (some ⟨B + 1 + i, 0, none⟩))
  entry : ∀ i, i < m → w.heap[B + 1 + i]? = some (.cells entryCells 44 (0, 0))
  act : w.rowIs (B + 1 + m) 40 n (fun i => .pointer (f i))
  each : ∀ i, i < n → f i = none ∨ ∃ j, j < m ∧ f i = some ⟨B + 1 + j, 0, none⟩

/-- The first loop's state: k entries laid. -/
structure Pooling (w0 : World) (m k : Nat) (w : World) : Prop where
  size : w.heap.size = w0.heap.size + 1 + k
  pool : w.rowIs w0.heap.size 40 m (fun i => if i < k then .pointer (some ⟨w0.heap.size + 1 + i, 0, none⟩) else .pointer none)
  entry : ∀ i, i < k → w.heap[w0.heap.size + 1 + i]? = some (.cells entryCells 44 (0, 0))
  below : Below w0.heap.size w0 w

theorem Pooling.start (w : World) (m : Nat) : Pooling w m 0 (w.alloc (.cells (madeCells #[.pointer none] m) 40)) where
  size := by simp
  pool := (World.rowIs_made w _ _ _).congr (fun i _ => by simp)
  entry := fun i h => absurd h (by omega)
  below := (Below.refl _ _).alloc (Nat.le_refl _) _

theorem Pooling.step {w wr : World} {m k : Nat} (h : Pooling w m k wr) (hk : k < m) :
    Pooling w m (k + 1) ((wr.setCell ⟨w.heap.size, k, none⟩ (.pointer (some ⟨wr.heap.size, 0, none⟩))).alloc (.cells entryCells 44)) where
  size := by simp [h.size]; omega
  pool := by
    refine ((h.pool.set k _).alloc _).congr fun i hi => ?_
    by_cases e : i = k
    · subst e; simp [h.size]
    · simp only [e, if_false]
      by_cases e2 : i < k
      · simp [e2, show i < k + 1 by omega]
      · simp [e2, show ¬ i < k + 1 by omega]
  entry := by
    intro i hi
    have hs := h.size
    by_cases e : i = k
    · subst e
      have key : ∀ w1 : World, w1.heap.size = w.heap.size + 1 + i → (w1.alloc (.cells entryCells 44)).heap[w.heap.size + 1 + i]? = some (.cells entryCells 44 (0, 0)) := fun w1 h1 => by
        rw [← h1]; exact heap_alloc_new w1 _
      exact key _ (by rw [World.size_setCell, hs])
    · rw [Below.heap_alloc _ _ _ (by simp [hs]; omega), Below.heap_setCell _ _ _ _ (by simp; omega)]
      exact h.entry i (by omega)
  below := by
    have hs := h.size
    exact (h.below.setCell (p := ⟨w.heap.size, k, none⟩) (Nat.le_refl _) _).alloc (by simp [hs]; omega) _

theorem Built.start {w wr : World} {m : Nat} (n : Nat) (h : Pooling w m m wr) : Built w.heap.size m n (fun _ => none) (wr.alloc (.cells (madeCells #[.pointer none] n) 40)) where
  size := by simp [h.size]; omega
  pool := (h.pool.alloc _).congr (fun i hi => by simp [hi])
  entry := fun i hi => by
    have hs := h.size
    rw [Below.heap_alloc _ _ _ (by omega)]
    exact h.entry i hi
  act := by
    have hs := h.size
    have := World.rowIs_made wr (.pointer none) n 40
    rw [hs] at this
    exact this
  each := fun i _ => .inl rfl

theorem Built.put {B m n j k : Nat} {f : Nat → Option Addr} {w : World} (h : Built B m n f w) (hj : j < m) :
    Built B m n (fun i => if i = k then some ⟨B + 1 + j, 0, none⟩ else f i) (w.setCell ⟨B + 1 + m, k, none⟩ (.pointer (some ⟨B + 1 + j, 0, none⟩))) where
  size := by simp [h.size]
  pool := h.pool.setOther (by simp; omega) _
  entry := fun i hi => by
    rw [Below.heap_setCell _ _ _ _ (by simp; omega)]
    exact h.entry i hi
  act := (h.act.set k _).congr fun i _ => by by_cases e : i = k <;> simp [e]
  each := fun i hi => by
    by_cases e : i = k
    · exact .inr ⟨j, hj, by simp [e]⟩
    · simp only [e, if_false]
      exact h.each i hi

set_option maxHeartbeats 400000 in
theorem build_any (a0 : Option Addr) (len0 cap0 : Nat) (z0 : List Int) (n : Int) (w : World) (hn0 : 0 ≤ n) (hn1 : n ≤ 255) (hl : len0 ≤ 1024)
    (hz : ∀ i, i < len0 → ∃ b o, a0 = some ⟨b, o, none⟩ ∧ b < w.heap.size ∧ w.cell? ⟨b, o + i, none⟩ = some (.int .u8 (z0.getD i 0)) ∧ 0 ≤ z0.getD i 0 ∧ z0.getD i 0 ≤ 255) :
    Calls Yba.prog 12 #[.slice a0 len0 cap0, .int .u8 n] w fun e w' => ∃ m f, 1 ≤ m ∧ m ≤ 5 ∧ e = .returned (.tuple #[.slice (some ⟨w.heap.size, 0, none⟩) m m, .slice (some ⟨w.heap.size + 1 + m, 0, none⟩) len0 len0]) ∧
      Built w.heap.size m len0 f w' ∧ Below w.heap.size w w' := by
  obtain ⟨m, hm⟩ : ∃ m : Nat, 1 + n % 5 = (m : Int) := ⟨(1 + n % 5).toNat, by omega⟩
  have hm1 : 1 ≤ m := by omega
  have hm5 : m ≤ 5 := by omega
  have hmk := fun n h1 h2 => run_make_row' (P := Yba.prog) 27 40 (.pointer none) 8 Yba.underlying27 Yba.info40 rfl .i64 .i64 n h1 h2
  have hmk1 := hmk m (by omega) (by omega)
  have hmk2 := hmk len0 (by omega) (by omega)
  clear hmk
  have HZ : Hid _ := hz
  clear hz
  go_enter Yba.func12, Yba.ntmps12
  go_wp2
  go_loopw [21] (fun i wr => ∃ k : Nat, k ≤ m ∧ i = .int .i64 k ∧ Pooling w m k wr) (fun i _ => m - (intOf i).toNat)
  case atStart => exact ⟨0, Nat.zero_le _, rfl, Pooling.start w m⟩
  case round =>
    obtain ⟨k, hk, rfl, hP⟩ := hrel
    have hsz := hP.size
    have hfz := hP.pool.frozen k
    by_cases hlt : k < m
    · have hcl := hP.pool.cell hlt
      have hB : w.heap.size < wr.heap.size := by omega
      clear hmk1 hmk2 hsz
      go_wp2
      go_roundw
      case rel => exact ⟨k + 1, hlt, by go_num, hP.step hlt⟩
      case measure => simp [intOf]; omega
    · obtain rfl : k = m := by omega
      clear hfz hmk1 hlt
      go_wp2
      clear hmk2
      have hst := Built.start len0 hP
      have hbe := hP.below.alloc (by omega) (.cells (madeCells #[.pointer none] len0) 40)
      go_loopw [35] (fun i wr => ∃ q : Nat, ∃ f, q ≤ len0 ∧ i = .int .i64 q ∧ Built w.heap.size k len0 f wr ∧ Below w.heap.size w wr) (fun i _ => len0 - (intOf i).toNat)
      case atStart => exact ⟨0, _, Nat.zero_le _, rfl, hst, hbe⟩
      case round =>
        obtain ⟨q, f, hq, rfl, hP', hB'⟩ := hrel
        clear hst hbe hsz
        by_cases hlq : q < len0
        · obtain ⟨b, o, rfl, hb, hcz, hz1, hz2⟩ := HZ.out q hlq
          have hcz' := (hB'.cell (p := ⟨b, o + q, none⟩) hb).trans hcz
          have hfz := hP'.act.frozen q
          have hca := hP'.act.cell hlq
          generalize hy : z0.getD q 0 = y at *
          obtain ⟨j, hj⟩ : ∃ j : Nat, y % ((k : Int) + 1) = (j : Int) := ⟨(y % ((k : Int) + 1)).toNat, by have := Int.emod_nonneg y (show ((k : Int) + 1) ≠ 0 by omega); omega⟩
          have hj2 : j < k + 1 := by have := Int.emod_lt_of_pos y (show (0:Int) < (k : Int) + 1 by omega); omega
          by_cases hjm : j < k
          · have hcp := hP'.pool.cell hjm
            go_wp2
            go_roundw
            case rel => exact ⟨q + 1, _, hlq, by go_num, hP'.put hjm, hB'.setCell (by simp; omega) _⟩
            case measure => simp [intOf]; omega
          · go_wp2
            go_roundw
            case rel => exact ⟨q + 1, f, hlq, by go_num, hP', hB'⟩
            case measure => simp [intOf]; omega
        · go_wp2
          go_ret2
          exact ⟨k, f, hm1, hm5, rfl, hP', hB'⟩

end Go.Proofs.Ybulkapxu
