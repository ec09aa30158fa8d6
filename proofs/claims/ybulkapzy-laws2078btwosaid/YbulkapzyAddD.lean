import Derived.Test.YbulkapzyAdd
namespace Go.Proofs.Ybulkapzy
open Go.RowKit

set_option maxRecDepth 20000 in
theorem addHolding0d (B be bm : Nat) (t : Int) (nm party : ByteArray) (w : World) (hB : w.heap.size = B)
    (hp : w.cell? ⟨be, 1, none⟩ = some (.map none)) (hfz : w.frozen? ⟨be, 1, none⟩ = false) (ht : w.cell? ⟨bm, 1, none⟩ = some (.int .i64 t)) (hn : w.cell? ⟨bm, 0, none⟩ = some (.string nm)) (hd : w.cell? ⟨bm, 11, none⟩ = some (.bool true)) :
    Calls Yba.prog 25 #[.pointer (some ⟨be, 0, none⟩), .pointer (some ⟨bm, 0, none⟩), .string party] w fun e w' => e = .returned (.pointer (some ⟨B, 0, none⟩)) ∧
      ∃ pb g c, B < pb ∧ B < g ∧ Added w w' B be bm pb nm party true #[{ key := .string party, val := .slice (some ⟨g, 0, none⟩) 1 c, born := 0 }] 1 g 1 c [.pointer (some ⟨B, 0, none⟩)] [be] := by
  have hl := fun wq => look_nil (P := Yba.prog) (w := wq) Yba.underlying57 Yba.underlying9 (str_key party) (Yba.zero62 wq)
  have hbe : be < B := by rw [← hB]; exact World.block_lt_of_cell? _ _ hp
  have hbm : bm < B := by rw [← hB]; exact World.block_lt_of_cell? _ _ ht
  go_enter Yba.func25, Yba.ntmps25
  go_wp2_with fail
  refine (find0 none 0 bm t w ht).mono ?_
  rintro e w' ⟨rfl, rfl⟩
  go_wp2_with fail
  refine (newQueue_any _ _ _ _ _ (by omega)).mono ?_
  rintro e w2 ⟨rfl, hw2⟩
  have hH : w2.heap[B]? = some (.cells #[.pointer (some ⟨bm, 0, none⟩), .string party, .slice none 0 0, .int .i64 0, .map none, .pointer none, .pointer none] 93 (0, 0)) := by
    rw [hw2, Below.heap_alloc _ _ _ (by simp; omega), ← hB]; exact heap_alloc_new w' _
  have hs2 : w2.heap.size = B + 2 := by rw [hw2]; simp [hB]
  have hbel : Below B w' w2 := by rw [hw2]; exact ((Below.refl _ _).alloc (by omega) _).alloc (by simp; omega) _
  have hp2 := (hbel.cell (p := ⟨be, 1, none⟩) hbe).trans hp
  have hfz2 := (hbel.frozen (p := ⟨be, 1, none⟩) hbe).trans hfz
  have hn2 := (hbel.cell (p := ⟨bm, 0, none⟩) hbm).trans hn
  have hd2 := (hbel.cell (p := ⟨bm, 11, none⟩) hbm).trans hd
  have c2 : w2.cell? ⟨B, 2, none⟩ = some (.slice none 0 0) := cell_of hH rfl
  have c3 : w2.cell? ⟨B, 3, none⟩ = some (.int .i64 0) := cell_of hH rfl
  have f2 := frozen_of (i := 2) hH
  have f3 := frozen_of (i := 3) hH
  have hbe2 : be < w2.heap.size := by omega
  have c5 : w2.cell? ⟨B, 5, none⟩ = some (.pointer none) := cell_of hH rfl
  have f5 := frozen_of (i := 5) hH
  have hB2 : B < w2.heap.size := by omega
  have hbm2 : bm < w2.heap.size := by omega
  have HH := hide hH
  have HS := hide hs2
  have HB := hide hbel
  have HBw := hide hB
  have HP2 := hide hp2
  clear hH hs2 hbel hw2 hB hp ht hn hd hl
  clear hfz
  have hmk := fun wq => run_makeMap (P := Yba.prog) 57 wq
  have heq := fun wq => run_eql_map_nil (P := Yba.prog) wq 57 9 62 none Yba.underlying57
  go_wp2
  obtain ⟨w3, hw3⟩ : ∃ w3, w3 = (((((w2.setCell ⟨B, 2, none⟩ (.slice (some ⟨B, 6, none⟩) 0 1)).setCell ⟨B, 3, none⟩ (.int .i64 0)).setCell ⟨B, 5, none⟩ (.pointer (some ⟨w2.heap.size, 0, none⟩))).setCell ⟨be, 1, none⟩ (.map (some (w2.heap.size + 1)))).alloc (.cells #[.string nm, .string party, .int .u64 0, .int .u64 0, .int .u64 0, .int .u64 0, .int .u64 0, .int .u64 0, .int .u64 0, .int .u64 0, .int .u64 0, .int .u64 0, .bool false] 95)).alloc (.map #[] 0) := ⟨_, rfl⟩
  rw [← hw3]
  have hs3 : w3.heap.size = B + 4 := by rw [hw3]; simp [unhide HS]
  have hH3 : w3.heap[B]? = some (.cells (holdCells B bm party (some ⟨B + 2, 0, none⟩)) 93 (0, 0)) := by
    rw [hw3, Below.heap_alloc _ _ _ (by simp [unhide HS] <;> omega), Below.heap_alloc _ _ _ (by simp [unhide HS] <;> omega), Below.heap_setCell _ _ _ _ (by simp; omega), unhide HS]
    exact heap_setCell_same _ _ _ _ _ _ (heap_setCell_same _ _ _ _ _ _ (heap_setCell_same _ _ _ _ _ _ (unhide HH)))
  have hP3 : w3.heap[B + 3]? = some (.map #[] 0) := by
    rw [hw3]
    have key : ∀ w1 : World, w1.heap.size = B + 3 → (w1.alloc (.map #[] 0)).heap[B + 3]? = some (.map #[] 0) := fun w1 h1 => by
      rw [← h1]; exact heap_alloc_new w1 _
    exact key _ (by simp [unhide HS])
  have hp3 : w3.cell? ⟨be, 1, none⟩ = some (.map (some (B + 3))) := by
    rw [hw3, World.cell?_alloc_past _ _ _ (by simp <;> omega), World.cell?_alloc_past _ _ _ (by simp <;> omega), unhide HS]
    refine World.cell?_setCell_same (u := .map none) _ _ _ ?_
    rw [World.cell?_setCell_other _ _ _ _ (by intro h; simp at h <;> omega), World.cell?_setCell_other _ _ _ _ (by intro h; simp at h <;> omega), World.cell?_setCell_other _ _ _ _ (by intro h; simp at h <;> omega)]
    exact unhide HP2
  have hE3 : ∀ i, i ≠ 1 → w3.cell? ⟨be, i, none⟩ = w'.cell? ⟨be, i, none⟩ := by
    intro i hi
    rw [hw3, World.cell?_alloc_past _ _ _ (by simp <;> omega), World.cell?_alloc_past _ _ _ (by simp <;> omega), World.cell?_setCell_other _ _ _ _ (by intro h; simp at h <;> omega), World.cell?_setCell_other _ _ _ _ (by intro h; simp at h <;> omega), World.cell?_setCell_other _ _ _ _ (by intro h; simp at h <;> omega), World.cell?_setCell_other _ _ _ _ (by intro h; simp at h <;> omega)]
    exact (unhide HB).cell hbe
  have hT3 : Turn [be] w' w3 := by
    rw [hw3]
    exact (((((((Turn.of_below (by rw [unhide HBw]; exact unhide HB) _).setCell (.inr (by rw [unhide HBw]; exact Nat.le_refl _)) _).setCell (.inr (by rw [unhide HBw]; exact Nat.le_refl _)) _).setCell (.inr (by rw [unhide HBw]; exact Nat.le_refl _)) _).setCell (.inl (by simp)) _).alloc _).alloc _)
  have hF3 : ∀ i, w3.frozen? ⟨be, i, none⟩ = w'.frozen? ⟨be, i, none⟩ := by
    intro i
    rw [hw3, frozen?_alloc_map, frozen?_alloc_cells, World.frozen?_setCell, World.frozen?_setCell, World.frozen?_setCell, World.frozen?_setCell]
    exact (unhide HB).frozen hbe
  have hM3 : MargOk w3 (some ⟨B + 2, 0, none⟩) true nm party B := by
    refine .inr ⟨rfl, B + 2, rfl, by omega, ?_, ?_⟩
    · rw [hw3, World.cell?_alloc_past _ _ _ (by simp [unhide HS] <;> omega)]
      have key : ∀ (w1 : World) (o : Array Value) (v : Value), w1.heap.size = B + 2 → o[0]? = some v → (w1.alloc (.cells o 95)).cell? ⟨B + 2, 0, none⟩ = some v := fun w1 o v h1 h2 => by
        rw [← h1]; simp [h2]
      exact key _ _ _ (by simp [unhide HS]) rfl
    · rw [hw3, World.cell?_alloc_past _ _ _ (by simp [unhide HS] <;> omega)]
      have key : ∀ (w1 : World) (o : Array Value) (v : Value), w1.heap.size = B + 2 → o[1]? = some v → (w1.alloc (.cells o 95)).cell? ⟨B + 2, 1, none⟩ = some v := fun w1 o v h1 h2 => by
        rw [← h1]; simp [h2]
      exact key _ _ _ (by simp [unhide HS]) rfl
  have HM3 := hide hM3
  have hbe3 : be < w3.heap.size := by omega
  have hpb3 : (B + 3) < w3.heap.size := by omega
  have HH3 := hide hH3
  have HP3 := hide hP3
  have HE3 := hide hE3
  have HT3 := hide hT3
  have HF3 := hide hF3
  have HS3 := hide hs3
  rw [unhide HS]
  clear hH3 hP3 hE3 hT3 hF3 hw3 hs3 HH HP2 HB HS hp2 hn2 hd2 c2 c3 f2 f3 hbe2 heq hfz2 hmk c5 f5 hB2 hbm2 hM3
  go_region_with (go_at_call 33; refine (insert0 _ (some ⟨B, 0, none⟩) _ (by simp)).mono ?_; rintro e w4 ⟨g, c, rfl, hown, hbel⟩; have hp4 := (hbel.cell (p := ⟨be, 1, none⟩) (by simp; omega)).trans ((World.cell?_alloc_past _ _ _ (by simpa using hbe3)).trans hp3); have hupd := upd_new (P := Yba.prog) (w := w4) (v := .slice (some ⟨g, 0, none⟩) 1 c) Yba.underlying57 Yba.underlying9 (str_key party) ((hbel.block (B + 3) (by simp; omega)).trans ((Below.heap_alloc _ _ _ (by simpa using hpb3)).trans (unhide HP3))) rfl)
  all_goals
    have HO := hide hown
    have HBL := hide hbel
    clear hown hbel hupd hp4
    go_wp2
    go_ret
    have hs3 := unhide HS3
    refine ⟨rfl, B + 3, g, c, by omega, ?_, ?_⟩
    · have h1 := ((unhide HO).lt g rfl).1
      simp at h1
      omega
    · have hb := unhide HBL
      have hT4 : Turn [] w3 w4 := ⟨hb.os, hb.tape, hb.output, by have := hb.size; simp at this; omega, fun k hk _ => (hb.block k (by simp; omega)).trans (Below.heap_alloc _ _ _ hk)⟩
      exact added_close (unhide HH3) (unhide HM3) hp3 (unhide HE3) (unhide HF3) (unhide HT3) ⟨_, _, unhide HP3⟩ (.inr (by rw [unhide HBw]; omega)) hT4 (by simp) (by simp) (by simp) (by simp) (by simp) (unhide HO)


set_option maxRecDepth 20000 in
theorem addHoldingP (B be bm pb clock : Nat) (es : Array MapEntry) (t : Int) (nm party : ByteArray) (w : World) (hB : w.heap.size = B)
    (hp : w.cell? ⟨be, 1, none⟩ = some (.map (some pb))) (hpm : w.heap[pb]? = some (.map es clock)) (hmiss : Instr.findNow .string (.string party) es.toList 0 = some none) (ht : w.cell? ⟨bm, 1, none⟩ = some (.int .i64 t)) (hn : w.cell? ⟨bm, 0, none⟩ = some (.string nm)) (hd : w.cell? ⟨bm, 11, none⟩ = some (.bool false)) :
    Calls Yba.prog 25 #[.pointer (some ⟨be, 0, none⟩), .pointer (some ⟨bm, 0, none⟩), .string party] w fun e w' => e = .returned (.pointer (some ⟨B, 0, none⟩)) ∧
      ∃ g c, B < g ∧ Added w w' B be bm pb nm party false (es.push { key := .string party, val := .slice (some ⟨g, 0, none⟩) 1 c, born := clock }) (clock + 1) g 1 c [.pointer (some ⟨B, 0, none⟩)] [be, pb] := by
  have hl := look_miss (P := Yba.prog) (w := w) Yba.underlying57 Yba.underlying9 (str_key party) (Yba.zero62 w) hpm hmiss
  have hpbB : pb < B := by rw [← hB]; exact lt_of_block hpm
  have HM := hide hmiss
  have HPM := hide hpm
  clear hmiss hpm
  have hbe : be < B := by rw [← hB]; exact World.block_lt_of_cell? _ _ hp
  have hbm : bm < B := by rw [← hB]; exact World.block_lt_of_cell? _ _ ht
  go_enter Yba.func25, Yba.ntmps25
  go_wp2_with fail
  refine (find0 none 0 bm t w ht).mono ?_
  rintro e w' ⟨rfl, rfl⟩
  go_wp2_with fail
  refine (newQueue_any _ _ _ _ _ (by omega)).mono ?_
  rintro e w2 ⟨rfl, hw2⟩
  have hH : w2.heap[B]? = some (.cells #[.pointer (some ⟨bm, 0, none⟩), .string party, .slice none 0 0, .int .i64 0, .map none, .pointer none, .pointer none] 93 (0, 0)) := by
    rw [hw2, Below.heap_alloc _ _ _ (by simp; omega), ← hB]; exact heap_alloc_new w' _
  have hs2 : w2.heap.size = B + 2 := by rw [hw2]; simp [hB]
  have hbel : Below B w' w2 := by rw [hw2]; exact ((Below.refl _ _).alloc (by omega) _).alloc (by simp; omega) _
  have hp2 := (hbel.cell (p := ⟨be, 1, none⟩) hbe).trans hp
  have hn2 := (hbel.cell (p := ⟨bm, 0, none⟩) hbm).trans hn
  have hd2 := (hbel.cell (p := ⟨bm, 11, none⟩) hbm).trans hd
  have c2 : w2.cell? ⟨B, 2, none⟩ = some (.slice none 0 0) := cell_of hH rfl
  have c3 : w2.cell? ⟨B, 3, none⟩ = some (.int .i64 0) := cell_of hH rfl
  have f2 := frozen_of (i := 2) hH
  have f3 := frozen_of (i := 3) hH
  have hbe2 : be < w2.heap.size := by omega
  have HH := hide hH
  have HS := hide hs2
  have HB := hide hbel
  have HBw := hide hB
  have HP2 := hide hp2
  clear hH hs2 hbel hw2 hB hp ht hn hd hl
  have heq := fun wq => run_eql_map_nil (P := Yba.prog) wq 57 9 62 (some pb) Yba.underlying57
  go_wp2
  obtain ⟨w3, hw3⟩ : ∃ w3, w3 = (w2.setCell ⟨B, 2, none⟩ (.slice (some ⟨B, 6, none⟩) 0 1)).setCell ⟨B, 3, none⟩ (.int .i64 0) := ⟨_, rfl⟩
  rw [← hw3]
  have hs3 : w3.heap.size = B + 2 := by rw [hw3]; simp [unhide HS]
  have hH3 : w3.heap[B]? = some (.cells (holdCells B bm party none) 93 (0, 0)) := by
    rw [hw3]
    exact heap_setCell_same _ _ _ _ _ _ (heap_setCell_same _ _ _ _ _ _ (unhide HH))
  have hP3 : w3.heap[pb]? = some (.map es clock) := by
    rw [hw3, Below.heap_setCell _ _ _ _ (by simp; omega), Below.heap_setCell _ _ _ _ (by simp; omega)]
    exact ((unhide HB).block pb hpbB).trans (unhide HPM)
  have hp3 : w3.cell? ⟨be, 1, none⟩ = some (.map (some pb)) := by
    rw [hw3, World.cell?_setCell_other _ _ _ _ (by intro h; simp at h <;> omega), World.cell?_setCell_other _ _ _ _ (by intro h; simp at h <;> omega)]
    exact unhide HP2
  have hE3 : ∀ i, i ≠ 1 → w3.cell? ⟨be, i, none⟩ = w'.cell? ⟨be, i, none⟩ := by
    intro i hi
    rw [hw3, World.cell?_setCell_other _ _ _ _ (by intro h; simp at h <;> omega), World.cell?_setCell_other _ _ _ _ (by intro h; simp at h <;> omega)]
    exact (unhide HB).cell hbe
  have hT3 : Turn [be, pb] w' w3 := by
    rw [hw3]
    exact (((Turn.of_below (by rw [unhide HBw]; exact unhide HB) _).setCell (.inr (by rw [unhide HBw]; exact Nat.le_refl _)) _).setCell (.inr (by rw [unhide HBw]; exact Nat.le_refl _)) _)
  have hF3 : ∀ i, w3.frozen? ⟨be, i, none⟩ = w'.frozen? ⟨be, i, none⟩ := by
    intro i
    rw [hw3, World.frozen?_setCell, World.frozen?_setCell]
    exact (unhide HB).frozen hbe
  have hbe3 : be < w3.heap.size := by omega
  have hpb3 : pb < w3.heap.size := by omega
  have HH3 := hide hH3
  have HP3 := hide hP3
  have HE3 := hide hE3
  have HT3 := hide hT3
  have HF3 := hide hF3
  have HS3 := hide hs3
  clear hH3 hP3 hE3 hT3 hF3 hw3 hs3 HH HP2 HB HS hp2 hn2 hd2 c2 c3 f2 f3 hbe2 heq
  go_region_with (go_at_call 33; refine (insert0 _ (some ⟨B, 0, none⟩) _ (by simp)).mono ?_; rintro e w4 ⟨g, c, rfl, hown, hbel⟩; have hp4 := (hbel.cell (p := ⟨be, 1, none⟩) (by simp; omega)).trans ((World.cell?_alloc_past _ _ _ (by simpa using hbe3)).trans hp3); have hupd := upd_new (P := Yba.prog) (w := w4) (v := .slice (some ⟨g, 0, none⟩) 1 c) Yba.underlying57 Yba.underlying9 (str_key party) ((hbel.block pb (by simp; omega)).trans ((Below.heap_alloc _ _ _ (by simpa using hpb3)).trans (unhide HP3))) (unhide HM))
  all_goals
    have HO := hide hown
    have HBL := hide hbel
    clear hown hbel hupd hp4
    go_wp2
    go_ret
    have hs3 := unhide HS3
    refine ⟨rfl, g, c, ?_, ?_⟩
    · have h1 := ((unhide HO).lt g rfl).1
      simp at h1
      omega
    · have hb := unhide HBL
      have hT4 : Turn [] w3 w4 := ⟨hb.os, hb.tape, hb.output, by have := hb.size; simp at this; omega, fun k hk _ => (hb.block k (by simp; omega)).trans (Below.heap_alloc _ _ _ hk)⟩
      exact added_close (unhide HH3) (.inl ⟨rfl, rfl⟩) hp3 (unhide HE3) (unhide HF3) (unhide HT3) ⟨_, _, unhide HP3⟩ (.inl (by simp)) hT4 (by simp) (by simp) (by simp) (by simp) (by simp) (unhide HO)


set_option maxRecDepth 20000 in
theorem addHoldingPd (B be bm pb clock : Nat) (es : Array MapEntry) (t : Int) (nm party : ByteArray) (w : World) (hB : w.heap.size = B)
    (hp : w.cell? ⟨be, 1, none⟩ = some (.map (some pb))) (hpm : w.heap[pb]? = some (.map es clock)) (hmiss : Instr.findNow .string (.string party) es.toList 0 = some none) (ht : w.cell? ⟨bm, 1, none⟩ = some (.int .i64 t)) (hn : w.cell? ⟨bm, 0, none⟩ = some (.string nm)) (hd : w.cell? ⟨bm, 11, none⟩ = some (.bool true)) :
    Calls Yba.prog 25 #[.pointer (some ⟨be, 0, none⟩), .pointer (some ⟨bm, 0, none⟩), .string party] w fun e w' => e = .returned (.pointer (some ⟨B, 0, none⟩)) ∧
      ∃ g c, B < g ∧ Added w w' B be bm pb nm party true (es.push { key := .string party, val := .slice (some ⟨g, 0, none⟩) 1 c, born := clock }) (clock + 1) g 1 c [.pointer (some ⟨B, 0, none⟩)] [be, pb] := by
  have hl := look_miss (P := Yba.prog) (w := w) Yba.underlying57 Yba.underlying9 (str_key party) (Yba.zero62 w) hpm hmiss
  have hpbB : pb < B := by rw [← hB]; exact lt_of_block hpm
  have HM := hide hmiss
  have HPM := hide hpm
  clear hmiss hpm
  have hbe : be < B := by rw [← hB]; exact World.block_lt_of_cell? _ _ hp
  have hbm : bm < B := by rw [← hB]; exact World.block_lt_of_cell? _ _ ht
  go_enter Yba.func25, Yba.ntmps25
  go_wp2_with fail
  refine (find0 none 0 bm t w ht).mono ?_
  rintro e w' ⟨rfl, rfl⟩
  go_wp2_with fail
  refine (newQueue_any _ _ _ _ _ (by omega)).mono ?_
  rintro e w2 ⟨rfl, hw2⟩
  have hH : w2.heap[B]? = some (.cells #[.pointer (some ⟨bm, 0, none⟩), .string party, .slice none 0 0, .int .i64 0, .map none, .pointer none, .pointer none] 93 (0, 0)) := by
    rw [hw2, Below.heap_alloc _ _ _ (by simp; omega), ← hB]; exact heap_alloc_new w' _
  have hs2 : w2.heap.size = B + 2 := by rw [hw2]; simp [hB]
  have hbel : Below B w' w2 := by rw [hw2]; exact ((Below.refl _ _).alloc (by omega) _).alloc (by simp; omega) _
  have hp2 := (hbel.cell (p := ⟨be, 1, none⟩) hbe).trans hp
  have hn2 := (hbel.cell (p := ⟨bm, 0, none⟩) hbm).trans hn
  have hd2 := (hbel.cell (p := ⟨bm, 11, none⟩) hbm).trans hd
  have c2 : w2.cell? ⟨B, 2, none⟩ = some (.slice none 0 0) := cell_of hH rfl
  have c3 : w2.cell? ⟨B, 3, none⟩ = some (.int .i64 0) := cell_of hH rfl
  have f2 := frozen_of (i := 2) hH
  have f3 := frozen_of (i := 3) hH
  have hbe2 : be < w2.heap.size := by omega
  have c5 : w2.cell? ⟨B, 5, none⟩ = some (.pointer none) := cell_of hH rfl
  have f5 := frozen_of (i := 5) hH
  have hB2 : B < w2.heap.size := by omega
  have hbm2 : bm < w2.heap.size := by omega
  have HH := hide hH
  have HS := hide hs2
  have HB := hide hbel
  have HBw := hide hB
  have HP2 := hide hp2
  clear hH hs2 hbel hw2 hB hp ht hn hd hl
  have heq := fun wq => run_eql_map_nil (P := Yba.prog) wq 57 9 62 (some pb) Yba.underlying57
  go_wp2
  obtain ⟨w3, hw3⟩ : ∃ w3, w3 = (((w2.setCell ⟨B, 2, none⟩ (.slice (some ⟨B, 6, none⟩) 0 1)).setCell ⟨B, 3, none⟩ (.int .i64 0)).setCell ⟨B, 5, none⟩ (.pointer (some ⟨w2.heap.size, 0, none⟩))).alloc (.cells #[.string nm, .string party, .int .u64 0, .int .u64 0, .int .u64 0, .int .u64 0, .int .u64 0, .int .u64 0, .int .u64 0, .int .u64 0, .int .u64 0, .int .u64 0, .bool false] 95) := ⟨_, rfl⟩
  rw [← hw3]
  have hs3 : w3.heap.size = B + 3 := by rw [hw3]; simp [unhide HS]
  have hH3 : w3.heap[B]? = some (.cells (holdCells B bm party (some ⟨B + 2, 0, none⟩)) 93 (0, 0)) := by
    rw [hw3, Below.heap_alloc _ _ _ (by simp [unhide HS] <;> omega), unhide HS]
    exact heap_setCell_same _ _ _ _ _ _ (heap_setCell_same _ _ _ _ _ _ (heap_setCell_same _ _ _ _ _ _ (unhide HH)))
  have hP3 : w3.heap[pb]? = some (.map es clock) := by
    rw [hw3, Below.heap_alloc _ _ _ (by simp [unhide HS] <;> omega), Below.heap_setCell _ _ _ _ (by simp; omega), Below.heap_setCell _ _ _ _ (by simp; omega), Below.heap_setCell _ _ _ _ (by simp; omega)]
    exact ((unhide HB).block pb hpbB).trans (unhide HPM)
  have hp3 : w3.cell? ⟨be, 1, none⟩ = some (.map (some pb)) := by
    rw [hw3, World.cell?_alloc_past _ _ _ (by simp <;> omega), World.cell?_setCell_other _ _ _ _ (by intro h; simp at h <;> omega), World.cell?_setCell_other _ _ _ _ (by intro h; simp at h <;> omega), World.cell?_setCell_other _ _ _ _ (by intro h; simp at h <;> omega)]
    exact unhide HP2
  have hE3 : ∀ i, i ≠ 1 → w3.cell? ⟨be, i, none⟩ = w'.cell? ⟨be, i, none⟩ := by
    intro i hi
    rw [hw3, World.cell?_alloc_past _ _ _ (by simp <;> omega), World.cell?_setCell_other _ _ _ _ (by intro h; simp at h <;> omega), World.cell?_setCell_other _ _ _ _ (by intro h; simp at h <;> omega), World.cell?_setCell_other _ _ _ _ (by intro h; simp at h <;> omega)]
    exact (unhide HB).cell hbe
  have hT3 : Turn [be, pb] w' w3 := by
    rw [hw3]
    exact (((((Turn.of_below (by rw [unhide HBw]; exact unhide HB) _).setCell (.inr (by rw [unhide HBw]; exact Nat.le_refl _)) _).setCell (.inr (by rw [unhide HBw]; exact Nat.le_refl _)) _).setCell (.inr (by rw [unhide HBw]; exact Nat.le_refl _)) _).alloc _)
  have hF3 : ∀ i, w3.frozen? ⟨be, i, none⟩ = w'.frozen? ⟨be, i, none⟩ := by
    intro i
    rw [hw3, frozen?_alloc_cells, World.frozen?_setCell, World.frozen?_setCell, World.frozen?_setCell]
    exact (unhide HB).frozen hbe
  have hM3 : MargOk w3 (some ⟨B + 2, 0, none⟩) true nm party B := by
    refine .inr ⟨rfl, B + 2, rfl, by omega, ?_, ?_⟩
    · rw [hw3]
      have key : ∀ (w1 : World) (o : Array Value) (v : Value), w1.heap.size = B + 2 → o[0]? = some v → (w1.alloc (.cells o 95)).cell? ⟨B + 2, 0, none⟩ = some v := fun w1 o v h1 h2 => by
        rw [← h1]; simp [h2]
      exact key _ _ _ (by simp [unhide HS]) rfl
    · rw [hw3]
      have key : ∀ (w1 : World) (o : Array Value) (v : Value), w1.heap.size = B + 2 → o[1]? = some v → (w1.alloc (.cells o 95)).cell? ⟨B + 2, 1, none⟩ = some v := fun w1 o v h1 h2 => by
        rw [← h1]; simp [h2]
      exact key _ _ _ (by simp [unhide HS]) rfl
  have HM3 := hide hM3
  have hbe3 : be < w3.heap.size := by omega
  have hpb3 : pb < w3.heap.size := by omega
  have HH3 := hide hH3
  have HP3 := hide hP3
  have HE3 := hide hE3
  have HT3 := hide hT3
  have HF3 := hide hF3
  have HS3 := hide hs3
  rw [unhide HS]
  clear hH3 hP3 hE3 hT3 hF3 hw3 hs3 HH HP2 HB HS hp2 hn2 hd2 c2 c3 f2 f3 hbe2 heq c5 f5 hB2 hbm2 hM3
  go_region_with (go_at_call 33; refine (insert0 _ (some ⟨B, 0, none⟩) _ (by simp)).mono ?_; rintro e w4 ⟨g, c, rfl, hown, hbel⟩; have hp4 := (hbel.cell (p := ⟨be, 1, none⟩) (by simp; omega)).trans ((World.cell?_alloc_past _ _ _ (by simpa using hbe3)).trans hp3); have hupd := upd_new (P := Yba.prog) (w := w4) (v := .slice (some ⟨g, 0, none⟩) 1 c) Yba.underlying57 Yba.underlying9 (str_key party) ((hbel.block pb (by simp; omega)).trans ((Below.heap_alloc _ _ _ (by simpa using hpb3)).trans (unhide HP3))) (unhide HM))
  all_goals
    have HO := hide hown
    have HBL := hide hbel
    clear hown hbel hupd hp4
    go_wp2
    go_ret
    have hs3 := unhide HS3
    refine ⟨rfl, g, c, ?_, ?_⟩
    · have h1 := ((unhide HO).lt g rfl).1
      simp at h1
      omega
    · have hb := unhide HBL
      have hT4 : Turn [] w3 w4 := ⟨hb.os, hb.tape, hb.output, by have := hb.size; simp at this; omega, fun k hk _ => (hb.block k (by simp; omega)).trans (Below.heap_alloc _ _ _ hk)⟩
      exact added_close (unhide HH3) (unhide HM3) hp3 (unhide HE3) (unhide HF3) (unhide HT3) ⟨_, _, unhide HP3⟩ (.inl (by simp)) hT4 (by simp) (by simp) (by simp) (by simp) (by simp) (unhide HO)

end Go.Proofs.Ybulkapzy
