import Derived.Test.YbulkapzyAddD
import Derived.Test.YbulkapzyIns4
namespace Go.Proofs.Ybulkapzy
open Go.RowKit

set_option maxRecDepth 20000 in
set_option maxHeartbeats 2000000 in
theorem addOneEnd (B be bm pb clock k g0 c0 bh0 bq : Nat) (es : Array MapEntry) (en : MapEntry) (s t : Int) (nm party : ByteArray) (w : World) (hB : w.heap.size = B)
    (hp : w.cell? ⟨be, 1, none⟩ = some (.map (some pb))) (hpm : w.heap[pb]? = some (.map es clock)) (hhit : Instr.findNow .string (.string party) es.toList 0 = some (some (k, .slice (some ⟨g0, 0, none⟩) 1 c0))) (hke : es[k]? = some en) (hkk : en.key = .string party)
    (hrow : w.ownsRow 0 86 1 (.slice (some ⟨g0, 0, none⟩) 1 c0) 1 [.pointer (some ⟨bh0, 0, none⟩)]) (hbg : be ≠ g0) (hm0 : w.cell? ⟨bh0, 0, none⟩ = some (.pointer (some ⟨bq, 0, none⟩))) (hs0 : w.cell? ⟨bq, 1, none⟩ = some (.int .i64 s)) (hst : s < t)
    (ht : w.cell? ⟨bm, 1, none⟩ = some (.int .i64 t)) (hn : w.cell? ⟨bm, 0, none⟩ = some (.string nm)) (hd : w.cell? ⟨bm, 11, none⟩ = some (.bool true)) :
    Calls Yba.prog 25 #[.pointer (some ⟨be, 0, none⟩), .pointer (some ⟨bm, 0, none⟩), .string party] w fun e w' => e = .returned (.pointer (some ⟨B, 0, none⟩)) ∧
      ∃ g c, Added w w' B be bm pb nm party true (es.modify k fun e => { e with key := .string party, val := .slice (some ⟨g, 0, none⟩) 2 c }) clock g 2 c [.pointer (some ⟨bh0, 0, none⟩), .pointer (some ⟨B, 0, none⟩)] [be, pb, g0] := by
  have hl := look_hit (P := Yba.prog) (w := w) Yba.underlying57 Yba.underlying9 (str_key party) hpm hhit
  have hgc : w.cell? ⟨g0, 0, none⟩ = some (.pointer (some ⟨bh0, 0, none⟩)) := by have h := hrow.cellAt 0 (by omega); simpa using h
  have hg0B : g0 < B := by rw [← hB]; exact World.block_lt_of_cell? _ _ hgc
  have hpg : pb ≠ g0 := by
    rintro rfl
    obtain ⟨cur, hcur⟩ := ownsRow_block hrow
    rw [hpm] at hcur
    cases hcur
  have hpbB : pb < B := by rw [← hB]; exact lt_of_block hpm
  have HM := hide hhit
  have HKE := hide hke
  have HKK := hide hkk
  have HROW := hide hrow
  have HPM := hide hpm
  clear hhit hpm hke hkk hrow
  have hbe : be < B := by rw [← hB]; exact World.block_lt_of_cell? _ _ hp
  have hbm : bm < B := by rw [← hB]; exact World.block_lt_of_cell? _ _ ht
  go_enter Yba.func25, Yba.ntmps25
  go_wp2_with fail
  have hfind := find1 g0 c0 bh0 bq bm s t w hgc hm0 hs0 ht
  rw [show at1 s t = 1 from if_pos hst, show (s == t) = false from by rw [beq_eq_false_iff_ne]; omega] at hfind
  refine hfind.mono ?_
  rintro e w' ⟨rfl, rfl⟩
  clear hfind hgc hm0 hs0
  go_wp2_with fail
  refine (newQueue_any _ _ _ _ _ (by omega)).mono ?_
  rintro e w2 ⟨rfl, hw2⟩
  have hH : w2.heap[B]? = some (.cells #[.pointer (some ⟨bm, 0, none⟩), .string party, .slice none 0 0, .int .i64 0, .map none, .pointer none, .pointer none] 93 (0, 0)) := by
    rw [hw2, Below.heap_alloc _ _ _ (by simp; omega), ← hB]; exact heap_alloc_new w' _
  have hs2 : w2.heap.size = B + 2 := by rw [hw2]; simp [hB]
  have hbel : Below B w' w2 := by rw [hw2]; exact ((Below.refl _ _).alloc (by omega) _).alloc (by simp; omega) _
  have hp2 := (hbel.cell (p := ⟨be, 1, none⟩) hbe).trans hp
  have hn2 := (hbel.cell (p := ⟨bm, 0, none⟩) hbm).trans hn
  have hd2 := (hbel.cell (p := ⟨bm, 11, none⟩) hbm).trans hd
  have c2 : w2.cell? ⟨B, 2, none⟩ = some (.slice none 0 0) := cell_of hH rfl
  have c3 : w2.cell? ⟨B, 3, none⟩ = some (.int .i64 0) := cell_of hH rfl
  have f2 := frozen_of (i := 2) hH
  have f3 := frozen_of (i := 3) hH
  have hbe2 : be < w2.heap.size := by omega
  have c5 : w2.cell? ⟨B, 5, none⟩ = some (.pointer none) := cell_of hH rfl
  have f5 := frozen_of (i := 5) hH
  have hB2 : B < w2.heap.size := by omega
  have hbm2 : bm < w2.heap.size := by omega
  have HH := hide hH
  have HS := hide hs2
  have HB := hide hbel
  have HBw := hide hB
  have HP2 := hide hp2
  clear hH hs2 hbel hw2 hB hp ht hn hd hl
  have heq := fun wq => run_eql_map_nil (P := Yba.prog) wq 57 9 62 (some pb) Yba.underlying57
  go_wp2
  obtain ⟨w3, hw3⟩ : ∃ w3, w3 = (((w2.setCell ⟨B, 2, none⟩ (.slice (some ⟨B, 6, none⟩) 0 1)).setCell ⟨B, 3, none⟩ (.int .i64 0)).setCell ⟨B, 5, none⟩ (.pointer (some ⟨w2.heap.size, 0, none⟩))).alloc (.cells #[.string nm, .string party, .int .u64 0, .int .u64 0, .int .u64 0, .int .u64 0, .int .u64 0, .int .u64 0, .int .u64 0, .int .u64 0, .int .u64 0, .int .u64 0, .bool false] 95) := ⟨_, rfl⟩
  rw [← hw3]
  have hs3 : w3.heap.size = B + 3 := by rw [hw3]; simp [unhide HS]
  have hH3 : w3.heap[B]? = some (.cells (holdCells B bm party (some ⟨B + 2, 0, none⟩)) 93 (0, 0)) := by
    rw [hw3, Below.heap_alloc _ _ _ (by simp [unhide HS] <;> omega), unhide HS]
    exact heap_setCell_same _ _ _ _ _ _ (heap_setCell_same _ _ _ _ _ _ (heap_setCell_same _ _ _ _ _ _ (unhide HH)))
  have hP3 : w3.heap[pb]? = some (.map es clock) := by
    rw [hw3, Below.heap_alloc _ _ _ (by simp [unhide HS] <;> omega), Below.heap_setCell _ _ _ _ (by simp; omega), Below.heap_setCell _ _ _ _ (by simp; omega), Below.heap_setCell _ _ _ _ (by simp; omega)]
    exact ((unhide HB).block pb hpbB).trans (unhide HPM)
  have hp3 : w3.cell? ⟨be, 1, none⟩ = some (.map (some pb)) := by
    rw [hw3, World.cell?_alloc_past _ _ _ (by simp <;> omega), World.cell?_setCell_other _ _ _ _ (by intro h; simp at h <;> omega), World.cell?_setCell_other _ _ _ _ (by intro h; simp at h <;> omega), World.cell?_setCell_other _ _ _ _ (by intro h; simp at h <;> omega)]
    exact unhide HP2
  have hE3 : ∀ i, i ≠ 1 → w3.cell? ⟨be, i, none⟩ = w'.cell? ⟨be, i, none⟩ := by
    intro i hi
    rw [hw3, World.cell?_alloc_past _ _ _ (by simp <;> omega), World.cell?_setCell_other _ _ _ _ (by intro h; simp at h <;> omega), World.cell?_setCell_other _ _ _ _ (by intro h; simp at h <;> omega), World.cell?_setCell_other _ _ _ _ (by intro h; simp at h <;> omega)]
    exact (unhide HB).cell hbe
  have hT3 : Turn [be, pb, g0] w' w3 := by
    rw [hw3]
    exact (((((Turn.of_below (by rw [unhide HBw]; exact unhide HB) _).setCell (.inr (by rw [unhide HBw]; exact Nat.le_refl _)) _).setCell (.inr (by rw [unhide HBw]; exact Nat.le_refl _)) _).setCell (.inr (by rw [unhide HBw]; exact Nat.le_refl _)) _).alloc _)
  have hF3 : ∀ i, w3.frozen? ⟨be, i, none⟩ = w'.frozen? ⟨be, i, none⟩ := by
    intro i
    rw [hw3, frozen?_alloc_cells, World.frozen?_setCell, World.frozen?_setCell, World.frozen?_setCell]
    exact (unhide HB).frozen hbe
  have hM3 : MargOk w3 (some ⟨B + 2, 0, none⟩) true nm party B := by
    refine .inr ⟨rfl, B + 2, rfl, by omega, ?_, ?_⟩
    · rw [hw3]
      have key : ∀ (w1 : World) (o : Array Value) (v : Value), w1.heap.size = B + 2 → o[0]? = some v → (w1.alloc (.cells o 95)).cell? ⟨B + 2, 0, none⟩ = some v := fun w1 o v h1 h2 => by
        rw [← h1]; simp [h2]
      exact key _ _ _ (by simp [unhide HS]) rfl
    · rw [hw3]
      have key : ∀ (w1 : World) (o : Array Value) (v : Value), w1.heap.size = B + 2 → o[1]? = some v → (w1.alloc (.cells o 95)).cell? ⟨B + 2, 1, none⟩ = some v := fun w1 o v h1 h2 => by
        rw [← h1]; simp [h2]
      exact key _ _ _ (by simp [unhide HS]) rfl
  have HM3 := hide hM3
  have hg3 : w3.heap[g0]? = w'.heap[g0]? := by
    rw [hw3, Below.heap_alloc _ _ _ (by simp [unhide HS] <;> omega), Below.heap_setCell _ _ _ _ (by simp; omega), Below.heap_setCell _ _ _ _ (by simp; omega), Below.heap_setCell _ _ _ _ (by simp; omega)]
    exact (unhide HB).block g0 hg0B
  have HG3 := hide hg3
  clear hg3
  have hg03 : g0 < w3.heap.size := by omega
  have hbe3 : be < w3.heap.size := by omega
  have hpb3 : pb < w3.heap.size := by omega
  have HH3 := hide hH3
  have HP3 := hide hP3
  have HE3 := hide hE3
  have HT3 := hide hT3
  have HF3 := hide hF3
  have HS3 := hide hs3
  rw [unhide HS]
  clear hH3 hP3 hE3 hT3 hF3 hw3 hs3 HH HP2 HB HS hp2 hn2 hd2 c2 c3 f2 f3 hbe2 heq c5 f5 hB2 hbm2 hM3
  have hr3 : ∀ o, (w3.alloc o).ownsRow 0 86 1 (.slice (some ⟨g0, 0, none⟩) 1 c0) 1 [.pointer (some ⟨bh0, 0, none⟩)] := by
    intro o
    refine ownsRow_kept (unhide HROW) (Nat.zero_le _) ?_
    rw [Below.heap_alloc _ _ _ (by omega)]
    exact unhide HG3
  have HR3 := hide hr3
  clear hr3
  go_region_with (go_at_call 33; refine (insertEnd g0 c0 _ (some ⟨bh0, 0, none⟩) (some ⟨B, 0, none⟩) _ (by exact unhide HR3 _) (by simp)).mono ?_; rintro e w4 ⟨g, c, rfl, hown, hbel⟩; have hp4 := (hbel.cell (p := ⟨be, 1, none⟩) (by simp; omega) (by simp [hbg])).trans ((World.cell?_alloc_past _ _ _ (by simpa using hbe3)).trans hp3); have hupd := upd_old (P := Yba.prog) (w := w4) (v := .slice (some ⟨g, 0, none⟩) 2 c) Yba.underlying57 Yba.underlying9 (str_key party) ((hbel.block pb (by simp; omega) (by simp [hpg])).trans ((Below.heap_alloc _ _ _ (by simpa using hpb3)).trans (unhide HP3))) (unhide HM) (unhide HKE) (unhide HKK))
  all_goals
    have HO := hide hown
    have HBL := hide hbel
    clear hown hbel hupd hp4
    go_wp2
    go_ret
    have hs3 := unhide HS3
    refine ⟨rfl, g, c, ?_⟩
    have hb := unhide HBL
    have hT4 : Turn [g0] w3 w4 := ⟨hb.os, hb.tape, hb.output, by have := hb.size; simp at this; omega, fun k hk hn => (hb.block k (by simp; omega) hn).trans (Below.heap_alloc _ _ _ hk)⟩
    exact added_close (unhide HH3) (unhide HM3) hp3 (unhide HE3) (unhide HF3) (unhide HT3) ⟨_, _, unhide HP3⟩ (.inl (by simp)) hT4 (by simp) (by simp; omega) (by simp [hbg]) (by simp [hpg]) (by intro a ha; cases ha; simp; omega) (unhide HO)


set_option maxRecDepth 20000 in
set_option maxHeartbeats 2000000 in
theorem addOneFront (B be bm pb clock k g0 c0 bh0 bq : Nat) (es : Array MapEntry) (en : MapEntry) (s t : Int) (nm party : ByteArray) (w : World) (hB : w.heap.size = B)
    (hp : w.cell? ⟨be, 1, none⟩ = some (.map (some pb))) (hpm : w.heap[pb]? = some (.map es clock)) (hhit : Instr.findNow .string (.string party) es.toList 0 = some (some (k, .slice (some ⟨g0, 0, none⟩) 1 c0))) (hke : es[k]? = some en) (hkk : en.key = .string party)
    (hrow : w.ownsRow 0 86 1 (.slice (some ⟨g0, 0, none⟩) 1 c0) 1 [.pointer (some ⟨bh0, 0, none⟩)]) (hbg : be ≠ g0) (hm0 : w.cell? ⟨bh0, 0, none⟩ = some (.pointer (some ⟨bq, 0, none⟩))) (hs0 : w.cell? ⟨bq, 1, none⟩ = some (.int .i64 s)) (hst : t < s)
    (ht : w.cell? ⟨bm, 1, none⟩ = some (.int .i64 t)) (hn : w.cell? ⟨bm, 0, none⟩ = some (.string nm)) (hd : w.cell? ⟨bm, 11, none⟩ = some (.bool false)) :
    Calls Yba.prog 25 #[.pointer (some ⟨be, 0, none⟩), .pointer (some ⟨bm, 0, none⟩), .string party] w fun e w' => e = .returned (.pointer (some ⟨B, 0, none⟩)) ∧
      ∃ g c, Added w w' B be bm pb nm party false (es.modify k fun e => { e with key := .string party, val := .slice (some ⟨g, 0, none⟩) 2 c }) clock g 2 c [.pointer (some ⟨B, 0, none⟩), .pointer (some ⟨bh0, 0, none⟩)] [be, pb, g0] := by
  have hl := look_hit (P := Yba.prog) (w := w) Yba.underlying57 Yba.underlying9 (str_key party) hpm hhit
  have hgc : w.cell? ⟨g0, 0, none⟩ = some (.pointer (some ⟨bh0, 0, none⟩)) := by have h := hrow.cellAt 0 (by omega); simpa using h
  have hg0B : g0 < B := by rw [← hB]; exact World.block_lt_of_cell? _ _ hgc
  have hpg : pb ≠ g0 := by
    rintro rfl
    obtain ⟨cur, hcur⟩ := ownsRow_block hrow
    rw [hpm] at hcur
    cases hcur
  have hpbB : pb < B := by rw [← hB]; exact lt_of_block hpm
  have HM := hide hhit
  have HKE := hide hke
  have HKK := hide hkk
  have HROW := hide hrow
  have HPM := hide hpm
  clear hhit hpm hke hkk hrow
  have hbe : be < B := by rw [← hB]; exact World.block_lt_of_cell? _ _ hp
  have hbm : bm < B := by rw [← hB]; exact World.block_lt_of_cell? _ _ ht
  go_enter Yba.func25, Yba.ntmps25
  go_wp2_with fail
  have hfind := find1 g0 c0 bh0 bq bm s t w hgc hm0 hs0 ht
  rw [show at1 s t = 0 from if_neg (by omega), show (s == t) = false from by rw [beq_eq_false_iff_ne]; omega] at hfind
  refine hfind.mono ?_
  rintro e w' ⟨rfl, rfl⟩
  clear hfind hgc hm0 hs0
  go_wp2_with fail
  refine (newQueue_any _ _ _ _ _ (by omega)).mono ?_
  rintro e w2 ⟨rfl, hw2⟩
  have hH : w2.heap[B]? = some (.cells #[.pointer (some ⟨bm, 0, none⟩), .string party, .slice none 0 0, .int .i64 0, .map none, .pointer none, .pointer none] 93 (0, 0)) := by
    rw [hw2, Below.heap_alloc _ _ _ (by simp; omega), ← hB]; exact heap_alloc_new w' _
  have hs2 : w2.heap.size = B + 2 := by rw [hw2]; simp [hB]
  have hbel : Below B w' w2 := by rw [hw2]; exact ((Below.refl _ _).alloc (by omega) _).alloc (by simp; omega) _
  have hp2 := (hbel.cell (p := ⟨be, 1, none⟩) hbe).trans hp
  have hn2 := (hbel.cell (p := ⟨bm, 0, none⟩) hbm).trans hn
  have hd2 := (hbel.cell (p := ⟨bm, 11, none⟩) hbm).trans hd
  have c2 : w2.cell? ⟨B, 2, none⟩ = some (.slice none 0 0) := cell_of hH rfl
  have c3 : w2.cell? ⟨B, 3, none⟩ = some (.int .i64 0) := cell_of hH rfl
  have f2 := frozen_of (i := 2) hH
  have f3 := frozen_of (i := 3) hH
  have hbe2 : be < w2.heap.size := by omega
  have HH := hide hH
  have HS := hide hs2
  have HB := hide hbel
  have HBw := hide hB
  have HP2 := hide hp2
  clear hH hs2 hbel hw2 hB hp ht hn hd hl
  have heq := fun wq => run_eql_map_nil (P := Yba.prog) wq 57 9 62 (some pb) Yba.underlying57
  go_wp2
  obtain ⟨w3, hw3⟩ : ∃ w3, w3 = (w2.setCell ⟨B, 2, none⟩ (.slice (some ⟨B, 6, none⟩) 0 1)).setCell ⟨B, 3, none⟩ (.int .i64 0) := ⟨_, rfl⟩
  rw [← hw3]
  have hs3 : w3.heap.size = B + 2 := by rw [hw3]; simp [unhide HS]
  have hH3 : w3.heap[B]? = some (.cells (holdCells B bm party none) 93 (0, 0)) := by
    rw [hw3]
    exact heap_setCell_same _ _ _ _ _ _ (heap_setCell_same _ _ _ _ _ _ (unhide HH))
  have hP3 : w3.heap[pb]? = some (.map es clock) := by
    rw [hw3, Below.heap_setCell _ _ _ _ (by simp; omega), Below.heap_setCell _ _ _ _ (by simp; omega)]
    exact ((unhide HB).block pb hpbB).trans (unhide HPM)
  have hp3 : w3.cell? ⟨be, 1, none⟩ = some (.map (some pb)) := by
    rw [hw3, World.cell?_setCell_other _ _ _ _ (by intro h; simp at h <;> omega), World.cell?_setCell_other _ _ _ _ (by intro h; simp at h <;> omega)]
    exact unhide HP2
  have hE3 : ∀ i, i ≠ 1 → w3.cell? ⟨be, i, none⟩ = w'.cell? ⟨be, i, none⟩ := by
    intro i hi
    rw [hw3, World.cell?_setCell_other _ _ _ _ (by intro h; simp at h <;> omega), World.cell?_setCell_other _ _ _ _ (by intro h; simp at h <;> omega)]
    exact (unhide HB).cell hbe
  have hT3 : Turn [be, pb, g0] w' w3 := by
    rw [hw3]
    exact (((Turn.of_below (by rw [unhide HBw]; exact unhide HB) _).setCell (.inr (by rw [unhide HBw]; exact Nat.le_refl _)) _).setCell (.inr (by rw [unhide HBw]; exact Nat.le_refl _)) _)
  have hF3 : ∀ i, w3.frozen? ⟨be, i, none⟩ = w'.frozen? ⟨be, i, none⟩ := by
    intro i
    rw [hw3, World.frozen?_setCell, World.frozen?_setCell]
    exact (unhide HB).frozen hbe
  have hg3 : w3.heap[g0]? = w'.heap[g0]? := by
    rw [hw3, Below.heap_setCell _ _ _ _ (by simp; omega), Below.heap_setCell _ _ _ _ (by simp; omega)]
    exact (unhide HB).block g0 hg0B
  have HG3 := hide hg3
  clear hg3
  have hg03 : g0 < w3.heap.size := by omega
  have hbe3 : be < w3.heap.size := by omega
  have hpb3 : pb < w3.heap.size := by omega
  have HH3 := hide hH3
  have HP3 := hide hP3
  have HE3 := hide hE3
  have HT3 := hide hT3
  have HF3 := hide hF3
  have HS3 := hide hs3
  clear hH3 hP3 hE3 hT3 hF3 hw3 hs3 HH HP2 HB HS hp2 hn2 hd2 c2 c3 f2 f3 hbe2 heq
  have hr3 : ∀ o, (w3.alloc o).ownsRow 0 86 1 (.slice (some ⟨g0, 0, none⟩) 1 c0) 1 [.pointer (some ⟨bh0, 0, none⟩)] := by
    intro o
    refine ownsRow_kept (unhide HROW) (Nat.zero_le _) ?_
    rw [Below.heap_alloc _ _ _ (by omega)]
    exact unhide HG3
  have HR3 := hide hr3
  clear hr3
  go_region_with (go_at_call 33; refine (insertFront g0 c0 _ (some ⟨bh0, 0, none⟩) (some ⟨B, 0, none⟩) _ (by exact unhide HR3 _) (by exact heap_alloc_new w3 _) (by omega)).mono ?_; rintro e w4 ⟨g, c, rfl, hown, hbel⟩; have hp4 := (hbel.cell (p := ⟨be, 1, none⟩) (by simp; omega) (by simp [hbg])).trans ((World.cell?_alloc_past _ _ _ (by simpa using hbe3)).trans hp3); have hupd := upd_old (P := Yba.prog) (w := w4) (v := .slice (some ⟨g, 0, none⟩) 2 c) Yba.underlying57 Yba.underlying9 (str_key party) ((hbel.block pb (by simp; omega) (by simp [hpg])).trans ((Below.heap_alloc _ _ _ (by simpa using hpb3)).trans (unhide HP3))) (unhide HM) (unhide HKE) (unhide HKK))
  all_goals
    have HO := hide hown
    have HBL := hide hbel
    clear hown hbel hupd hp4
    go_wp2
    go_ret
    have hs3 := unhide HS3
    refine ⟨rfl, g, c, ?_⟩
    have hb := unhide HBL
    have hT4 : Turn [g0] w3 w4 := ⟨hb.os, hb.tape, hb.output, by have := hb.size; simp at this; omega, fun k hk hn => (hb.block k (by simp; omega) hn).trans (Below.heap_alloc _ _ _ hk)⟩
    exact added_close (unhide HH3) (.inl ⟨rfl, rfl⟩) hp3 (unhide HE3) (unhide HF3) (unhide HT3) ⟨_, _, unhide HP3⟩ (.inl (by simp)) hT4 (by simp) (by simp; omega) (by simp [hbg]) (by simp [hpg]) (by simp) (unhide HO)

end Go.Proofs.Ybulkapzy
