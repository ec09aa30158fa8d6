import Derived.Test.YbulkapzyTurn
import Derived.Deep.RegionLaw
import Derived.Deep.RegionWith
namespace Go.Proofs.Ybulkapzy
open Go.RowKit

theorem cell_of {w : World} {b i : Nat} {cs : Array Value} {t : TypeId} {v : Value} (h : w.heap[b]? = some (.cells cs t (0, 0))) (hi : cs[i]? = some v) : w.cell? ⟨b, i, none⟩ = some v := by
  simp [World.cell?, h, hi]
theorem frozen_of {w : World} {b i : Nat} {cs : Array Value} {t : TypeId} (h : w.heap[b]? = some (.cells cs t (0, 0))) : w.frozen? ⟨b, i, none⟩ = false := by
  simp [World.frozen?, h]

/-- A holding's block: its market, its party, its margin. -/
def holdCells (B bm : Nat) (party : ByteArray) (mg : Option Addr) : Array Value :=
  #[.pointer (some ⟨bm, 0, none⟩), .string party, .slice (some ⟨B, 6, none⟩) 0 1, .int .i64 0, .map none, .pointer mg, .pointer none]

/-- What a holding keeps for the margin hook: nothing, or a block that starts with the market's name and the party's. -/
def MargOk (w : World) (mg : Option Addr) (dv : Bool) (nm party : ByteArray) (B : Nat) : Prop :=
  (dv = false ∧ mg = none) ∨ (dv = true ∧ ∃ bg, mg = some ⟨bg, 0, none⟩ ∧ B < bg ∧ w.cell? ⟨bg, 0, none⟩ = some (.string nm) ∧ w.cell? ⟨bg, 1, none⟩ = some (.string party))

/-- What 'addHolding' leaves: B the new holding, pb the block of the parties' map. -/
structure Added (w w' : World) (B be bm pb : Nat) (nm party : ByteArray) (dv : Bool) (es : Array MapEntry) (clock : Nat) (g n c : Nat) (xs : List Value) (L : List Nat) : Prop where
  hold : ∃ mg, w'.heap[B]? = some (.cells (holdCells B bm party mg) 93 (0, 0)) ∧ MargOk w' mg dv nm party B
  parties : w'.cell? ⟨be, 1, none⟩ = some (.map (some pb))
  map : w'.heap[pb]? = some (.map es clock)
  row : w'.ownsRow 0 86 1 (.slice (some ⟨g, 0, none⟩) n c) n xs
  eng : ∀ i, i ≠ 1 → w'.cell? ⟨be, i, none⟩ = w.cell? ⟨be, i, none⟩
  engFz : ∀ i, w'.frozen? ⟨be, i, none⟩ = w.frozen? ⟨be, i, none⟩
  turn : Turn L w w'

theorem Turn.heap {L : List Nat} {w w' : World} (h : Turn L w w') {k : Nat} {o : Obj} (hk : w.heap[k]? = some o) (hn : k ∉ L) : w'.heap[k]? = some o := (h.block k (lt_of_block hk) hn).trans hk

theorem Turn.trans2 {L R : List Nat} {a b c : World} (h : Turn L a b) (k : Turn R b c) (hR : ∀ q, q ∈ R → q ∈ L ∨ a.heap.size ≤ q) : Turn L a c :=
  ⟨k.os.trans h.os, k.tape.trans h.tape, k.output.trans h.output, Nat.le_trans h.size k.size, fun q hq hn => (k.block q (Nat.lt_of_lt_of_le hq h.size) (fun hm => by rcases hR q hm with h1 | h1; exact hn h1; omega)).trans (h.block q hq hn)⟩

theorem ownsRow_kept {w w' : World} {b0 b1 g n c : Nat} {e : TypeId} {z : Nat} {xs : List Value} (h : w.ownsRow b0 e z (.slice (some ⟨g, 0, none⟩) n c) n xs) (hb : b1 ≤ g) (hk : w'.heap[g]? = w.heap[g]?) : w'.ownsRow b1 e z (.slice (some ⟨g, 0, none⟩) n c) n xs := by
  refine ⟨h.1, ?_⟩
  rcases h.2 with ⟨h0, _⟩ | ⟨g', c', cur, hv, h1, h2, h3⟩
  · cases h0
  · cases hv
    exact .inr ⟨g, c, cur, rfl, hb, hk.trans h2, h3⟩

theorem ownsRow_block {w : World} {b0 g n c : Nat} {e : TypeId} {z : Nat} {xs : List Value} (h : w.ownsRow b0 e z (.slice (some ⟨g, 0, none⟩) n c) n xs) : ∃ cur, w.heap[g]? = some (.cells cur e (0, 0)) := by
  rcases h.2 with ⟨h0, _⟩ | ⟨g', c', cur, hv, h1, h2, h3⟩
  · cases h0
  · cases hv
    exact ⟨cur, h2⟩

theorem cells_of_cell {w : World} {b i : Nat} {v : Value} (h : w.cell? ⟨b, i, none⟩ = some v) : ∃ cs t f, w.heap[b]? = some (.cells cs t f) := by
  unfold World.cell? at h
  split at h
  · exact ⟨_, _, _, by assumption⟩
  · cases h

theorem added_close {w w3 w4 : World} {B be bm pb clock g n c b0 : Nat} {nm party : ByteArray} {dv : Bool} {mg : Option Addr} {es : Array MapEntry} {xs : List Value} {L R : List Nat}
    (hH3 : w3.heap[B]? = some (.cells (holdCells B bm party mg) 93 (0, 0))) (hM : MargOk w3 mg dv nm party B) (hp3 : w3.cell? ⟨be, 1, none⟩ = some (.map (some pb)))
    (hE3 : ∀ i, i ≠ 1 → w3.cell? ⟨be, i, none⟩ = w.cell? ⟨be, i, none⟩) (hF3 : ∀ i, w3.frozen? ⟨be, i, none⟩ = w.frozen? ⟨be, i, none⟩) (hT3 : Turn L w w3)
    (hpm : ∃ es0 c0, w3.heap[pb]? = some (.map es0 c0)) (hpbL : pb ∈ L ∨ w.heap.size ≤ pb) (hT4 : Turn R w3 w4) (hR : ∀ k, k ∈ R → k ∈ L ∨ w.heap.size ≤ k)
    (hBR : B ∉ R) (hbeR : be ∉ R) (hpR : pb ∉ R) (hMR : ∀ a, mg = some a → a.block ∉ R) (hown : w4.ownsRow b0 86 1 (.slice (some ⟨g, 0, none⟩) n c) n xs) :
    Added w (setB w4 pb (.map es clock)) B be bm pb nm party dv es clock g n c xs L := by
  obtain ⟨es0, c0, hpm⟩ := hpm
  have hpm4 := hT4.heap hpm hpR
  have hB4 := hT4.heap hH3 hBR
  have apart : ∀ k cs t f, w4.heap[k]? = some (.cells cs t f) → k ≠ pb := by
    intro k cs t f hk e
    rw [e, hpm4] at hk
    cases hk
  have hBp := apart _ _ _ _ hB4
  obtain ⟨cs, ty, f, hbe⟩ := cells_of_cell hp3
  have hbe4 := hT4.heap hbe hbeR
  have hbep := apart _ _ _ _ hbe4
  obtain ⟨cur, hg4⟩ := ownsRow_block hown
  have hgp := apart _ _ _ _ hg4
  have hEb : (setB w4 pb (.map es clock)).heap[be]? = w3.heap[be]? := (setB_other _ _ _ _ hbep).trans (hT4.block be (lt_of_block hbe) hbeR)
  refine ⟨⟨mg, (setB_other _ _ _ _ hBp).trans hB4, ?_⟩, (World.cell?_of_block hEb).trans hp3, setB_same _ _ _ (lt_of_block hpm4), ownsRow_kept hown (Nat.zero_le _) (setB_other _ _ _ _ hgp), fun i hi => (World.cell?_of_block hEb).trans (hE3 i hi), fun i => (World.frozen?_of_block hEb).trans (hF3 i), ?_⟩
  · rcases hM with h | ⟨h1, bg, h2, h3, h4, h5⟩
    · exact .inl h
    · obtain ⟨cs', ty', f', hbg⟩ := cells_of_cell h4
      have hnR := hMR _ h2
      have hbg4 := hT4.heap hbg hnR
      have e1 : (setB w4 pb (.map es clock)).heap[bg]? = w3.heap[bg]? := (setB_other _ _ _ _ (apart _ _ _ _ hbg4)).trans (hT4.block bg (lt_of_block hbg) hnR)
      exact .inr ⟨h1, bg, h2, h3, (World.cell?_of_block e1).trans h4, (World.cell?_of_block e1).trans h5⟩
  · exact (hT3.trans2 hT4 hR).setB hpbL _

set_option maxRecDepth 20000 in
theorem addHolding0 (B be bm : Nat) (t : Int) (nm party : ByteArray) (w : World) (hB : w.heap.size = B)
    (hp : w.cell? ⟨be, 1, none⟩ = some (.map none)) (hfz : w.frozen? ⟨be, 1, none⟩ = false) (ht : w.cell? ⟨bm, 1, none⟩ = some (.int .i64 t)) (hn : w.cell? ⟨bm, 0, none⟩ = some (.string nm)) (hd : w.cell? ⟨bm, 11, none⟩ = some (.bool false)) :
    Calls Yba.prog 25 #[.pointer (some ⟨be, 0, none⟩), .pointer (some ⟨bm, 0, none⟩), .string party] w fun e w' => e = .returned (.pointer (some ⟨B, 0, none⟩)) ∧
      ∃ pb g c, B < pb ∧ B < g ∧ Added w w' B be bm pb nm party false #[{ key := .string party, val := .slice (some ⟨g, 0, none⟩) 1 c, born := 0 }] 1 g 1 c [.pointer (some ⟨B, 0, none⟩)] [be] := by
  have hl := fun wq => look_nil (P := Yba.prog) (w := wq) Yba.underlying57 Yba.underlying9 (str_key party) (Yba.zero62 wq)
  have hbe : be < B := by rw [← hB]; exact World.block_lt_of_cell? _ _ hp
  have hbm : bm < B := by rw [← hB]; exact World.block_lt_of_cell? _ _ ht
  go_enter Yba.func25, Yba.ntmps25
  go_wp2_with fail
  refine (find0 none 0 bm t w ht).mono ?_
  rintro e w' ⟨rfl, rfl⟩
  go_wp2_with fail
  refine (newQueue_any _ _ _ _ _ (by omega)).mono ?_
  rintro e w2 ⟨rfl, hw2⟩
  have hH : w2.heap[B]? = some (.cells #[.pointer (some ⟨bm, 0, none⟩), .string party, .slice none 0 0, .int .i64 0, .map none, .pointer none, .pointer none] 93 (0, 0)) := by
    rw [hw2, Below.heap_alloc _ _ _ (by simp; omega), ← hB]; exact heap_alloc_new w' _
  have hs2 : w2.heap.size = B + 2 := by rw [hw2]; simp [hB]
  have hbel : Below B w' w2 := by rw [hw2]; exact ((Below.refl _ _).alloc (by omega) _).alloc (by simp; omega) _
  have hp2 := (hbel.cell (p := ⟨be, 1, none⟩) hbe).trans hp
  have hfz2 := (hbel.frozen (p := ⟨be, 1, none⟩) hbe).trans hfz
  have hn2 := (hbel.cell (p := ⟨bm, 0, none⟩) hbm).trans hn
  have hd2 := (hbel.cell (p := ⟨bm, 11, none⟩) hbm).trans hd
  have c2 : w2.cell? ⟨B, 2, none⟩ = some (.slice none 0 0) := cell_of hH rfl
  have c3 : w2.cell? ⟨B, 3, none⟩ = some (.int .i64 0) := cell_of hH rfl
  have f2 := frozen_of (i := 2) hH
  have f3 := frozen_of (i := 3) hH
  have hbe2 : be < w2.heap.size := by omega
  have HH := hide hH
  have HS := hide hs2
  have HB := hide hbel
  have HBw := hide hB
  have HP2 := hide hp2
  clear hH hs2 hbel hw2 hB hp hfz ht hn hd
  have hmk := fun wq => run_makeMap (P := Yba.prog) 57 wq
  have heq := fun wq => run_eql_map_nil (P := Yba.prog) wq 57 9 62 none Yba.underlying57
  go_wp2
  obtain ⟨w3, hw3⟩ : ∃ w3, w3 = (((w2.setCell ⟨B, 2, none⟩ (.slice (some ⟨B, 6, none⟩) 0 1)).setCell ⟨B, 3, none⟩ (.int .i64 0)).setCell ⟨be, 1, none⟩ (.map (some w2.heap.size))).alloc (.map #[] 0) := ⟨_, rfl⟩
  rw [← hw3]
  have hs3 : w3.heap.size = B + 3 := by rw [hw3]; simp [unhide HS]
  have hH3 : w3.heap[B]? = some (.cells (holdCells B bm party none) 93 (0, 0)) := by
    rw [hw3, Below.heap_alloc _ _ _ (by simp [unhide HS]), Below.heap_setCell _ _ _ _ (by simp; omega)]
    exact heap_setCell_same _ _ _ _ _ _ (heap_setCell_same _ _ _ _ _ _ (unhide HH))
  have hP3 : w3.heap[B + 2]? = some (.map #[] 0) := by
    rw [hw3]
    have key : ∀ w1 : World, w1.heap.size = B + 2 → (w1.alloc (.map #[] 0)).heap[B + 2]? = some (.map #[] 0) := fun w1 h1 => by
      rw [← h1]; exact heap_alloc_new w1 _
    exact key _ (by simp [unhide HS])
  have hp3 : w3.cell? ⟨be, 1, none⟩ = some (.map (some (B + 2))) := by
    rw [hw3, World.cell?_alloc_past _ _ _ (by simpa using hbe2), unhide HS]
    refine World.cell?_setCell_same (u := .map none) _ _ _ ?_
    rw [World.cell?_setCell_other _ _ _ _ (by intro h; simp at h <;> omega), World.cell?_setCell_other _ _ _ _ (by intro h; simp at h <;> omega)]
    exact unhide HP2
  have hE3 : ∀ i, i ≠ 1 → w3.cell? ⟨be, i, none⟩ = w'.cell? ⟨be, i, none⟩ := by
    intro i hi
    rw [hw3, World.cell?_alloc_past _ _ _ (by simpa using hbe2), World.cell?_setCell_other _ _ _ _ (by intro h; simp at h <;> omega), World.cell?_setCell_other _ _ _ _ (by intro h; simp at h <;> omega), World.cell?_setCell_other _ _ _ _ (by intro h; simp at h <;> omega)]
    exact (unhide HB).cell hbe
  have hT3 : Turn [be] w' w3 := by
    rw [hw3]
    exact ((((Turn.of_below (by rw [unhide HBw]; exact unhide HB) _).setCell (.inr (by rw [unhide HBw]; exact Nat.le_refl _)) _).setCell (.inr (by rw [unhide HBw]; exact Nat.le_refl _)) _).setCell (.inl (by simp)) _).alloc _
  have hF3 : ∀ i, w3.frozen? ⟨be, i, none⟩ = w'.frozen? ⟨be, i, none⟩ := by
    intro i
    rw [hw3, frozen?_alloc_map, World.frozen?_setCell, World.frozen?_setCell, World.frozen?_setCell]
    exact (unhide HB).frozen hbe
  have hbe3 : be < w3.heap.size := by omega
  have hpb3 : B + 2 < w3.heap.size := by omega
  have HH3 := hide hH3
  have HP3 := hide hP3
  have HE3 := hide hE3
  have HT3 := hide hT3
  have HF3 := hide hF3
  have HS3 := hide hs3
  rw [unhide HS]
  clear hH3 hP3 hE3 hT3 hF3 hw3 hs3 HH HP2 HB HS hp2 hfz2 hn2 hd2 c2 c3 f2 f3 hbe2 hmk heq hl
  go_region_with (go_at_call 33; refine (insert0 _ (some ⟨B, 0, none⟩) _ (by simp)).mono ?_; rintro e w4 ⟨g, c, rfl, hown, hbel⟩; have hp4 := (hbel.cell (p := ⟨be, 1, none⟩) (by simp; omega)).trans ((World.cell?_alloc_past _ _ _ (by simpa using hbe3)).trans hp3); have hupd := upd_new (P := Yba.prog) (w := w4) (v := .slice (some ⟨g, 0, none⟩) 1 c) Yba.underlying57 Yba.underlying9 (str_key party) ((hbel.block (B + 2) (by simp; omega)).trans ((Below.heap_alloc _ _ _ (by simpa using hpb3)).trans (unhide HP3))) rfl)
  all_goals
    have HO := hide hown
    have HBL := hide hbel
    clear hown hbel hupd hp4
    go_wp2
    go_ret
    refine ⟨rfl, B + 2, g, c, by omega, ?_, ?_⟩
    · have h1 := ((unhide HO).lt g rfl).1
      simp at h1
      omega
    · have hb := unhide HBL
      have hT4 : Turn [] w3 w4 := ⟨hb.os, hb.tape, hb.output, by have := hb.size; simp at this; omega, fun k hk _ => (hb.block k (by simp; omega)).trans (Below.heap_alloc _ _ _ hk)⟩
      exact added_close (unhide HH3) (.inl ⟨rfl, rfl⟩) hp3 (unhide HE3) (unhide HF3) (unhide HT3) ⟨_, _, unhide HP3⟩ (.inr (by rw [unhide HBw]; omega)) hT4 (by simp) (by simp) (by simp) (by simp) (by simp) (unhide HO)
end Go.Proofs.Ybulkapzy
