import Derived.Test.YbulkapzyHeld
import Derived.Lib.LazyBuf
import Derived.Lib.SliceRun
namespace Go.Proofs.Ybulkapzy
open Go.RowKit

/-- Nothing that was there has turned but the blocks of L; more may have come. -/
structure Turn (L : List Nat) (w w' : World) : Prop where
  os : w'.os = w.os
  tape : w'.tape = w.tape
  output : w'.output = w.output
  size : w.heap.size ≤ w'.heap.size
  block : ∀ k, k < w.heap.size → k ∉ L → w'.heap[k]? = w.heap[k]?

theorem Turn.refl (L : List Nat) (w : World) : Turn L w w := ⟨rfl, rfl, rfl, Nat.le_refl _, fun _ _ _ => rfl⟩
theorem Turn.trans {L : List Nat} {a b c : World} (h : Turn L a b) (k : Turn L b c) : Turn L a c :=
  ⟨k.os.trans h.os, k.tape.trans h.tape, k.output.trans h.output, Nat.le_trans h.size k.size, fun q hq hn => (k.block q (Nat.lt_of_lt_of_le hq h.size) hn).trans (h.block q hq hn)⟩
theorem Turn.mono {L M : List Nat} {a b : World} (h : Turn L a b) (hs : ∀ k, k ∈ L → k < a.heap.size → k ∈ M) : Turn M a b :=
  ⟨h.os, h.tape, h.output, h.size, fun q hq hn => h.block q hq (fun hm => hn (hs q hm hq))⟩
theorem Turn.of_below {w w' : World} (h : Below w.heap.size w w') (L : List Nat) : Turn L w w' := ⟨h.os, h.tape, h.output, h.size, fun k hk _ => h.block k hk⟩
theorem Turn.below {L : List Nat} {B : Nat} {w w' : World} (h : Turn L w w') (hb : ∀ k, k ∈ L → B ≤ k) (hs : B ≤ w.heap.size) : Below B w w' :=
  ⟨h.os, h.tape, h.output, h.size, fun k hk => h.block k (by omega) (fun hm => by have := hb k hm; omega)⟩
theorem Turn.alloc {L : List Nat} {w w' : World} (h : Turn L w w') (o : Obj) : Turn L w (w'.alloc o) :=
  h.trans ⟨rfl, rfl, rfl, by simp, fun _ hk _ => Below.heap_alloc _ _ _ hk⟩
theorem Turn.drewN {L : List Nat} {w w' : World} (h : Turn L w w') (n : Nat) : Turn L w (w'.drewN n) := ⟨h.os, h.tape, h.output, h.size, h.block⟩
theorem Turn.drew {L : List Nat} {w w' : World} (h : Turn L w w') : Turn L w w'.drew := ⟨h.os, h.tape, h.output, h.size, h.block⟩
theorem Turn.setCell {L : List Nat} {w w' : World} (h : Turn L w w') {p : Addr} (hp : p.block ∈ L ∨ w.heap.size ≤ p.block) (v : Value) : Turn L w (w'.setCell p v) :=
  ⟨h.os, h.tape, h.output, by rw [World.size_setCell]; exact h.size, fun k hk hn => (Below.heap_setCell _ _ _ _ (by rintro rfl; rcases hp with hp | hp; exact hn hp; omega)).trans (h.block k hk hn)⟩
theorem Turn.setB {L : List Nat} {w w' : World} (h : Turn L w w') {r : Nat} (hp : r ∈ L ∨ w.heap.size ≤ r) (o : Obj) : Turn L w (setB w' r o) :=
  ⟨h.os, h.tape, h.output, by rw [setB_size]; exact h.size, fun k hk hn => (setB_other _ _ _ _ (by rintro rfl; rcases hp with hp | hp; exact hn hp; omega)).trans (h.block k hk hn)⟩
theorem Turn.grown {L : List Nat} {w w1 w2 : World} {row : Option Nat} (h : Turn L w w1) (hg : w1.grownBy w2 row) (hr : ∀ k, row = some k → k ∈ L ∨ w.heap.size ≤ k) : Turn L w w2 :=
  ⟨hg.os.trans h.os, hg.tape.trans h.tape, hg.output.trans h.output, Nat.le_trans h.size hg.size, fun k hk hn => (hg.block k (Nat.lt_of_lt_of_le hk h.size) (fun e => by rcases hr k e.symm with h1 | h1; exact hn h1; omega)).trans (h.block k hk hn)⟩
theorem Turn.cell {L : List Nat} {w w' : World} (h : Turn L w w') {p : Addr} (hp : p.block < w.heap.size) (hn : p.block ∉ L) : w'.cell? p = w.cell? p := World.cell?_of_block (h.block _ hp hn)
theorem Turn.frozen {L : List Nat} {w w' : World} (h : Turn L w w') {p : Addr} (hp : p.block < w.heap.size) (hn : p.block ∉ L) : w'.frozen? p = w.frozen? p := World.frozen?_of_block (h.block _ hp hn)

theorem Yba.info86 : (Yba.prog.info? 86).map (fun i => (i.zero, i.size, i.bytes)) = some (some (.pointer none), 1, 8) := by kernel_rfl
theorem Yba.info78 : (Yba.prog.info? 78).map (fun i => (i.zero, i.size, i.bytes)) = some (some (.pointer none), 1, 8) := by kernel_rfl

set_option maxHeartbeats 400000 in
/-- The first holding of a party. -/
theorem insert0 (q : Nat) (p : Option Addr) (w : World) (hq : w.cell? ⟨q, 0, none⟩ = some (.pointer p)) :
    Calls Yba.prog 33 #[.slice none 0 0, .int .i64 0, .slice (some ⟨q, 0, none⟩) 1 1] w fun e w' => ∃ g c, e = .returned (.slice (some ⟨g, 0, none⟩) 1 c) ∧
      w'.ownsRow w.heap.size 86 1 (.slice (some ⟨g, 0, none⟩) 1 c) 1 [.pointer p] ∧ Below w.heap.size w w' := by
  obtain ⟨i0, hi0, hz0, hz1, hz2⟩ := info_parts Yba.info86
  have hcells : ∀ j u, [Value.pointer p][j]? = some u → w.cell? ((⟨q, 0, none⟩ : Addr).add j) = some u := by
    intro j u hu
    match j, hu with
    | 0, hu => simp at hu; subst hu; simpa [Addr.add_lit] using hq
  have HC := hide hcells
  clear hcells
  go_enter Yba.func33, Yba.ntmps33
  go_wp2_with (at_builtin; refine wpList_append_own _ rfl _ _ 62 rfl w.heap.size 86 i0 (.pointer none) 1 8 Yba.underlying62 hi0 hz0 hz1 hz2 rfl (by decide) _ 0 [] rfl ⟨by simp, .inl ⟨rfl, rfl⟩⟩ ⟨q, 0, none⟩ 1 1 [.pointer p] rfl rfl (unhide HC) (by intro u hu; simp at hu; subst hu; rfl) (by unfold maxLen; omega) (by omega) (Nat.le_refl _) ?_)
  intro v' w1 hown hgrow hnz
  obtain ⟨g, c, hv⟩ : ∃ g c, v' = .slice (some ⟨g, 0, none⟩) 1 c := by
    rcases hown.2 with ⟨h, _⟩ | ⟨gb, cb, cur, h, _⟩
    · exact absurd h hnz
    · exact ⟨gb, cb, by rw [h]⟩
  subst hv
  have hbel : Below w.heap.size w w1 := (Below.refl _ _).grown hgrow (Nat.le_refl _) (by intro k hk; simp [Value.ownBlock] at hk)
  have HO := hide hown
  have HB := hide hbel
  clear hown hgrow hnz hbel
  go_wp2
  go_ret
  exact ⟨g, c, rfl, by simpa using unhide HO, unhide HB⟩

end Go.Proofs.Ybulkapzy
