import Derived.Test.YbulkapzyFound
import Derived.Test.YbulkapzyNewT
import Derived.Test.YbulkapzyAddOne
import Derived.Test.YbulkapzyFind
namespace Go.Proofs.Ybulkapzy
open Go.RowKit

def sM0 : ByteArray := ⟨#[109, 48]⟩
def sM1 : ByteArray := ⟨#[109, 49]⟩
def mkName (d : Bool) : ByteArray := if d then sM1 else sM0
def mSeq (d : Bool) : Int := if d then 1 else 0
def mBlk (N : Nat) (d : Bool) : Nat := if d then N + 2 else N + 1
def mk2Cells (N : Nat) (d : Bool) : Array Value :=
  #[.string (mkName d), .int .i64 (mSeq d), .int .u8 0, .slice none 0 0, .int .u8 0, .slice none 0 0, .bool false, .slice none 0 0, .int .i64 0, .pointer (some ⟨N + 4, 4, none⟩), .map none, .bool d, .pointer (some ⟨N + 4, 6, none⟩)]
def mks2 (N : Nat) : Array MapEntry := #[{ key := .string sM0, val := .pointer (some ⟨N + 1, 0, none⟩), born := 0 }, { key := .string sM1, val := .pointer (some ⟨N + 2, 0, none⟩), born := 1 }]

theorem find_mk (N : Nat) (d : Bool) : Instr.findNow .string (.string (mkName d)) (mks2 N).toList 0 = some (some (if d then 1 else 0, .pointer (some ⟨mBlk N d, 0, none⟩))) := by
  cases d
  · have e : (sM0 == sM0) = true := by decide +kernel
    simp [Instr.findNow, Instr.sameNow, mks2, mkName, mBlk, e]
  · have e : (sM1 == sM0) = false := by decide +kernel
    have e1 : (sM1 == sM1) = true := by decide +kernel
    simp [Instr.findNow, Instr.sameNow, mks2, mkName, mBlk, e, e1]

/-- Two markets and their engine. -/
structure Base (w : World) (N : Nat) : Prop where
  mks : w.cell? ⟨N + 4, 0, none⟩ = some (.map (some (N + 3)))
  blk : w.cell? ⟨N + 4, 3, none⟩ = some (.int .u64 0)
  mp : w.heap[N + 3]? = some (.map (mks2 N) 2)
  m : ∀ d, w.heap[mBlk N d]? = some (.cells (mk2Cells N d) 54 (0, 0))
  fz : ∀ i, w.frozen? ⟨N + 4, i, none⟩ = false

theorem Base.lt {w : World} {N : Nat} (h : Base w N) : N + 4 < w.heap.size := World.block_lt_of_cell? _ _ h.mks

theorem mBlk_bounds (N : Nat) (d : Bool) : N + 1 ≤ mBlk N d ∧ mBlk N d ≤ N + 2 := by cases d <;> simp [mBlk]

theorem Base.turn {w w' : World} {N : Nat} {L : List Nat} (h : Base w N) (hT : Turn L w w') (hL : ∀ k, N + 1 ≤ k → k ≤ N + 3 → k ∉ L) (he : ∀ i, i = 0 ∨ i = 3 → w'.cell? ⟨N + 4, i, none⟩ = w.cell? ⟨N + 4, i, none⟩)
    (hf : ∀ i, w'.frozen? ⟨N + 4, i, none⟩ = w.frozen? ⟨N + 4, i, none⟩) : Base w' N :=
  ⟨(he 0 (.inl rfl)).trans h.mks, (he 3 (.inr rfl)).trans h.blk, hT.heap h.mp (hL _ (by omega) (by omega)), fun d => hT.heap (h.m d) (hL _ (mBlk_bounds N d).1 (by have := (mBlk_bounds N d).2; omega)), fun i => (hf i).trans (h.fz i)⟩

theorem Base.below {w w' : World} {N : Nat} (h : Base w N) (hb : Below w.heap.size w w') : Base w' N :=
  h.turn (L := []) (Turn.of_below hb _) (by simp) (fun i _ => hb.cell (p := ⟨N + 4, i, none⟩) h.lt) (fun i => hb.frozen (p := ⟨N + 4, i, none⟩) h.lt)

theorem own_block {w : World} {b0 n z : Nat} {e : TypeId} {v : Value} {xs : List Value} (h : w.ownsRow b0 e z v n xs) {k : Nat} (hk : v.ownBlock = some k) : ∃ cur, w.heap[k]? = some (.cells cur e (0, 0)) := by
  rcases h.2 with ⟨h0, _⟩ | ⟨g, c, cur, hv, h1, h2, h3⟩
  · rw [h0] at hk; simp [Value.ownBlock] at hk
  · rw [hv] at hk
    simp [Value.ownBlock] at hk
    subst hk
    exact ⟨cur, h2⟩

theorem Base.own_far {w : World} {N n b0 z : Nat} {v : Value} {xs : List Value} (h : Base w N) (hr : w.ownsRow b0 78 z v n xs) (k : Nat) (hk : v.ownBlock = some k) : ¬ (N + 1 ≤ k ∧ k ≤ N + 3) := by
  rintro ⟨h1, h2⟩
  obtain ⟨cur, hc⟩ := own_block hr hk
  by_cases e3 : k = N + 3
  · subst e3; rw [h.mp] at hc; cases hc
  · by_cases e2 : k = N + 2
    · subst e2; have := h.m true; simp only [mBlk, if_true] at this; rw [this] at hc; simp at hc
    · obtain rfl : k = N + 1 := by omega
      have := h.m false
      simp only [mBlk] at this
      rw [if_neg (by simp)] at this
      rw [this] at hc
      simp at hc

/-- Nothing that was there has turned but the engine and rows of orders from b0 on. -/
structure Kept (w w' : World) (N b0 : Nat) : Prop where
  os : w'.os = w.os
  tape : w'.tape = w.tape
  output : w'.output = w.output
  size : w.heap.size ≤ w'.heap.size
  block : ∀ k, k < w.heap.size → k ≠ N + 4 → (k < b0 ∨ ∀ cur, w.heap[k]? ≠ some (.cells cur 78 (0, 0))) → w'.heap[k]? = w.heap[k]?

theorem Kept.of_turn {w w' : World} {N b0 : Nat} {L : List Nat} (h : Turn L w w') (hL : ∀ k, k ∈ L → k < w.heap.size → k = N + 4 ∨ (b0 ≤ k ∧ ∃ cur, w.heap[k]? = some (.cells cur 78 (0, 0)))) : Kept w w' N b0 :=
  ⟨h.os, h.tape, h.output, h.size, fun k hk hn hc => h.block k hk fun hm => by
    rcases hL k hm hk with h1 | ⟨h1, cur, h2⟩
    · exact hn h1
    · rcases hc with hc | hc
      · omega
      · exact hc cur h2⟩

theorem Kept.trans {w w1 w2 : World} {N b0 : Nat} (h : Kept w w1 N b0) (k : Kept w1 w2 N b0) : Kept w w2 N b0 :=
  ⟨k.os.trans h.os, k.tape.trans h.tape, k.output.trans h.output, Nat.le_trans h.size k.size, fun q hq hn hc => by
    have e := h.block q hq hn hc
    exact (k.block q (Nat.lt_of_lt_of_le hq h.size) hn (hc.imp id (fun hc cur => by rw [e]; exact hc cur))).trans e⟩

theorem Kept.weaken {w w' : World} {N b0 : Nat} {L : List Nat} (h : Turn L w w') {w0 : World} (h0 : Kept w0 w N b0) (hL : ∀ k, k ∈ L → k < w0.heap.size → k = N + 4 ∨ (b0 ≤ k ∧ ∃ cur, w.heap[k]? = some (.cells cur 78 (0, 0)))) : Kept w0 w' N b0 :=
  ⟨h.os.trans h0.os, h.tape.trans h0.tape, h.output.trans h0.output, Nat.le_trans h0.size h.size, fun q hq hn hc => by
    have e := h0.block q hq hn hc
    refine (h.block q (Nat.lt_of_lt_of_le hq h0.size) fun hm => ?_).trans e
    rcases hL q hm hq with h1 | ⟨h1, cur, h2⟩
    · exact hn h1
    · rcases hc with hc | hc
      · omega
      · rw [e] at h2
        exact hc cur h2⟩

/-- An order of these laws: as the law asks for it. -/
abbrev ordP (n : Nat) (d : Bool) (pa cl : ByteArray) (sd sz pr : Int) (b : Nat) : Array Value :=
  ordCells n (mkName d) pa cl sd sz pr false false 0 (.int .u64 0) (.int .u64 0) (.int .u64 0) (some ⟨b, 0, none⟩)

/-- Behind the first order. -/
structure One (w w' : World) (N b0 n O b pb g c g2 c2 : Nat) (mg : Option Addr) (d : Bool) (pa cl : ByteArray) (sd sz pr : Int) (olds : List Value) : Prop where
  base : Base w' N
  order : w'.heap[O]? = some (.cells (ordP (n + 1) d pa cl sd sz pr b) 88 (0, 0))
  orders : w'.cell? ⟨N + 4, 2, none⟩ = some (.slice (some ⟨g, 0, none⟩) (n + 1) c)
  row : w'.ownsRow b0 78 1 (.slice (some ⟨g, 0, none⟩) (n + 1) c) (n + 1) (olds ++ [.pointer (some ⟨O, 0, none⟩)])
  hold : w'.heap[b]? = some (.cells (holdCells b (mBlk N d) pa mg) 93 (0, 0))
  marg : mg.isSome = d
  parties : w'.cell? ⟨N + 4, 1, none⟩ = some (.map (some pb))
  map : w'.heap[pb]? = some (.map #[{ key := .string pa, val := .slice (some ⟨g2, 0, none⟩) 1 c2, born := 0 }] 1)
  hs : w'.ownsRow 0 86 1 (.slice (some ⟨g2, 0, none⟩) 1 c2) 1 [.pointer (some ⟨b, 0, none⟩)]
  loO : w.heap.size ≤ O
  loB : w.heap.size ≤ b
  loP : w.heap.size ≤ pb
  loG : w.heap.size ≤ g2
  gne : g ≠ N + 4
  kept : Kept w w' N b0
  lt : b0 ≤ w.heap.size

theorem marg_some {w : World} {mg : Option Addr} {d : Bool} {nm pa : ByteArray} {B : Nat} (h : MargOk w mg d nm pa B) : mg.isSome = d := by
  rcases h with ⟨rfl, rfl⟩ | ⟨rfl, bg, rfl, _⟩ <;> rfl

theorem own_g (g n c k : Nat) (h : (Value.slice (some ⟨g, 0, none⟩) n c).ownBlock = some k) : g = k := by
  simp [Value.ownBlock] at h; exact h

theorem acc1 {w : World} {N b0 n : Nat} (hB : Base w N) (hp : w.cell? ⟨N + 4, 1, none⟩ = some (.map none)) {ov : Value} {olds : List Value} (h2 : w.cell? ⟨N + 4, 2, none⟩ = some ov) (hov : ∃ a c, ov = .slice a n c) (hrow : w.ownsRow b0 78 1 ov n olds) (hb0 : b0 ≤ w.heap.size)
    (hn : n ≤ 1000) (hptr : ∀ v, v ∈ olds → ∃ q, v = .pointer q) (hbr : ov.ownBlock ≠ some (N + 4)) (d : Bool) (pa cl : ByteArray) (sd sz pr : Int) (hs : refuse pa cl sd sz pr false 0 false 0 false = none) :
    Calls Yba.prog 13 #[.pointer (some ⟨N + 4, 0, none⟩), .agg #[.string (mkName d), .string pa, .string cl, .int .u8 sd, .int .i64 sz, .int .i64 pr, .bool false, .bool false, .int .u64 0]] w fun e w' =>
      ∃ O b pb g c g2 c2 mg, e = .returned (.tuple #[.pointer (some ⟨mBlk N d, 0, none⟩), .pointer (some ⟨O, 0, none⟩), .nilIface]) ∧ One w w' N b0 n O b pb g c g2 c2 mg d pa cl sd sz pr olds := by
  have hlt := hB.lt
  have hmb := mBlk_bounds N d
  have key : ∀ wx, Below w.heap.size w wx → Calls Yba.prog 25 #[.pointer (some ⟨N + 4, 0, none⟩), .pointer (some ⟨mBlk N d, 0, none⟩), .string pa] wx fun e w' => ∃ bh, e = .returned (.pointer (some ⟨bh, 0, none⟩)) ∧
      (bh = wx.heap.size ∧ ∃ pb g c, bh < pb ∧ bh < g ∧ Added wx w' bh (N + 4) (mBlk N d) pb (mkName d) pa d #[{ key := .string pa, val := .slice (some ⟨g, 0, none⟩) 1 c, born := 0 }] 1 g 1 c [.pointer (some ⟨bh, 0, none⟩)] [N + 4]) := by
    intro wx hx
    have hBx := hB.below hx
    have hMx := hBx.m d
    have hpx := (hx.cell (p := ⟨N + 4, 1, none⟩) hlt).trans hp
    cases d with
    | false =>
      refine (addHolding0 wx.heap.size (N + 4) (mBlk N false) (mSeq false) (mkName false) pa wx rfl hpx (hBx.fz 1) (cell_of hMx rfl) (cell_of hMx rfl) (cell_of hMx rfl)).mono ?_
      rintro e w' ⟨rfl, h⟩
      exact ⟨wx.heap.size, rfl, rfl, h⟩
    | true =>
      refine (addHolding0d wx.heap.size (N + 4) (mBlk N true) (mSeq true) (mkName true) pa wx rfl hpx (hBx.fz 1) (cell_of hMx rfl) (cell_of hMx rfl) (cell_of hMx rfl)).mono ?_
      rintro e w' ⟨rfl, h⟩
      exact ⟨wx.heap.size, rfl, rfl, h⟩
  refine (accept_new2 (N + 4) (mBlk N d) (N + 3) 2 (if d then 1 else 0) b0 n (mks2 N) (mkName d) pa cl sd sz pr false 0 0 ov olds [N + 4]
    (fun wx w' bh => bh = wx.heap.size ∧ ∃ pb g c, bh < pb ∧ bh < g ∧ Added wx w' bh (N + 4) (mBlk N d) pb (mkName d) pa d #[{ key := .string pa, val := .slice (some ⟨g, 0, none⟩) 1 c, born := 0 }] 1 g 1 c [.pointer (some ⟨bh, 0, none⟩)] [N + 4])
    w hB.mks hB.mp (find_mk N d) (cell_of (hB.m d) rfl) h2 (hB.fz 2) hov hrow hb0 (by omega) hptr
    (fun wx hx => ?_) (fun wx hx => held_not _ _ _ _ _ _ _ _ _ wx)
    key ?_ ?_ hbr hs).mono ?_
  · have hBx := hB.below hx
    exact holding0 (N + 4) (mBlk N d) (.map none) none 0 (mSeq d) pa wx ((hx.cell (p := ⟨N + 4, 1, none⟩) hlt).trans hp) (look_nil (P := Yba.prog) Yba.underlying57 Yba.underlying9 (str_key pa) (Yba.zero62 wx)) (cell_of (hBx.m d) rfl)
  · rintro wx w' bh hx ⟨_, pb, g, c, _, _, hA⟩
    exact ⟨hA.turn, hA.eng, hA.engFz⟩
  · intro k hk
    simp at hk
    subst hk
    exact ⟨hlt, hbr⟩
  · rintro e w' ⟨O, bh, g, c, wx, wA, rfl, hPl, ⟨cs, hOA⟩, hrowF, hbh, pb, g2, c2, h1, h2, hA⟩
    have hOx := hPl.hi
    have hlo := hPl.lo
    obtain ⟨mg, hH, hMg⟩ := hA.hold
    have hT := hPl.turn
    have hxs := hPl.old.size
    have hovlt : ∀ k, ov.ownBlock = some k → k < w.heap.size := fun k hk => (hrow.lt k hk).2
    have nin : ∀ k, bh ≤ k → k ∉ ((N + 4) :: O :: ov.ownBlock.toList) := by
      intro k hk
      simp
      refine ⟨by omega, by omega, fun e => ?_⟩
      have := hovlt k e
      omega
    have hturn : Turn ((N + 4) :: ov.ownBlock.toList) w w' := by
      refine ((Turn.of_below hPl.old _).trans2 hA.turn (fun q hq => .inl (by simp at hq; simp [hq]))).trans2 hT ?_
      intro q hq
      simp at hq
      rcases hq with rfl | rfl | hq
      · left; simp
      · right; exact hlo
      · left; simp [hq]
    have hbase : Base w' N := by
      refine hB.turn hturn (fun k hk1 hk2 hm => ?_) (fun i hi => ?_) (fun i => ?_)
      · simp at hm
        rcases hm with hm | hm
        · omega
        · exact hB.own_far hrow k hm ⟨hk1, hk2⟩
      · rw [hPl.eng i (by omega), hA.eng i (by omega)]
        exact hPl.old.cell (p := ⟨N + 4, i, none⟩) hlt
      · rw [hPl.engFz i, hA.engFz i]
        exact hPl.old.frozen (p := ⟨N + 4, i, none⟩) hlt
    refine ⟨O, bh, pb, g, c, g2, c2, mg, rfl, hbase, ?_, hPl.orders, hrowF, hT.heap hH (nin _ (Nat.le_refl _)), marg_some hMg, (hPl.eng 1 (by decide)).trans hA.parties, hT.heap hA.map (nin _ (by omega)), ?_, hlo, by omega, by omega, by omega, ?_, ?_, hb0⟩
    · have h := hPl.order
      exact h
    · refine ownsRow_same hA.row (fun k hk => ?_)
      have := own_g _ _ _ _ hk
      subst this
      exact hT.block _ (by have h := ownsRow_block hA.row; obtain ⟨cur, h⟩ := h; exact lt_of_block h) (nin _ (by omega))
    · rintro rfl
      have h0 := hPl.row.cellAt 0 (by omega)
      rw [hbase.mks] at h0
      cases olds with
      | nil => simp at h0
      | cons v r =>
        obtain ⟨q1, hq1⟩ := hptr v (by simp)
        simp [hq1] at h0
    · refine Kept.of_turn hturn (fun k hk _ => ?_)
      simp at hk
      rcases hk with hk | hk
      · exact .inl hk
      · obtain ⟨cur, hc⟩ := own_block hrow hk
        exact .inr ⟨(hrow.lt k hk).1, cur, hc⟩

end Go.Proofs.Ybulkapzy
