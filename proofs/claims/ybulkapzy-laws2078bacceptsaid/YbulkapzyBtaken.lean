import Derived.Test.YbulkapzyBstart
namespace Go.Proofs.Ybulkapzy
open Go.RowKit

theorem refuse_none {pa cl : ByteArray} {sd sz pr : Int} {ex : Bool} {gt : Int} {au : Bool} {b : Int} {hd : Bool} (h : refuse pa cl sd sz pr ex gt au b hd = none) : au = false ∧ hd = false := by
  unfold refuse at h
  repeat (split at h; · cases h)
  rename_i h1 h2 h3
  exact ⟨by cases au <;> simp_all, by cases hd <;> simp_all⟩

/-- What the law finds behind an order that was taken. -/
structure Taken (w2 w' : World) (N O bh pb g c g2 c2 : Nat) (pa cl : ByteArray) (sd sz pr : Int) (gf ex : Bool) (gt : Int) (dv : Bool) (mg : Option Addr) : Prop where
  order : w'.heap[O]? = some (.cells (ordCells 1 sMkt pa cl sd sz pr gf ex gt (.int .u64 0) (.int .u64 0) (.int .u64 0) (some ⟨bh, 0, none⟩)) 88 (0, 0))
  orders : w'.cell? ⟨N + 3, 2, none⟩ = some (.slice (some ⟨g, 0, none⟩) 1 c)
  first : w'.cell? ⟨g, 0, none⟩ = some (.pointer (some ⟨O, 0, none⟩))
  hold : w'.heap[bh]? = some (.cells (holdCells bh (N + 1) pa mg) 93 (0, 0))
  marg : MargOk w' mg dv sMkt pa bh
  parties : w'.cell? ⟨N + 3, 1, none⟩ = some (.map (some pb))
  map : w'.heap[pb]? = some (.map #[{ key := .string pa, val := .slice (some ⟨g2, 0, none⟩) 1 c2, born := 0 }] 1)
  hs : w'.cell? ⟨g2, 0, none⟩ = some (.pointer (some ⟨bh, 0, none⟩))
  turn : Turn [N + 3] w2 w'

theorem acceptedCall {w wq w2 : World} {N : Nat} {qc : Array Value} {pa cl : ByteArray} {b : Int} {au dv hh : Bool} {hu : Int} {hv : Value} (hS : Start w wq N qc pa cl b au dv hh hu hv) (hb : Below wq.heap.size wq w2) (nm : ByteArray) (sd sz pr : Int) (gf ex : Bool) (gt : Int)
    (hw : wants nm pa cl sd sz pr ex gt au b (hh && (ex && decide (gt ≤ hu))) = none) :
    Calls Yba.prog 13 #[.pointer (some ⟨N + 3, 0, none⟩), .agg #[.string nm, .string pa, .string cl, .int .u8 sd, .int .i64 sz, .int .i64 pr, .bool gf, .bool ex, .int .u64 gt]] w2 fun e w' =>
      ∃ O bh pb g c g2 c2 mg, e = .returned (.tuple #[.pointer (some ⟨N + 1, 0, none⟩), .pointer (some ⟨O, 0, none⟩), .nilIface]) ∧ Taken w2 w' N O bh pb g c g2 c2 pa cl sd sz pr gf ex gt dv mg := by
  have hsz := hS.size
  have hM := (hb.block (N + 1) (by omega)).trans hS.m
  have hP := (hb.block (N + 2) (by omega)).trans hS.mp
  have hE := (hb.block (N + 3) (by omega)).trans hS.e
  have hNlt : N + 4 ≤ w2.heap.size := Nat.le_trans hsz hb.size
  unfold wants at hw
  split at hw
  rotate_left
  · cases hw
  rename_i hnm
  subst hnm
  obtain ⟨hau, hhd⟩ := refuse_none hw
  rw [hau, hhd] at hw
  have key : ∀ wx, Below w2.heap.size w2 wx → Calls Yba.prog 25 #[.pointer (some ⟨N + 3, 0, none⟩), .pointer (some ⟨N + 1, 0, none⟩), .string pa] wx fun e w' => ∃ bh, e = .returned (.pointer (some ⟨bh, 0, none⟩)) ∧
      (bh = wx.heap.size ∧ ∃ pb g c, bh < pb ∧ bh < g ∧ Added wx w' bh (N + 3) (N + 1) pb sMkt pa dv #[{ key := .string pa, val := .slice (some ⟨g, 0, none⟩) 1 c, born := 0 }] 1 g 1 c [.pointer (some ⟨bh, 0, none⟩)] [N + 3]) := by
    intro wx hx
    have hMx := (hx.block (N + 1) (by omega)).trans hM
    have hEx := (hx.block (N + 3) (by omega)).trans hE
    cases dv with
    | false =>
      refine (addHolding0 wx.heap.size (N + 3) (N + 1) 0 sMkt pa wx rfl (cell_of hEx rfl) (frozen_of hEx) (cell_of hMx rfl) (cell_of hMx rfl) (cell_of hMx rfl)).mono ?_
      rintro e w' ⟨rfl, h⟩
      exact ⟨wx.heap.size, rfl, rfl, h⟩
    | true =>
      refine (addHolding0d wx.heap.size (N + 3) (N + 1) 0 sMkt pa wx rfl (cell_of hEx rfl) (frozen_of hEx) (cell_of hMx rfl) (cell_of hMx rfl) (cell_of hMx rfl)).mono ?_
      rintro e w' ⟨rfl, h⟩
      exact ⟨wx.heap.size, rfl, rfl, h⟩
  refine (accept_new (N + 3) (N + 1) (N + 2) 1 0 0 _ sMkt pa cl sd sz pr gf ex gt b (.slice none 0 0) [] [N + 3]
    (fun wx w' bh => bh = wx.heap.size ∧ ∃ pb g c, bh < pb ∧ bh < g ∧ Added wx w' bh (N + 3) (N + 1) pb sMkt pa dv #[{ key := .string pa, val := .slice (some ⟨g, 0, none⟩) 1 c, born := 0 }] 1 g 1 c [.pointer (some ⟨bh, 0, none⟩)] [N + 3])
    w2 (cell_of hE rfl) hP (find_yes _ _) (cell_of hE rfl) (by rw [hau] at hM; exact cell_of hM rfl) (cell_of hE rfl) (frozen_of hE) ⟨none, 0, rfl⟩ ⟨by simp, .inl ⟨rfl, rfl⟩⟩ (by omega) (by simp)
    (fun wx hx => holdingCall hS (hb.trans (hx.mono hb.size))) (fun wx hx => by have h := heldCall hS (hb.trans (hx.mono hb.size)) sMkt sd sz pr gf ex gt; rw [hhd] at h; exact h)
    key ?_ ?_ (by simp [Value.ownBlock]) hw).mono ?_
  · rintro wx w' bh hx ⟨_, pb, g, c, _, _, hA⟩
    exact ⟨hA.turn, hA.eng, hA.engFz⟩
  · intro k hk
    simp at hk
    exact ⟨by omega, by simp [Value.ownBlock]⟩
  · rintro e w' ⟨O, bh, g, c, wx, wA, rfl, hPl, hbh, pb, g2, c2, h1, h2, hA⟩
    have hOx := hPl.hi
    have hlo := hPl.lo
    obtain ⟨mg, hH, hMg⟩ := hA.hold
    have hT := hPl.turn
    simp only [Value.ownBlock, Option.toList] at hT
    have nin : ∀ k, bh ≤ k → k ∉ [N + 3, O] := by
      intro k hk
      simp
      omega
    refine ⟨O, bh, pb, g, c, g2, c2, mg, rfl, hPl.order, hPl.orders, (hPl.row.cellAt 0 (by omega)).trans (by simp), hT.heap hH (nin _ (Nat.le_refl _)), ?_, (hPl.eng 1 (by decide)).trans hA.parties, hT.heap hA.map (nin _ (by omega)), ?_, ?_⟩
    · rcases hMg with h | ⟨h1, bg, h2, h3, h4, h5⟩
      · exact .inl h
      · have hl := World.block_lt_of_cell? _ _ h4
        exact .inr ⟨h1, bg, h2, h3, (hT.cell hl (nin _ (by show bh ≤ bg; omega))).trans h4, (hT.cell (p := ⟨bg, 1, none⟩) hl (nin _ (by show bh ≤ bg; omega))).trans h5⟩
    · have h := hA.row.cellAt 0 (by omega)
      simp at h
      exact (hT.cell (World.block_lt_of_cell? _ _ h) (nin _ (by show bh ≤ g2; omega))).trans h
    · refine ((Turn.of_below hPl.old [N + 3]).trans2 hA.turn (fun q hq => .inl hq)).trans2 hT ?_
      intro q hq
      simp at hq
      rcases hq with rfl | rfl
      · left; simp
      · right; omega

end Go.Proofs.Ybulkapzy
