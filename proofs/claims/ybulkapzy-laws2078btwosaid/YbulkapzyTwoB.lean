import Derived.Test.YbulkapzyTwo
namespace Go.Proofs.Ybulkapzy
open Go.RowKit

/-- Behind the second order, where a holding was added. -/
structure More (w w1 w' : World) (N b0 n O O2 b b2 pb g' c' g2 g3 c3 k3 : Nat) (mg mg2 : Option Addr) (d d2 : Bool) (pa cl : ByteArray) (sd sz pr : Int) (p2 cl2 : ByteArray) (sd2 sz2 pr2 : Int) (olds : List Value) (es : Array MapEntry) (ck : Nat) (xs : List Value) (R : List Nat) : Prop where
  base : Base w' N
  order1 : w'.heap[O]? = some (.cells (ordP (n + 1) d pa cl sd sz pr b) 88 (0, 0))
  order2 : w'.heap[O2]? = some (.cells (ordP (n + 2) d2 p2 cl2 sd2 sz2 pr2 b2) 88 (0, 0))
  orders : w'.cell? ⟨N + 4, 2, none⟩ = some (.slice (some ⟨g', 0, none⟩) (n + 2) c')
  row : w'.ownsRow b0 78 1 (.slice (some ⟨g', 0, none⟩) (n + 2) c') (n + 2) (olds ++ [.pointer (some ⟨O, 0, none⟩), .pointer (some ⟨O2, 0, none⟩)])
  hold1 : w'.heap[b]? = some (.cells (holdCells b (mBlk N d) pa mg) 93 (0, 0))
  hold2 : w'.heap[b2]? = some (.cells (holdCells b2 (mBlk N d2) p2 mg2) 93 (0, 0))
  marg : mg2.isSome = d2
  parties : w'.cell? ⟨N + 4, 1, none⟩ = some (.map (some pb))
  map : w'.heap[pb]? = some (.map es ck)
  row3 : w'.ownsRow 0 86 1 (.slice (some ⟨g3, 0, none⟩) k3 c3) k3 xs
  keep : g2 ∉ R → w'.heap[g2]? = w1.heap[g2]?
  ne : b ≠ b2
  kept : Kept w w' N b0

theorem ne_of_types {w : World} {a b : Nat} {ca cb : Array Value} {ta tb : TypeId} (ha : w.heap[a]? = some (.cells ca ta (0, 0))) (hb : w.heap[b]? = some (.cells cb tb (0, 0))) (ht : ta ≠ tb) : a ≠ b := by
  rintro rfl
  rw [ha] at hb
  simp at hb
  exact ht hb.2
theorem ne_of_map {w : World} {a b : Nat} {ca : Array Value} {ta : TypeId} {es : Array MapEntry} {ck : Nat} (ha : w.heap[a]? = some (.cells ca ta (0, 0))) (hb : w.heap[b]? = some (.map es ck)) : a ≠ b := by
  rintro rfl
  rw [ha] at hb
  cases hb

theorem acc2new {w w1 : World} {N b0 n O b pb g c g2 c2 : Nat} {mg : Option Addr} {d : Bool} {pa cl : ByteArray} {sd sz pr : Int} {olds : List Value} (h1 : One w w1 N b0 n O b pb g c g2 c2 mg d pa cl sd sz pr olds)
    (hn : n ≤ 1000) (hptr : ∀ v, v ∈ olds → ∃ q, v = .pointer q) (hlt : N + 4 < w.heap.size) (d2 : Bool) (p2 cl2 : ByteArray) (sd2 sz2 pr2 : Int) (hs2 : refuse p2 cl2 sd2 sz2 pr2 false 0 false 0 false = none)
    (es' : Nat → Nat → Array MapEntry) (ck k3 : Nat) (xs : Nat → List Value) (R : List Nat) (hR : ∀ k, k ∈ R → k = g2) (hk3 : 0 < k3) (hxs : ∀ bh, ∃ p, (xs bh)[0]? = some (.pointer p))
    (hh : ∀ wx, Below w1.heap.size w1 wx → Calls Yba.prog 21 #[.pointer (some ⟨N + 4, 0, none⟩), .pointer (some ⟨mBlk N d2, 0, none⟩), .string p2] wx fun e w' => e = .returned (.pointer none) ∧ w' = wx)
    (key : ∀ wx, Below w1.heap.size w1 wx → Calls Yba.prog 25 #[.pointer (some ⟨N + 4, 0, none⟩), .pointer (some ⟨mBlk N d2, 0, none⟩), .string p2] wx fun e w' => ∃ bh, e = .returned (.pointer (some ⟨bh, 0, none⟩)) ∧
      (bh = wx.heap.size ∧ ∃ g3 c3, Added wx w' bh (N + 4) (mBlk N d2) pb (mkName d2) p2 d2 (es' g3 c3) ck g3 k3 c3 (xs bh) ((N + 4) :: pb :: R))) :
    Calls Yba.prog 13 #[.pointer (some ⟨N + 4, 0, none⟩), .agg #[.string (mkName d2), .string p2, .string cl2, .int .u8 sd2, .int .i64 sz2, .int .i64 pr2, .bool false, .bool false, .int .u64 0]] w1 fun e w' =>
      ∃ O2 b2 g' c' g3 c3 mg2, e = .returned (.tuple #[.pointer (some ⟨mBlk N d2, 0, none⟩), .pointer (some ⟨O2, 0, none⟩), .nilIface]) ∧
        More w w1 w' N b0 n O O2 b b2 pb g' c' g2 g3 c3 k3 mg mg2 d d2 pa cl sd sz pr p2 cl2 sd2 sz2 pr2 olds (es' g3 c3) ck (xs b2) R := by
  have hB := h1.base
  have hlt1 := hB.lt
  have hptr1 : ∀ v, v ∈ olds ++ [Value.pointer (some ⟨O, 0, none⟩)] → ∃ q, v = .pointer q := by
    intro v hv
    simp at hv
    rcases hv with hv | hv
    · exact hptr v hv
    · exact ⟨_, hv⟩
  obtain ⟨cg, hcg⟩ := ownsRow_block h1.row
  obtain ⟨cg2, hcg2⟩ := ownsRow_block h1.hs
  have hgp : g ≠ pb := ne_of_map hcg h1.map
  have hgg2 : g ≠ g2 := ne_of_types hcg hcg2 (by decide)
  have hbg : b ≠ g := ne_of_types h1.hold hcg (by decide)
  have hbp : b ≠ pb := ne_of_map h1.hold h1.map
  have hbg2 : b ≠ g2 := ne_of_types h1.hold hcg2 (by decide)
  have hOg : O ≠ g := ne_of_types h1.order hcg (by decide)
  have hOp : O ≠ pb := ne_of_map h1.order h1.map
  have hOg2 : O ≠ g2 := ne_of_types h1.order hcg2 (by decide)
  have hg2p : g2 ≠ pb := ne_of_map hcg2 h1.map
  have lO := lt_of_block h1.order
  have lb := lt_of_block h1.hold
  have lp := lt_of_block h1.map
  have lg := lt_of_block hcg
  have lg2 := lt_of_block hcg2
  have hloO := h1.loO
  have hloB := h1.loB
  have hloP := h1.loP
  have hloG := h1.loG
  have hgb0 : b0 ≤ g := (h1.row.lt g (by simp [Value.ownBlock])).1
  refine (accept_new2 (N + 4) (mBlk N d2) (N + 3) 2 (if d2 then 1 else 0) b0 (n + 1) (mks2 N) (mkName d2) p2 cl2 sd2 sz2 pr2 false 0 0 (.slice (some ⟨g, 0, none⟩) (n + 1) c) (olds ++ [.pointer (some ⟨O, 0, none⟩)]) ((N + 4) :: pb :: R)
    (fun wx w' bh => bh = wx.heap.size ∧ ∃ g3 c3, Added wx w' bh (N + 4) (mBlk N d2) pb (mkName d2) p2 d2 (es' g3 c3) ck g3 k3 c3 (xs bh) ((N + 4) :: pb :: R))
    w1 hB.mks hB.mp (find_mk N d2) (cell_of (hB.m d2) rfl) h1.orders (hB.fz 2) ⟨_, _, rfl⟩ h1.row (Nat.le_trans h1.lt h1.kept.size) (by omega) hptr1
    hh (fun wx hx => held_not _ _ _ _ _ _ _ _ _ wx)
    key ?_ ?_ ?_ hs2).mono ?_
  · rintro wx w' bh hx ⟨_, g3, c3, hA⟩
    exact ⟨hA.turn, hA.eng, hA.engFz⟩
  · intro k hk
    have hg : ∀ q, (Value.slice (some ⟨g, 0, none⟩) (n + 1) c).ownBlock ≠ some q ↔ g ≠ q := by intro q; simp [Value.ownBlock]
    rw [hg]
    simp at hk
    rcases hk with rfl | rfl | hk
    · exact ⟨hlt1, h1.gne⟩
    · exact ⟨lp, hgp⟩
    · rw [hR k hk]
      exact ⟨lg2, hgg2⟩
  · simp [Value.ownBlock]
    exact h1.gne
  · rintro e w' ⟨O2, b2, g', c', wx, wA, rfl, hPl, ⟨cs, hOA⟩, hrowF, hb2, g3, c3, hA⟩
    have hOx := hPl.hi
    have hlo := hPl.lo
    obtain ⟨mg2, hH, hMg⟩ := hA.hold
    have hT : Turn ((N + 4) :: O2 :: [g]) wA w' := hPl.turn
    have hxs1 := hPl.old.size
    have hAs := hA.turn.size
    -- the old blocks, up to wA
    have toA : ∀ k, k < w1.heap.size → k ≠ N + 4 → k ≠ pb → k ∉ R → wA.heap[k]? = w1.heap[k]? := fun k hk h1' h2' h3' =>
      (hA.turn.block k (by omega) (by simp [h1', h2', h3'])).trans (hPl.old.block k hk)
    have toEnd : ∀ k, k < wA.heap.size → k ≠ N + 4 → k ≠ O2 → k ≠ g → w'.heap[k]? = wA.heap[k]? := fun k hk h1' h2' h3' =>
      hT.block k hk (by simp [h1', h2', h3'])
    have nR : ∀ k, k ≠ g2 → k ∉ R := fun k hk hm => hk (hR k hm)
    have hgA : wA.heap[g]? = some (.cells cg 78 (0, 0)) := (toA g lg h1.gne hgp (nR g hgg2)).trans hcg
    obtain ⟨cg3, hcg3⟩ := ownsRow_block hA.row
    have hg3g : g3 ≠ g := ne_of_types hcg3 hgA (by decide)
    have hg3O : g3 ≠ O2 := ne_of_types hcg3 hOA (by decide)
    have hg3e : g3 ≠ N + 4 := by
      rintro rfl
      have h0 := hA.row.cellAt 0 (by omega)
      rw [hA.eng 0 (by decide), hPl.old.cell (p := ⟨N + 4, 0, none⟩) hlt1, hB.mks] at h0
      obtain ⟨p, hp⟩ := hxs b2
      rw [hp] at h0
      simp at h0
    have lA : ∀ k, k < w1.heap.size → k < wA.heap.size := fun k hk => by omega
    have hkept : Kept w w' N b0 := by
      have k1 : Kept w wA N b0 := by
        refine Kept.weaken hA.turn (Kept.weaken (Turn.of_below hPl.old []) h1.kept (by simp)) (fun k hk hks => ?_)
        simp at hk
        rcases hk with hk | hk | hk
        · exact .inl hk
        · omega
        · have := hR k hk; omega
      refine Kept.weaken hT k1 (fun k hk hks => ?_)
      simp at hk
      rcases hk with hk | hk | hk
      · exact .inl hk
      · omega
      · subst hk
        exact .inr ⟨hgb0, cg, hgA⟩
    have hbase : Base w' N := by
      have tb : Turn [] w1 wx := Turn.of_below hPl.old []
      refine hB.turn (L := (N + 4) :: pb :: O2 :: g :: R) ⟨hT.os.trans (hA.turn.os.trans tb.os), hT.tape.trans (hA.turn.tape.trans tb.tape), hT.output.trans (hA.turn.output.trans tb.output), by have := hT.size; omega, fun k hk hm => ?_⟩ (fun k hk1 hk2 hm => ?_) (fun i hi => ?_) (fun i => ?_)
      · simp at hm
        obtain ⟨m1, m2, m3, m4, m5⟩ := hm
        exact (toEnd k (lA k hk) m1 m3 m4).trans (toA k hk m1 m2 m5)
      · simp at hm
        rcases hm with hm | hm | hm | hm | hm
        · omega
        · omega
        · omega
        · subst hm
          exact hB.own_far h1.row k (by simp [Value.ownBlock]) ⟨hk1, hk2⟩
        · have := hR k hm; omega
      · rw [hPl.eng i (by omega), hA.eng i (by omega)]
        exact hPl.old.cell (p := ⟨N + 4, i, none⟩) hlt1
      · rw [hPl.engFz i, hA.engFz i]
        exact hPl.old.frozen (p := ⟨N + 4, i, none⟩) hlt1
    refine ⟨O2, b2, g', c', g3, c3, mg2, rfl, hbase, ?_, hPl.order, hPl.orders, ?_, ?_, ?_, marg_some hMg, (hPl.eng 1 (by decide)).trans hA.parties, ?_, ?_, ?_, by omega, hkept⟩
    · exact (toEnd O (lA O lO) (by omega) (by omega) hOg).trans ((toA O lO (by omega) hOp (nR O hOg2)).trans h1.order)
    · have h := hrowF
      rw [List.append_assoc] at h
      exact h
    · exact (toEnd b (lA b lb) (by omega) (by omega) hbg).trans ((toA b lb (by omega) hbp (nR b hbg2)).trans h1.hold)
    · exact (toEnd b2 (lt_of_block hH) (by omega) (by omega) (by omega)).trans hH
    · exact (toEnd pb (lA pb lp) (by omega) (by omega) (Ne.symm hgp)).trans hA.map
    · refine ownsRow_same hA.row (fun k hk => ?_)
      have := own_g _ _ _ _ hk
      subst this
      exact toEnd _ (lt_of_block hcg3) hg3e hg3O hg3g
    · intro hm
      exact (toEnd g2 (lA g2 lg2) (by omega) (by omega) (Ne.symm hgg2)).trans (toA g2 lg2 (by omega) hg2p hm)

end Go.Proofs.Ybulkapzy
