import Derived.Test.YbulkapzyTwoB
namespace Go.Proofs.Ybulkapzy
open Go.RowKit

theorem beq_same (p : ByteArray) : (p == p) = true := by rw [beq_toListBytes]; simp
theorem beq_diff {p q : ByteArray} (h : p ≠ q) : (p == q) = false := by
  rw [beq_toListBytes, beq_eq_false_iff_ne]
  intro e
  apply h
  obtain ⟨⟨l⟩⟩ := p
  obtain ⟨⟨m⟩⟩ := q
  rw [ByteArray.toList_eq, ByteArray.toList_eq] at e
  simp at e
  rw [e]

theorem fn_self (p : ByteArray) (v : Value) (bo i : Nat) (es : List MapEntry) : Instr.findNow .string (.string p) ({ key := .string p, val := v, born := bo } :: es) i = some (some (i, v)) := by
  simp [Instr.findNow, Instr.sameNow, beq_same]
theorem fn_skip {p q : ByteArray} (h : p ≠ q) (v : Value) (bo i : Nat) (es : List MapEntry) : Instr.findNow .string (.string p) ({ key := .string q, val := v, born := bo } :: es) i = Instr.findNow .string (.string p) es (i + 1) := by
  simp [Instr.findNow, Instr.sameNow, beq_diff h]

/-- What the law asks of the parties at the end. -/
def Last (w' : World) (N b1 b2 : Nat) (d1 d2 : Bool) (p1 p2 : ByteArray) (es : Array MapEntry) : Prop :=
  (p1 = p2 ∧ d1 = d2 ∧ b1 = b2 ∧ ∃ g2 c2 k, Instr.findNow .string (.string p1) es.toList 0 = some (some (k, .slice (some ⟨g2, 0, none⟩) 1 c2))) ∨
  (p1 = p2 ∧ d1 ≠ d2 ∧ b1 ≠ b2 ∧ ∃ g2 c2 k x y, Instr.findNow .string (.string p1) es.toList 0 = some (some (k, .slice (some ⟨g2, 0, none⟩) 2 c2)) ∧ w'.cell? ⟨g2, 0, none⟩ = some (.pointer (some ⟨x, 0, none⟩)) ∧ w'.cell? ⟨g2, 1, none⟩ = some (.pointer (some ⟨y, 0, none⟩)) ∧
    w'.cell? ⟨x, 0, none⟩ = some (.pointer (some ⟨N + 1, 0, none⟩)) ∧ w'.cell? ⟨y, 0, none⟩ = some (.pointer (some ⟨N + 2, 0, none⟩))) ∨
  (p1 ≠ p2 ∧ b1 ≠ b2 ∧ ∃ ga ca ka gb cb kb, Instr.findNow .string (.string p1) es.toList 0 = some (some (ka, .slice (some ⟨ga, 0, none⟩) 1 ca)) ∧ Instr.findNow .string (.string p2) es.toList 0 = some (some (kb, .slice (some ⟨gb, 0, none⟩) 1 cb)) ∧
    w'.cell? ⟨ga, 0, none⟩ = some (.pointer (some ⟨b1, 0, none⟩)) ∧ w'.cell? ⟨gb, 0, none⟩ = some (.pointer (some ⟨b2, 0, none⟩)))

/-- Behind the second order. -/
structure Both (w w' : World) (N b0 n O1 O2 b1 b2 pb g c : Nat) (mg : Option Addr) (d1 d2 : Bool) (p1 p2 : ByteArray) (olds : List Value) (es : Array MapEntry) (ck : Nat) : Prop where
  base : Base w' N
  o1 : w'.cell? ⟨O1, 16, none⟩ = some (.pointer (some ⟨b1, 0, none⟩))
  o2 : w'.cell? ⟨O2, 16, none⟩ = some (.pointer (some ⟨b2, 0, none⟩))
  id2 : w'.cell? ⟨O2, 0, none⟩ = some (.int .u64 ((n + 2 : Nat) : Int))
  orders : w'.cell? ⟨N + 4, 2, none⟩ = some (.slice (some ⟨g, 0, none⟩) (n + 2) c)
  row : w'.ownsRow b0 78 1 (.slice (some ⟨g, 0, none⟩) (n + 2) c) (n + 2) (olds ++ [.pointer (some ⟨O1, 0, none⟩), .pointer (some ⟨O2, 0, none⟩)])
  h1 : w'.cell? ⟨b1, 0, none⟩ = some (.pointer (some ⟨mBlk N d1, 0, none⟩))
  h2 : w'.cell? ⟨b2, 0, none⟩ = some (.pointer (some ⟨mBlk N d2, 0, none⟩))
  hb1 : ∃ cs, w'.heap[b1]? = some (.cells cs 93 (0, 0))
  hb2 : ∃ cs, w'.heap[b2]? = some (.cells cs 93 (0, 0))
  mgc : w'.cell? ⟨b2, 5, none⟩ = some (.pointer mg)
  marg : mg.isSome = d2
  parties : w'.cell? ⟨N + 4, 1, none⟩ = some (.map (some pb))
  map : w'.heap[pb]? = some (.map es ck)
  last : Last w' N b1 b2 d1 d2 p1 p2 es
  kept : Kept w w' N b0

theorem both_of_more {w w1 w' : World} {N b0 n O O2 b b2 pb g' c' g2 g3 c3 k3 : Nat} {mg mg2 : Option Addr} {d d2 : Bool} {pa cl : ByteArray} {sd sz pr : Int} {p2 cl2 : ByteArray} {sd2 sz2 pr2 : Int} {olds : List Value} {es : Array MapEntry} {ck : Nat} {xs : List Value} {R : List Nat}
    (h : More w w1 w' N b0 n O O2 b b2 pb g' c' g2 g3 c3 k3 mg mg2 d d2 pa cl sd sz pr p2 cl2 sd2 sz2 pr2 olds es ck xs R) (hl : Last w' N b b2 d d2 pa p2 es) : Both w w' N b0 n O O2 b b2 pb g' c' mg2 d d2 pa p2 olds es ck :=
  ⟨h.base, cell_of h.order1 rfl, cell_of h.order2 rfl, cell_of h.order2 rfl, h.orders, h.row, cell_of h.hold1 rfl, cell_of h.hold2 rfl, ⟨_, h.hold1⟩, ⟨_, h.hold2⟩, cell_of h.hold2 rfl, h.marg, h.parties, h.map, hl, h.kept⟩

abbrev Want2 (w w1 : World) (N b0 n O b pb : Nat) (d : Bool) (pa : ByteArray) (olds : List Value) (d2 : Bool) (p2 cl2 : ByteArray) (sd2 sz2 pr2 : Int) : Prop :=
    Calls Yba.prog 13 #[.pointer (some ⟨N + 4, 0, none⟩), .agg #[.string (mkName d2), .string p2, .string cl2, .int .u8 sd2, .int .i64 sz2, .int .i64 pr2, .bool false, .bool false, .int .u64 0]] w1 fun e w' =>
      ∃ O2 b2 g' c' mg2 es ck, e = .returned (.tuple #[.pointer (some ⟨mBlk N d2, 0, none⟩), .pointer (some ⟨O2, 0, none⟩), .nilIface]) ∧ Both w w' N b0 n O O2 b b2 pb g' c' mg2 d d2 pa p2 olds es ck

section
variable {w w1 : World} {N b0 n O b pb g c g2 c2 : Nat} {mg : Option Addr} {d : Bool} {pa cl : ByteArray} {sd sz pr : Int} {olds : List Value}

/-- Another party. -/
theorem acc2A (h1 : One w w1 N b0 n O b pb g c g2 c2 mg d pa cl sd sz pr olds)
    (hn : n ≤ 1000) (hptr : ∀ v, v ∈ olds → ∃ q, v = .pointer q) (hlt : N + 4 < w.heap.size) (d2 : Bool) (p2 cl2 : ByteArray) (sd2 sz2 pr2 : Int) (hs2 : refuse p2 cl2 sd2 sz2 pr2 false 0 false 0 false = none) (hne : pa ≠ p2) : Want2 w w1 N b0 n O b pb d pa olds d2 p2 cl2 sd2 sz2 pr2 := by
  have hlt1 := h1.base.lt
  have lp := lt_of_block h1.map
  have hmiss : Instr.findNow .string (.string p2) (#[{ key := .string pa, val := .slice (some ⟨g2, 0, none⟩) 1 c2, born := 0 }] : Array MapEntry).toList 0 = some none := by
    rw [show (#[{ key := .string pa, val := .slice (some ⟨g2, 0, none⟩) 1 c2, born := 0 }] : Array MapEntry).toList = [{ key := .string pa, val := .slice (some ⟨g2, 0, none⟩) 1 c2, born := 0 }] from rfl, fn_skip (Ne.symm hne)]
    rfl
  refine (acc2new h1 hn hptr hlt d2 p2 cl2 sd2 sz2 pr2 hs2 (fun g3 c3 => (#[{ key := .string pa, val := .slice (some ⟨g2, 0, none⟩) 1 c2, born := 0 }] : Array MapEntry).push { key := .string p2, val := .slice (some ⟨g3, 0, none⟩) 1 c3, born := 1 }) 2 1 (fun bh => [.pointer (some ⟨bh, 0, none⟩)]) [] (by simp) (by omega) (fun bh => ⟨_, rfl⟩)
    (fun wx hx => ?_) (fun wx hx => ?_)).mono ?_
  · have hBx := h1.base.below hx
    exact holding0 (N + 4) (mBlk N d2) (.map (some pb)) none 0 (mSeq d2) p2 wx ((hx.cell (p := ⟨N + 4, 1, none⟩) hlt1).trans h1.parties) (look_miss (P := Yba.prog) Yba.underlying57 Yba.underlying9 (str_key p2) (Yba.zero62 wx) ((hx.block pb lp).trans h1.map) hmiss) (cell_of (hBx.m d2) rfl)
  · have hBx := h1.base.below hx
    have hMx := hBx.m d2
    have hpx := (hx.cell (p := ⟨N + 4, 1, none⟩) hlt1).trans h1.parties
    have hmx := (hx.block pb lp).trans h1.map
    cases d2 with
    | false =>
      refine (addHoldingP wx.heap.size (N + 4) (mBlk N false) pb 1 _ (mSeq false) (mkName false) p2 wx rfl hpx hmx hmiss (cell_of hMx rfl) (cell_of hMx rfl) (cell_of hMx rfl)).mono ?_
      rintro e w' ⟨rfl, g3, c3, _, h⟩
      exact ⟨wx.heap.size, rfl, rfl, g3, c3, h⟩
    | true =>
      refine (addHoldingPd wx.heap.size (N + 4) (mBlk N true) pb 1 _ (mSeq true) (mkName true) p2 wx rfl hpx hmx hmiss (cell_of hMx rfl) (cell_of hMx rfl) (cell_of hMx rfl)).mono ?_
      rintro e w' ⟨rfl, g3, c3, _, h⟩
      exact ⟨wx.heap.size, rfl, rfl, g3, c3, h⟩
  · rintro e w' ⟨O2, b2, g', c', g3, c3, mg2, rfl, hM⟩
    refine ⟨O2, b2, g', c', mg2, _, _, rfl, both_of_more hM (.inr (.inr ⟨hne, hM.ne, g2, c2, 0, g3, c3, 1, ?_, ?_, ?_, ?_⟩))⟩
    · simp [fn_self]
    · simp [fn_skip (Ne.symm hne), fn_self]
    · have h := h1.hs.cellAt 0 (by omega)
      simp at h
      exact (World.cell?_of_block (a := ⟨g2, 0, none⟩) (hM.keep (by simp))).trans h
    · have h := hM.row3.cellAt 0 (by omega)
      simpa using h

/-- The same party, the other market. -/
theorem acc2C (h1 : One w w1 N b0 n O b pb g c g2 c2 mg d pa cl sd sz pr olds)
    (hn : n ≤ 1000) (hptr : ∀ v, v ∈ olds → ∃ q, v = .pointer q) (hlt : N + 4 < w.heap.size) (d2 : Bool) (cl2 : ByteArray) (sd2 sz2 pr2 : Int) (hs2 : refuse pa cl2 sd2 sz2 pr2 false 0 false 0 false = none) (hne : d ≠ d2) : Want2 w w1 N b0 n O b pb d pa olds d2 pa cl2 sd2 sz2 pr2 := by
  have hlt1 := h1.base.lt
  have lp := lt_of_block h1.map
  have lb := lt_of_block h1.hold
  obtain ⟨cg2, hcg2⟩ := ownsRow_block h1.hs
  have lg2 := lt_of_block hcg2
  have hhit : Instr.findNow .string (.string pa) (#[{ key := .string pa, val := .slice (some ⟨g2, 0, none⟩) 1 c2, born := 0 }] : Array MapEntry).toList 0 = some (some (0, .slice (some ⟨g2, 0, none⟩) 1 c2)) := by
    simp [fn_self]
  have hg0 : w1.cell? ⟨g2, 0, none⟩ = some (.pointer (some ⟨b, 0, none⟩)) := by
    have h := h1.hs.cellAt 0 (by omega)
    simpa using h
  have hgB : N + 4 ≠ g2 := by have := h1.loG; omega
  refine (acc2new h1 hn hptr hlt d2 pa cl2 sd2 sz2 pr2 hs2 (fun g3 c3 => (#[{ key := .string pa, val := .slice (some ⟨g2, 0, none⟩) 1 c2, born := 0 }] : Array MapEntry).modify 0 fun e => { e with key := .string pa, val := .slice (some ⟨g3, 0, none⟩) 2 c3 }) 1 2
    (fun bh => if d2 then [.pointer (some ⟨b, 0, none⟩), .pointer (some ⟨bh, 0, none⟩)] else [.pointer (some ⟨bh, 0, none⟩), .pointer (some ⟨b, 0, none⟩)]) [g2] (by simp) (by omega) (fun bh => by cases d2 <;> exact ⟨_, rfl⟩)
    (fun wx hx => ?_) (fun wx hx => ?_)).mono ?_
  · have hBx := h1.base.below hx
    have hH := holding1 (N + 4) (mBlk N d2) (.map (some pb)) g2 c2 b (mBlk N d) (mSeq d) (mSeq d2) pa wx ((hx.cell (p := ⟨N + 4, 1, none⟩) hlt1).trans h1.parties) (look_hit (P := Yba.prog) Yba.underlying57 Yba.underlying9 (str_key pa) ((hx.block pb lp).trans h1.map) hhit)
      ((hx.cell (p := ⟨g2, 0, none⟩) lg2).trans hg0) ((hx.cell (p := ⟨b, 0, none⟩) lb).trans (cell_of h1.hold rfl)) (cell_of (hBx.m d) rfl) (cell_of (hBx.m d2) rfl)
    rw [if_neg (by cases d <;> cases d2 <;> simp_all [mSeq])] at hH
    exact hH
  · have hBx := h1.base.below hx
    have hMx := hBx.m d2
    have hM0 := hBx.m d
    have hpx := (hx.cell (p := ⟨N + 4, 1, none⟩) hlt1).trans h1.parties
    have hmx := (hx.block pb lp).trans h1.map
    have hrx : wx.ownsRow 0 86 1 (.slice (some ⟨g2, 0, none⟩) 1 c2) 1 [.pointer (some ⟨b, 0, none⟩)] := ownsRow_kept h1.hs (Nat.zero_le _) (hx.block g2 lg2)
    have hbx := (hx.cell (p := ⟨b, 0, none⟩) lb).trans (cell_of h1.hold rfl)
    cases d2 with
    | false =>
      cases d with
      | false => exact absurd rfl hne
      | true =>
        refine (addOneFront wx.heap.size (N + 4) (mBlk N false) pb 1 0 g2 c2 b (mBlk N true) _ _ (mSeq true) (mSeq false) (mkName false) pa wx rfl hpx hmx hhit rfl rfl hrx hgB hbx (cell_of hM0 rfl) (by simp [mSeq]) (cell_of hMx rfl) (cell_of hMx rfl) (cell_of hMx rfl)).mono ?_
        rintro e w' ⟨rfl, g3, c3, h⟩
        exact ⟨wx.heap.size, rfl, rfl, g3, c3, h⟩
    | true =>
      cases d with
      | true => exact absurd rfl hne
      | false =>
        refine (addOneEnd wx.heap.size (N + 4) (mBlk N true) pb 1 0 g2 c2 b (mBlk N false) _ _ (mSeq false) (mSeq true) (mkName true) pa wx rfl hpx hmx hhit rfl rfl hrx hgB hbx (cell_of hM0 rfl) (by simp [mSeq]) (cell_of hMx rfl) (cell_of hMx rfl) (cell_of hMx rfl)).mono ?_
        rintro e w' ⟨rfl, g3, c3, h⟩
        exact ⟨wx.heap.size, rfl, rfl, g3, c3, h⟩
  · rintro e w' ⟨O2, b2, g', c', g3, c3, mg2, rfl, hM⟩
    have r0 := hM.row3.cellAt 0 (by omega)
    have r1 := hM.row3.cellAt 1 (by omega)
    have q1 : w'.cell? ⟨b, 0, none⟩ = _ := cell_of hM.hold1 rfl
    have q2 : w'.cell? ⟨b2, 0, none⟩ = _ := cell_of hM.hold2 rfl
    cases d2 with
    | false =>
      cases d with
      | false => exact absurd rfl hne
      | true =>
        refine ⟨O2, b2, g', c', mg2, _, _, rfl, both_of_more hM (.inr (.inl ⟨rfl, hne, hM.ne, g3, c3, 0, b2, b, ?_, ?_, ?_, ?_, ?_⟩))⟩
        · rw [Array.toList_modify]; exact fn_self _ _ _ _ _
        · simpa using r0
        · simpa using r1
        · exact q2
        · exact q1
    | true =>
      cases d with
      | true => exact absurd rfl hne
      | false =>
        refine ⟨O2, b2, g', c', mg2, _, _, rfl, both_of_more hM (.inr (.inl ⟨rfl, hne, hM.ne, g3, c3, 0, b, b2, ?_, ?_, ?_, ?_, ?_⟩))⟩
        · rw [Array.toList_modify]; exact fn_self _ _ _ _ _
        · simpa using r0
        · simpa using r1
        · exact q1
        · exact q2

/-- The same party, the same market. -/
theorem acc2B (h1 : One w w1 N b0 n O b pb g c g2 c2 mg d pa cl sd sz pr olds)
    (hn : n ≤ 1000) (hptr : ∀ v, v ∈ olds → ∃ q, v = .pointer q) (cl2 : ByteArray) (sd2 sz2 pr2 : Int) (hlt : N + 4 < w.heap.size) (hs2 : refuse pa cl2 sd2 sz2 pr2 false 0 false 0 false = none) : Want2 w w1 N b0 n O b pb d pa olds d pa cl2 sd2 sz2 pr2 := by
  have hB := h1.base
  have hlt1 := h1.base.lt
  have lp := lt_of_block h1.map
  have lb := lt_of_block h1.hold
  have lO := lt_of_block h1.order
  obtain ⟨cg2, hcg2⟩ := ownsRow_block h1.hs
  obtain ⟨cg, hcg⟩ := ownsRow_block h1.row
  have lg2 := lt_of_block hcg2
  have lg := lt_of_block hcg
  have hbg : b ≠ g := ne_of_types h1.hold hcg (by decide)
  have hOg : O ≠ g := ne_of_types h1.order hcg (by decide)
  have hgp : g ≠ pb := ne_of_map hcg h1.map
  have hgb0 : b0 ≤ g := (h1.row.lt g (by simp [Value.ownBlock])).1
  have hloO := h1.loO
  have hloB := h1.loB
  have hloP := h1.loP
  have hptr1 : ∀ v, v ∈ olds ++ [Value.pointer (some ⟨O, 0, none⟩)] → ∃ q, v = .pointer q := by
    intro v hv
    simp at hv
    rcases hv with hv | hv
    · exact hptr v hv
    · exact ⟨_, hv⟩
  have hhit : Instr.findNow .string (.string pa) (#[{ key := .string pa, val := .slice (some ⟨g2, 0, none⟩) 1 c2, born := 0 }] : Array MapEntry).toList 0 = some (some (0, .slice (some ⟨g2, 0, none⟩) 1 c2)) := by
    simp [fn_self]
  have hg0 : w1.cell? ⟨g2, 0, none⟩ = some (.pointer (some ⟨b, 0, none⟩)) := by
    have h := h1.hs.cellAt 0 (by omega)
    simpa using h
  refine (accept_found (N + 4) (mBlk N d) (N + 3) 2 (if d then 1 else 0) b0 (n + 1) b (mks2 N) (mkName d) pa cl2 sd2 sz2 pr2 false 0 0 (.slice (some ⟨g, 0, none⟩) (n + 1) c) (olds ++ [.pointer (some ⟨O, 0, none⟩)])
    w1 hB.mks hB.mp (find_mk N d) (cell_of (hB.m d) rfl) h1.orders (hB.fz 2) ⟨_, _, rfl⟩ h1.row (Nat.le_trans h1.lt h1.kept.size) (by omega) hptr1
    (fun wx hx => ?_) (fun wx hx => ?_) (fun wx hx => held_not _ _ _ _ _ _ _ _ _ wx) ?_ hs2).mono ?_
  · have hBx := h1.base.below hx
    have hH := holding1 (N + 4) (mBlk N d) (.map (some pb)) g2 c2 b (mBlk N d) (mSeq d) (mSeq d) pa wx ((hx.cell (p := ⟨N + 4, 1, none⟩) hlt1).trans h1.parties) (look_hit (P := Yba.prog) Yba.underlying57 Yba.underlying9 (str_key pa) ((hx.block pb lp).trans h1.map) hhit)
      ((hx.cell (p := ⟨g2, 0, none⟩) lg2).trans hg0) ((hx.cell (p := ⟨b, 0, none⟩) lb).trans (cell_of h1.hold rfl)) (cell_of (hBx.m d) rfl) (cell_of (hBx.m d) rfl)
    rw [if_pos rfl] at hH
    exact hH
  · have hbx := (hx.block b lb).trans h1.hold
    exact find_none b 1 _ cl2 wx (cell_of hbx rfl) (cell_of hbx rfl)
  · simp [Value.ownBlock]
    exact h1.gne
  · rintro e w' ⟨O2, g', c', wx, rfl, hPl, hrowF⟩
    have hlo := hPl.lo
    have hhi := hPl.hi
    have hT : Turn ((N + 4) :: O2 :: [g]) wx w' := hPl.turn
    have hxs1 := hPl.old.size
    have toEnd : ∀ k, k < w1.heap.size → k ≠ N + 4 → k ≠ g → w'.heap[k]? = w1.heap[k]? := fun k hk h1' h3' =>
      (hT.block k (by omega) (by simp [h1', h3']; omega)).trans (hPl.old.block k hk)
    have hgx : wx.heap[g]? = some (.cells cg 78 (0, 0)) := (hPl.old.block g lg).trans hcg
    have hkept : Kept w w' N b0 := by
      refine Kept.weaken hT (Kept.weaken (Turn.of_below hPl.old []) h1.kept (by simp)) (fun k hk hks => ?_)
      simp at hk
      have := h1.kept.size
      rcases hk with hk | hk | hk
      · exact .inl hk
      · omega
      · subst hk
        exact .inr ⟨hgb0, cg, hgx⟩
    have hbase : Base w' N := by
      have tb : Turn [] w1 wx := Turn.of_below hPl.old []
      refine hB.turn (L := (N + 4) :: O2 :: [g]) ⟨hT.os.trans tb.os, hT.tape.trans tb.tape, hT.output.trans tb.output, by have := hT.size; omega, fun k hk hm => ?_⟩ (fun k hk1 hk2 hm => ?_) (fun i hi => ?_) (fun i => ?_)
      · simp at hm
        exact toEnd k hk hm.1 hm.2.2
      · simp at hm
        rcases hm with hm | hm | hm
        · omega
        · omega
        · subst hm
          exact hB.own_far h1.row k (by simp [Value.ownBlock]) ⟨hk1, hk2⟩
      · rw [hPl.eng i (by omega)]
        exact hPl.old.cell (p := ⟨N + 4, i, none⟩) hlt1
      · rw [hPl.engFz i]
        exact hPl.old.frozen (p := ⟨N + 4, i, none⟩) hlt1
    have hO' := (toEnd O lO (by omega) hOg).trans h1.order
    have hb' := (toEnd b lb (by omega) hbg).trans h1.hold
    have hp' := (toEnd pb lp (by omega) (Ne.symm hgp)).trans h1.map
    refine ⟨O2, b, g', c', mg, _, _, rfl, hbase, cell_of hO' rfl, cell_of hPl.order rfl, cell_of hPl.order rfl, hPl.orders, ?_, cell_of hb' rfl, cell_of hb' rfl, ⟨_, hb'⟩, ⟨_, hb'⟩, cell_of hb' rfl, h1.marg, ?_, hp', .inl ⟨rfl, rfl, rfl, g2, c2, 0, hhit⟩, hkept⟩
    · have h := hrowF
      rw [List.append_assoc] at h
      exact h
    · exact (hPl.eng 1 (by decide)).trans ((hPl.old.cell (p := ⟨N + 4, 1, none⟩) hlt1).trans h1.parties)

theorem acc2 (h1 : One w w1 N b0 n O b pb g c g2 c2 mg d pa cl sd sz pr olds)
    (hn : n ≤ 1000) (hptr : ∀ v, v ∈ olds → ∃ q, v = .pointer q) (hlt : N + 4 < w.heap.size) (d2 : Bool) (p2 cl2 : ByteArray) (sd2 sz2 pr2 : Int) (hs2 : refuse p2 cl2 sd2 sz2 pr2 false 0 false 0 false = none) : Want2 w w1 N b0 n O b pb d pa olds d2 p2 cl2 sd2 sz2 pr2 := by
  by_cases hp : pa = p2
  · subst hp
    by_cases hd : d = d2
    · subst hd
      exact acc2B h1 hn hptr cl2 sd2 sz2 pr2 hlt hs2
    · exact acc2C h1 hn hptr hlt d2 cl2 sd2 sz2 pr2 hs2 hd
  · exact acc2A h1 hn hptr hlt d2 p2 cl2 sd2 sz2 pr2 hs2 hp
end

end Go.Proofs.Ybulkapzy
