import Derived.Test.YbulkapxuMid
namespace Go.Proofs.Ybulkapxu
open Go.RowKit

theorem one_int (n : Nat) : ∀ u ∈ [Value.int .i64 (n : Int)], u.oneCell' = true := by
  intro u hu
  simp at hu
  subst hu
  rfl

/-- Whether a set of kinds has the listed kind of bit b. -/
def kp (b kd : Nat) : Bool := bits .and .u16 (bits .and .u16 (kd : Int) (IntKind.u16.wrap (2 ^ b))) 127 != 0

/-- Behind the loop over the kinds: the entry's place, the count, the stack. -/
structure Mid2 (w wx : World) (N S B en n : Nat) (K : Nat → List Nat) (M : Nat → Nat → List Nat) (C : Nat → Nat) (τ τi : Nat → Nat) (bx : Array Value) : Prop where
  lists : Lists wx N S K M C τi
  box : wx.heap[B]? = some (.cells bx 47 (0, 0))
  tB : τi B = 9
  agree : ∀ k, k < w.heap.size → τi k = τ k
  chg : Chg τ (fun t => t = 0 ∨ t = 1 ∨ t = 5 ∨ 10 ≤ t) w wx
  st : wx.cell? ⟨S, 0, none⟩ = w.cell? ⟨S, 0, none⟩
  at3 : wx.cell? ⟨en, 3, none⟩ = some (.int .i64 (n : Int))
  fz3 : wx.frozen? ⟨en, 3, none⟩ = false
  ten : τi en = 5

theorem Mid.entry {w wx : World} {N S B en n : Nat} {K : Nat → List Nat} {M : Nat → Nat → List Nat} {C : Nat → Nat} {τ τi : Nat → Nat} {bx : Array Value} {x : Value} (h : Mid w wx N S B K M C τ τi bx) (he : w.cell? ⟨en, 3, none⟩ = some x) (hf : w.frozen? ⟨en, 3, none⟩ = false) (ht : τ en = 5) :
    wx.cell? ⟨en, 3, none⟩ = some x ∧ wx.frozen? ⟨en, 3, none⟩ = false ∧ Mid2 w (wx.setCell ⟨en, 3, none⟩ (.int .i64 (n : Int))) N S B en n K M C τ τi bx := by
  have le := World.block_lt_of_cell? _ _ he
  have hb : wx.heap[en]? = w.heap[en]? := h.chg.block en le (by rw [ht]; omega)
  have c1 := (World.cell?_of_block (a := ⟨en, 3, none⟩) hb).trans he
  have c2 := (World.frozen?_of_block (a := ⟨en, 3, none⟩) hb).trans hf
  have lx := World.block_lt_of_cell? _ _ c1
  have tx : τi en = 5 := (h.agree en le).trans ht
  have hc : Chg τi (fun t => t = 5) wx (wx.setCell ⟨en, 3, none⟩ (.int .i64 (n : Int))) := (Chg.refl _ _ _).setCell (fun _ => tx) _
  have hlB := lt_of_block h.box
  refine ⟨c1, c2, h.lists.frame hc (fun t ht hl => ?_) (fun _ _ => rfl), (hc.block B hlB (by rw [h.tB]; omega)).trans h.box, h.tB, h.agree, ?_, ?_, World.cell?_setCell_same _ _ _ c1, by rw [World.frozen?_setCell]; exact c2, tx⟩
  · subst ht; unfold listTag at hl; omega
  · exact (h.chg.mono (fun t ht => by omega)).trans (hc.mono (fun t ht => by omega)) h.agree
  · exact (World.cell?_of_block (a := ⟨S, 0, none⟩) (hc.block S h.lists.ltS (by rw [h.lists.tS]; omega))).trans h.st

theorem Mid2.draw {w wx : World} {N S B en n : Nat} {K : Nat → List Nat} {M : Nat → Nat → List Nat} {C : Nat → Nat} {τ τi : Nat → Nat} {bx : Array Value} (h : Mid2 w wx N S B en n K M C τ τi bx) (q : Nat) : Mid2 w (wx.drewN q) N S B en n K M C τ τi bx :=
  ⟨h.lists.past ⟨rfl, rfl, rfl, Nat.le_refl _, fun _ _ => rfl⟩, h.box, h.tB, h.agree, h.chg.drewN _, h.st, h.at3, h.fz3, h.ten⟩

/-- No block counts the element. -/
theorem Mid2.count0 {w wx : World} {N S B en n : Nat} {K : Nat → List Nat} {M : Nat → Nat → List Nat} {C : Nat → Nat} {τ τi : Nat → Nat} {bx : Array Value} (h : Mid2 w wx N S B en n K M C τ τi bx) : Mid2 w wx N S B en n K M (fun b => if b = 0 then C b + 1 else C b) τ τi bx := by
  obtain ⟨v, h1, h2, h3⟩ := h.lists.opened
  refine ⟨?_, h.box, h.tB, h.agree, h.chg, h.st, h.at3, h.fz3, h.ten⟩
  exact h.lists.openUpd (Chg.refl _ _ _) (fun _ _ => rfl) (fun _ _ => rfl) (fun _ => rfl) h1 (by simpa using h2) h3

/-- A block's count goes up by one. -/
theorem Mid2.count {w wx wy : World} {N S B en n go c : Nat} {K : Nat → List Nat} {M : Nat → Nat → List Nat} {C C' : Nat → Nat} {τ τi : Nat → Nat} {bx : Array Value} (h : Mid2 w wx N S B en n K M C τ τi bx) (h1 : wx.cell? ⟨S, 22, none⟩ = some (.slice (some ⟨go, 0, none⟩) 2 c)) (h3 : τi go = 1) (j : Nat) (v : Value)
    (hy : wy = wx.drew.setCell ⟨go, j, none⟩ v) (hr : wy.ownsRow N 3 1 (.slice (some ⟨go, 0, none⟩) 2 c) 2 [.int .i64 (C' 1), .int .i64 (C' 2)]) : Mid2 w wy N S B en n K M C' τ τi bx := by
  have hL := h.lists
  have hc : Chg τi (fun t => t = 0 ∨ t = 1) wx wy := by rw [hy]; exact ((Chg.refl _ _ wx).drew).setCell (fun _ => .inr h3) _
  have hgS : S ≠ go := by rintro rfl; rw [hL.tS] at h3; omega
  have hge : en ≠ go := by rintro rfl; rw [h.ten] at h3; omega
  have key : ∀ k, k ≠ go → wy.heap[k]? = wx.heap[k]? := fun k hk => by rw [hy]; exact Below.heap_setCell _ _ _ _ hk
  have hSb := key S hgS
  have heb := key en hge
  have hB : B ≠ go := by rintro rfl; rw [h.tB] at h3; omega
  refine ⟨hL.openUpd hc (fun _ _ => rfl) (fun i _ => World.cell?_of_block (a := ⟨S, i, none⟩) hSb) (fun i => World.frozen?_of_block (a := ⟨S, i, none⟩) hSb) ((World.cell?_of_block (a := ⟨S, 22, none⟩) hSb).trans h1) hr ?_, (key B hB).trans h.box, h.tB, h.agree, ?_, ?_, ?_, ?_, h.ten⟩
  · intro g hg
    simp [Value.ownBlock] at hg
    subst hg
    exact h3
  · exact h.chg.trans (hc.mono (fun t ht => by omega)) h.agree
  · exact (World.cell?_of_block (a := ⟨S, 0, none⟩) hSb).trans h.st
  · exact (World.cell?_of_block (a := ⟨en, 3, none⟩) heb).trans h.at3
  · exact (World.frozen?_of_block (a := ⟨en, 3, none⟩) heb).trans h.fz3

/-- A row of two numbers, one of them laid anew. -/
theorem two_set {w : World} {N go c : Nat} {x y z : Value} (h : w.ownsRow N 3 1 (.slice (some ⟨go, 0, none⟩) 2 c) 2 [x, y]) (j : Nat) (hj : j < 2) : (w.setCell ⟨go, j, none⟩ z).ownsRow N 3 1 (.slice (some ⟨go, 0, none⟩) 2 c) 2 (if j = 0 then [z, y] else [x, z]) := by
  rcases h.2 with ⟨h0, _⟩ | ⟨g, c', cur, hv, h1, h2, h3, h4, h5, h6⟩
  · cases h0
  · cases hv
    have hl : j < cur.size := by omega
    refine ⟨by split <;> rfl, .inr ⟨go, c, cur.setIfInBounds j z, rfl, h1, heap_setCell_same _ _ _ _ _ _ h2, h3, h4, by simp [h5], ?_⟩⟩
    rw [Array.toList_setIfInBounds]
    have e : cur.toList = x :: y :: cur.toList.drop 2 := by
      have h7 : cur.toList.take 2 = [x, y] := by simpa using h6
      have h8 := List.take_append_drop 2 cur.toList
      rw [h7] at h8
      exact h8.symm
    rw [e]
    have hc : j = 0 ∨ j = 1 := by omega
    rcases hc with rfl | rfl <;> simp

theorem elCells_one (o : Option El) : ∀ u ∈ elCells o, u.oneCell' = true := by
  intro u hu
  refine flat_oneCell [o] u ?_
  unfold flat
  simpa using hu

theorem two_set0 {w : World} {N go c : Nat} {x y : Value} (h : w.ownsRow N 3 1 (.slice (some ⟨go, 0, none⟩) 2 c) 2 [x, y]) (z : Value) : (w.setCell ⟨go, 0, none⟩ z).ownsRow N 3 1 (.slice (some ⟨go, 0, none⟩) 2 c) 2 [z, y] := by
  have h2 := two_set (z := z) h 0 (by omega)
  simpa using h2
theorem two_set1 {w : World} {N go c : Nat} {x y : Value} (h : w.ownsRow N 3 1 (.slice (some ⟨go, 0, none⟩) 2 c) 2 [x, y]) (z : Value) : (w.setCell ⟨go, 1, none⟩ z).ownsRow N 3 1 (.slice (some ⟨go, 0, none⟩) 2 c) 2 [x, z] := by
  have h2 := two_set (z := z) h 1 (by omega)
  simpa using h2

/-- What 'push' leaves. -/
structure Pushed (w w' : World) (N S n en : Nat) (K : Nat → List Nat) (M : Nat → Nat → List Nat) (C : Nat → Nat) (τ τ' : Nat → Nat) (fl : List Value) : Prop where
  agree : ∀ k, k < w.heap.size → τ' k = τ k
  lists : Lists w' N S K M C τ'
  at3 : w'.cell? ⟨en, 3, none⟩ = some (.int .i64 (n : Int))
  fz3 : w'.frozen? ⟨en, 3, none⟩ = false
  stack : ∃ g cap, w'.cell? ⟨S, 0, none⟩ = some (.slice (some ⟨g, 0, none⟩) (n + 1) cap) ∧ w'.ownsRow N 47 8 (.slice (some ⟨g, 0, none⟩) (n + 1) cap) (n + 1) fl ∧ τ' g = 2
  chg : Chg τ (fun t => t = 0 ∨ t = 1 ∨ t = 2 ∨ t = 5 ∨ 10 ≤ t) w w'

theorem Mid2.stack {w wx w9 wy : World} {N S B en n g H c cap : Nat} {a0 : Option Addr} {K : Nat → List Nat} {M : Nat → Nat → List Nat} {C : Nat → Nat} {τ τi : Nat → Nat} {bx : Array Value} {fl ol : List Value} {o : Obj} (h : Mid2 w wx N S B en n K M C τ τi bx) (h0 : wx.cell? ⟨S, 0, none⟩ = some (.slice a0 n c))
    (hold : wx.ownsRow N 47 8 (.slice a0 n c) n ol) (htag : ∀ g, (Value.slice a0 n c).ownBlock = some g → τi g = 2) (hown : w9.ownsRow N 47 8 (.slice (some ⟨g, 0, none⟩) (n + 1) cap) (n + 1) fl) (hgrow : (wx.drew.alloc o).grownBy w9 (Value.slice a0 n c).ownBlock)
    (hat : (Value.slice a0 n c).ownBlock = some g ∨ g = H) (hH : H = wx.heap.size + 1) (hy : wy = w9.setCell ⟨S, 0, none⟩ (.slice (some ⟨g, 0, none⟩) (n + 1) cap)) :
    Pushed w wy N S n en K M C τ (fun k => if k < wx.heap.size then τi k else 2) fl := by
  have hL := h.lists
  have lS := hL.ltS
  have tS := hL.tS
  have le := World.block_lt_of_cell? _ _ h.at3
  have hSv : (Value.slice a0 n c).ownBlock ≠ some S := fun e => by have := htag S e; omega
  have hev : (Value.slice a0 n c).ownBlock ≠ some en := fun e => by have := htag en e; rw [h.ten] at this; omega
  have hS9 : w9.heap[S]? = wx.heap[S]? := (hgrow.block S (by simp; omega) (Ne.symm hSv)).trans (Below.heap_alloc _ _ _ lS)
  have he9 : w9.heap[en]? = wx.heap[en]? := (hgrow.block en (by simp; exact Nat.lt_succ_of_lt le) (Ne.symm hev)).trans (Below.heap_alloc _ _ _ le)
  have hes : en ≠ S := by rintro rfl; have h5 := h.ten; rw [tS] at h5; cases h5
  have hgS : g ≠ S := by
    rintro rfl
    rcases hat with h1 | h1
    · exact hSv h1
    · omega
  have c9 : ∀ i, w9.cell? ⟨S, i, none⟩ = wx.cell? ⟨S, i, none⟩ := fun i => World.cell?_of_block (a := ⟨S, i, none⟩) hS9
  have hc9 : Chg τi (fun t => t = 2) wx w9 := (((Chg.refl _ _ wx).drew).alloc o).grown hgrow (fun k hk _ => htag k hk)
  have hl9 : Lists w9 N S K M C (fun k => if k < wx.heap.size then τi k else 2) := hL.frame hc9 (fun t ht hl => by subst ht; unfold listTag at hl; omega) (fun k hk => if_pos hk)
  have hcy : Chg τi (fun t => t = 0 ∨ t = 2) wx wy := by rw [hy]; exact (hc9.mono (fun t ht => .inr ht)).setCell (fun _ => .inl tS) _
  have cy : ∀ i, i ≠ 0 → wy.cell? ⟨S, i, none⟩ = w9.cell? ⟨S, i, none⟩ := fun i hi => by
    rw [hy, World.cell?_setCell_other _ _ _ _ (by intro e; simp at e <;> omega)]
  have hby : ∀ k, k ≠ S → wy.heap[k]? = w9.heap[k]? := fun k hk => by rw [hy]; exact Below.heap_setCell _ _ _ _ hk
  have hly : Lists wy N S K M C (fun k => if k < wx.heap.size then τi k else 2) := by
    have hSk : ∀ g' t, (if g' < wx.heap.size then τi g' else 2) = t → t ≠ 0 → g' ≠ S := by
      rintro g' t ht hne rfl
      rw [if_pos lS, tS] at ht
      omega
    refine ⟨hl9.low, by rw [hy, World.size_setCell]; exact hl9.le, hl9.tS, by rw [hy, World.size_setCell]; exact hl9.ltS, fun i => by rw [hy, World.frozen?_setCell]; exact hl9.fz i, fun b hb => ?_, fun a ha => ?_, ?_⟩
    · obtain ⟨v, h1, h2, h3⟩ := hl9.kind b hb
      exact ⟨v, (cy _ (by omega)).trans h1, ownsRow_same h2 (fun q hq => hby q (hSk q _ (h3 q hq) (by omega))), h3⟩
    · refine (hl9.name a ha).frame (fun _ _ => rfl) (cy _ (by omega)) (fun k hk ht => hby k ?_)
      rcases ht with ht | ⟨m, hm, ht⟩
      · exact hSk k _ ht (by omega)
      · exact hSk k _ ht (by omega)
    · obtain ⟨v, h1, h2, h3⟩ := hl9.opened
      exact ⟨v, (cy _ (by omega)).trans h1, ownsRow_same h2 (fun q hq => hby q (hSk q _ (h3 q hq) (by omega))), h3⟩
  refine ⟨fun k hk => by rw [if_pos (Nat.lt_of_lt_of_le hk h.chg.size)]; exact h.agree k hk, hly, ?_, ?_, ⟨g, cap, ?_, ?_, ?_⟩, ?_⟩
  · exact (World.cell?_of_block (a := ⟨en, 3, none⟩) ((hby en hes).trans he9)).trans h.at3
  · exact (World.frozen?_of_block (a := ⟨en, 3, none⟩) ((hby en hes).trans he9)).trans h.fz3
  · rw [hy]; exact World.cell?_setCell_same _ _ _ ((c9 0).trans h0)
  · refine ownsRow_same hown (fun q hq => hby q ?_)
    simp [Value.ownBlock] at hq
    subst hq
    exact hgS
  · exact tag_append (fun x hx => ⟨htag x hx, (hold.lt x hx).2⟩) hat (by omega)
  · exact (h.chg.mono (fun t ht => by omega)).trans (hcy.mono (fun t ht => by omega)) h.agree


set_option maxRecDepth 20000 in
set_option maxHeartbeats 2000000 in
theorem push_any (N S n c ns nm kd en bk : Nat) (x : Value) (a0 : Option Addr) (cs : St) (K : Nat → List Nat) (M : Nat → Nat → List Nat) (C : Nat → Nat) (τ : Nat → Nat) (w : World) (hst : w.ownsRow N 47 8 (.slice a0 n c) n (flat cs)) (htt : ∀ g, (Value.slice a0 n c).ownBlock = some g → τ g = 2) (hL : Lists w N S K M C τ) (h0 : w.cell? ⟨S, 0, none⟩ = some (.slice a0 n c)) (hns : ns < 3) (hnm : nm < 3) (hn : n ≤ 1024) (hen : w.cell? ⟨en, 3, none⟩ = some x) (hef : w.frozen? ⟨en, 3, none⟩ = false) (hten : τ en = 5) (hbk : bk < 3) (hCl : ∀ b, C b ≤ 1024) (hKl : ∀ b, (K b).length ≤ 1024) (hMl : ∀ a m, (M a m).length ≤ 1024) :
    Calls Yba.prog 7 #[.pointer (some ⟨S, 0, none⟩), .agg #[.int .u8 ns, .string (tblName nm), .int .u8 0, .int .u16 kd, .pointer (some ⟨en, 0, none⟩), .bool false, .string ⟨#[]⟩, .int .i64 bk]] w fun e w' => (∃ v, e = .returned v) ∧ ∃ τ', Pushed w w' N S n en (fun b => if b < 16 ∧ kp b kd = true then K b ++ [n] else K b) (fun x => if x = ns then (fun y => if y = nm then M ns nm ++ [n] else M ns y) else M x) (fun b => if b = bk then C b + 1 else C b) τ τ' (flat cs ++ elCells (some ⟨ns, nm, kd, en, bk⟩)) := by
  have hnsa : (0 : Int) ≤ (ns : Int) := by omega
  have hnsb : (ns : Int) < 3 := by omega
  have hSl := hL.ltS
  obtain ⟨bx, hbx⟩ : ∃ bx : Array Value, bx = #[.int .u8 ns, .string (tblName nm), .int .u8 0, .int .u16 kd, .pointer (some ⟨en, 0, none⟩), .bool false, .string ⟨#[]⟩, .int .i64 bk] := ⟨_, rfl⟩
  have HBX := hide hbx
  have HL := hide hL
  have H0 := hide h0
  have HST := hide hst
  have HTT := hide htt
  clear hL hbx hst htt
  go_enter Yba.func7, Yba.ntmps7
  go_wp2
  obtain ⟨w1, hw1⟩ : ∃ w1, w1 = w.alloc (.cells #[.int .u8 ns, .string (tblName nm), .int .u8 0, .int .u16 kd, .pointer (some ⟨en, 0, none⟩), .bool false, .string ⟨#[]⟩, .int .i64 bk] 47) := ⟨_, rfl⟩
  rw [← hw1]
  obtain ⟨B, hBB⟩ : ∃ B, B = w.heap.size := ⟨_, rfl⟩
  rw [← hBB]
  have hM1 : Mid w w1 N S B K M C τ (fun k => if k < w.heap.size then τ k else 9) bx := by
    have hb : Below w.heap.size w w1 := by rw [hw1]; exact (Below.refl _ _).alloc (Nat.le_refl _) _
    refine ⟨(unhide HL).frame (T := fun _ => False) (Chg.of_below hb _) (fun _ h => h.elim) (fun k hk => if_pos hk), ?_, ?_, fun k hk => if_pos hk, Chg.of_below hb _, hb.cell (p := ⟨S, 0, none⟩) hSl⟩
    · rw [hw1, hBB, unhide HBX]; exact heap_alloc_new w _
    · rw [hBB]; simp
  obtain ⟨τ0, hτ0⟩ : ∃ τ0, τ0 = fun k => if k < w.heap.size then τ k else 9 := ⟨_, rfl⟩
  rw [← hτ0] at hM1
  have hbox : w1.heap[B]? = some (.cells #[.int .u8 ns, .string (tblName nm), .int .u8 0, .int .u16 kd, .pointer (some ⟨en, 0, none⟩), .bool false, .string ⟨#[]⟩, .int .i64 bk] 47 (0, 0)) := by have h := hM1.box; rw [unhide HBX] at h; exact h
  have b0 : w1.cell? ⟨B, 0, none⟩ = some (.int .u8 ns) := cell_of hbox rfl
  have HBB := hide hBB
  have HM1 := hide hM1
  clear hw1 hBB hM1 h0 hτ0 hbox
  go_quiet (fail)
  obtain ⟨w2, hw2⟩ : ∃ w2, w2 = w1.drewN nq := ⟨_, rfl⟩
  rw [← hw2]
  have hM2 : Mid w w2 N S B K M C τ τ0 bx := by rw [hw2]; exact ⟨(unhide HM1).lists.past ⟨rfl, rfl, rfl, Nat.le_refl _, fun _ _ => rfl⟩, (unhide HM1).box, (unhide HM1).tB, (unhide HM1).agree, (unhide HM1).chg.drewN _, (unhide HM1).st⟩
  have HM2 := hide hM2
  clear hw2 b0 HM1 hM2
  obtain ⟨ro, hro⟩ : ∃ ro, w2.cell? ⟨S, 2 + ns, none⟩ = some (.map ro) := by
    rcases (unhide HM2).lists.name ns hns with ⟨h1, _⟩ | ⟨r, _, _, h1, _⟩
    · exact ⟨none, h1⟩
    · exact ⟨some r, h1⟩
  have heq := fun w => run_eql_map_nil (P := Yba.prog) w 28 _ _ ro Yba.underlying28
  have hmk := fun wq => run_makeMap (P := Yba.prog) 28 wq
  go_upto_if 23 with fail
  go_cut [5] from 24 to 26 (fun s5 wx => s5 = .pointer (some ⟨S, 2 + ns, none⟩) ∧ ∃ r es ck τ1, wx.cell? ⟨S, 2 + ns, none⟩ = some (.map (some r)) ∧ wx.heap[r]? = some (.map es ck) ∧ τ1 r = 30 + ns ∧ Mid w wx N S B K M C τ τ1 bx ∧ (∀ m, m < 3 → (Instr.findNow .string (.string (tblName m)) es.toList 0 = some none ∧ M ns m = []) ∨
      ∃ k v en, Instr.findNow .string (.string (tblName m)) es.toList 0 = some (some (k, v)) ∧ es[k]? = some en ∧ en.key = .string (tblName m) ∧ Row wx N v (M ns m) ∧ ∀ g, v.ownBlock = some g → τ1 g = 100 + 3 * ns + m))
  case first =>
    cases ro with
    | none =>
      have hf := (unhide HM2).lists.fz (2 + ns)
      have hSl2 := (unhide HM2).lists.ltS
      go_wp2
      go_meet
      case rel =>
        have hM : ∀ m, m < 3 → M ns m = [] := by
          rcases (unhide HM2).lists.name ns hns with ⟨_, h2⟩ | ⟨r, _, _, h1, _⟩
          · exact h2
          · rw [hro] at h1; cases h1
        obtain ⟨n1, n2, n3, n4, n5⟩ := (unhide HM2).lists.mapNew hns hro hM rfl
        exact ⟨rfl, _, _, _, _, n2, n3, by simp, (unhide HM2).step n1 (n4.mono (fun t ht => .inl ht)) (fun k hk => if_pos hk) (n5 0 (by omega)), fun m hm => .inl ⟨rfl, hM m hm⟩⟩
    | some r =>
      go_wp2
      go_meet
      case rel =>
        rcases (unhide HM2).lists.name ns hns with ⟨h1, _⟩ | ⟨r', es, ck, h1, h2, h3, h4⟩
        · rw [hro] at h1; cases h1
        · rw [hro] at h1
          cases h1
          exact ⟨rfl, r, es, ck, τ0, hro, h3, h2, unhide HM2, h4⟩
  case rest =>
  obtain ⟨rfl, r, es, ck, τ1, g1, g2, g3, hM3, hE3⟩ := hcut
  generalize wc = w3 at *
  obtain ⟨v, F, G, e1, e2, e3, e4, e5⟩ := NameOk.entry (N := N) (S := S) g3 g2 hE3 hnm
  obtain ⟨va, vc, hv⟩ : ∃ va vc, v = .slice va (M ns nm).length vc := by
    rcases e1.2 with ⟨h, h2⟩ | ⟨gb, cb, cur, h, _⟩
    · exact ⟨none, 0, by rw [h, h2]⟩
    · exact ⟨some ⟨gb, 0, none⟩, cb, h⟩
  have hbox : w3.heap[B]? = some (.cells #[.int .u8 ns, .string (tblName nm), .int .u8 0, .int .u16 kd, .pointer (some ⟨en, 0, none⟩), .bool false, .string ⟨#[]⟩, .int .i64 bk] 47 (0, 0)) := by have h := hM3.box; rw [unhide HBX] at h; exact h
  have b1 : w3.cell? ⟨B, 1, none⟩ = some (.string (tblName nm)) := cell_of hbox rfl
  have lB := lt_of_block hbox
  have lr := lt_of_block g2
  have lS := hM3.lists.ltS
  have hNle := hM3.lists.le
  have hMl1 := hMl ns nm
  obtain ⟨i0, hi0, hz0, hz1, hz2⟩ := info_parts Yba.info3
  subst hv
  -- the new world's facts, behind the append
  have far : ∀ (o : Obj) (w' : World), (w3.drew.alloc o).grownBy w' (Value.slice va (M ns nm).length vc).ownBlock → w'.cell? ⟨S, 2 + ns, none⟩ = some (.map (some r)) ∧ w'.cell? ⟨B, 1, none⟩ = some (.string (tblName nm)) ∧ w'.heap[r]? = some (.map es ck) := by
    intro o w' hg
    have key : ∀ k, k < w3.heap.size → τ1 k ≠ 100 + 3 * ns + nm → w'.heap[k]? = w3.heap[k]? := fun k hk ht => (hg.block k (by simp; omega) (fun e => ht (e2 k e.symm))).trans (Below.heap_alloc _ _ _ hk)
    exact ⟨(World.cell?_of_block (a := ⟨S, 2 + ns, none⟩) (key S lS (by rw [hM3.lists.tS]; omega))).trans g1, (World.cell?_of_block (a := ⟨B, 1, none⟩) (key B lB (by rw [hM3.tB]; omega))).trans b1, (key r lr (by rw [g3]; omega)).trans g2⟩
  have hl1 := e3 w3.drew g2
  have hl2 : ∀ o, (Instr.lookup 28 (.map (some r)) (.string (tblName nm)) false).run Yba.prog (w3.drew.alloc o) = .ok (.slice va (M ns nm).length vc) (w3.drew.alloc o) := fun o => e3 _ ((Below.heap_alloc _ _ _ lr).trans g2)
  have hl3 : ∀ o, (Instr.lookup 28 (.map (some r)) (.string (tblName nm)) false).run Yba.prog (w3.alloc o).drew = .ok (.slice va (M ns nm).length vc) (w3.alloc o).drew := fun o => e3 _ ((Below.heap_alloc _ _ _ lr).trans g2)
  have hSr : S ≠ r := by rintro rfl; rw [hM3.lists.tS] at g3; omega
  have hBr : B ≠ r := by rintro rfl; rw [hM3.tB] at g3; omega
  have HE4 := hide e4
  have HE1 := hide e1
  have HE2 := hide e2
  have HE5 := hide e5
  have HM3 := hide hM3
  have HFAR := hide far
  clear e3 e4 e1 e2 e5 hM3 hE3 far hbox HM2 heq hmk hro
  go_upto_region 5 with fail
  go_cut [5] from 27 to 42 (fun s5 wx => s5 = .pointer (some ⟨S, 2 + ns, none⟩) ∧ ∃ τ2, Mid w wx N S B K (fun x => if x = ns then (fun y => if y = nm then M ns nm ++ [n] else M ns y) else M x) C τ τ2 bx)
  case first =>
    go_region_held3 (fun wx => wx.cell? ⟨S, 2 + ns, none⟩ = some (.map (some r)) ∧ wx.cell? ⟨B, 1, none⟩ = some (.string (tblName nm))) (go_keep)
      ((refine step_append_lies _ rfl _ _ 30 rfl N 3 i0 (.int .i64 0) 1 8 Yba.underlying30 hi0 hz0 hz1 hz2 rfl (by decide) (.slice va (M ns nm).length vc) _ _ (by simp [Act.eval]) (World.ownsRow.alloc (w := w3.drew) (unhide HE1) _) ⟨w3.heap.size, 0, none⟩ 1 1 [.int .i64 n] (by simp [Act.eval]) rfl (cell_one_new w3.drew _ _) (one_int n) (by omega) (by unfold maxLen; omega) (by omega) (by simp; omega) (w3.heap.size + 1) (by simp) ?_; intro g cap w4 hown hgrow hat hlt; obtain ⟨f1, f2, f3⟩ := unhide HFAR _ _ hgrow; have hupd := unhide HE4 w4 (.slice (some ⟨g, 0, none⟩) ((M ns nm).length + 1) cap) f3; have k1 := fun o => (World.cell?_of_block (a := ⟨S, 2 + ns, none⟩) (setB_other w4 r S o hSr)).trans f1; have k2 := fun o => (World.cell?_of_block (a := ⟨B, 1, none⟩) (setB_other w4 r B o hBr)).trans f2))
    all_goals
      go_wp2
      go_meet
      case rel => exact ⟨rfl, _, (unhide HM3).name hns hnm g1 g2 g3 (unhide HE1) (unhide HE2) (unhide HE5) hown hgrow hat rfl rfl⟩
  case rest =>
  obtain ⟨rfl, τ2, hM5⟩ := hcut
  generalize wc = w5 at *
  obtain ⟨M', hM'⟩ : ∃ M' : Nat → Nat → List Nat, M' = fun x => if x = ns then (fun y => if y = nm then M ns nm ++ [n] else M ns y) else M x := ⟨_, rfl⟩
  rw [← hM'] at hM5
  have HM5 := hide hM5
  have HMM := hide hM'
  clear hM5 hM' HE1 HE2 HE4 HE5 HFAR HM3 hl1 hl2 hl3 hSr hBr g1 g2 g3 b1 lB lr lS hNle hMl1
  go_wp2
  go_loopw [43] (fun i wr => ∃ j τj, j ≤ 16 ∧ i = .int .i64 (j : Nat) ∧ Mid w wr N S B (fun b => if b < j ∧ kp b kd = true then K b ++ [n] else K b) M' C τ τj bx) (fun i _ => 16 - (intOf i).toNat)
  case atStart =>
    refine ⟨0, τ2, by omega, rfl, ?_⟩
    have e : (fun b => if b < 0 ∧ kp b kd = true then K b ++ [n] else K b) = K := by funext b; simp
    rw [e]
    exact unhide HM5
  case round =>
    obtain ⟨j, τj, hj, rfl, hM6⟩ := hrel
    have hbox : wr.heap[B]? = some (.cells #[.int .u8 ns, .string (tblName nm), .int .u8 0, .int .u16 kd, .pointer (some ⟨en, 0, none⟩), .bool false, .string ⟨#[]⟩, .int .i64 bk] 47 (0, 0)) := by have h := hM6.box; rw [unhide HBX] at h; exact h
    have b3 : wr.cell? ⟨B, 3, none⟩ = some (.int .u16 kd) := cell_of hbox rfl
    by_cases hj16 : j < 16
    · cases hkp : kp j kd with
      | false =>
        have ht : (bits BinOp.and IntKind.u16 (bits BinOp.and IntKind.u16 (kd : Int) (IntKind.u16.wrap (2 ^ j))) 127 != 0) = false := hkp
        have HM6 := hide hM6
        have HKP := hide hkp
        clear hM6 hbox hkp
        go_wp2
        go_roundw
        case rel =>
          refine ⟨j + 1, τj, by omega, by go_num, ?_⟩
          have e : (fun b => if b < j + 1 ∧ kp b kd = true then K b ++ [n] else K b) = (fun b => if b < j ∧ kp b kd = true then K b ++ [n] else K b) := by
            funext b
            by_cases e : b = j
            · subst e; simp [unhide HKP]
            · have : b < j + 1 ↔ b < j := by omega
              simp [this]
          rw [e]
          exact unhide HM6
        case measure => simp [intOf]; omega
      | true =>
        have ht : (bits BinOp.and IntKind.u16 (bits BinOp.and IntKind.u16 (kd : Int) (IntKind.u16.wrap (2 ^ j))) 127 != 0) = true := hkp
        obtain ⟨v, k1, k2, k3⟩ := hM6.lists.kind j hj16
        obtain ⟨Kj, hKj⟩ : ∃ Kj : Nat → List Nat, Kj = fun b => if b < j ∧ kp b kd = true then K b ++ [n] else K b := ⟨_, rfl⟩
        have hKK : Kj j = K j := by rw [hKj]; exact if_neg (fun h => absurd h.1 (Nat.lt_irrefl _))
        rw [← hKj] at hM6
        have k2' : Row wr N v (K j) := by rw [← hKK, hKj]; exact k2
        clear k2
        have k2 := k2'
        clear k2'
        have HKJ := hide hKj
        have HKK := hide hKK
        obtain ⟨va, vc, hv⟩ : ∃ va vc, v = .slice va (K j).length vc := by
          rcases k2.2 with ⟨h, h2⟩ | ⟨gb, cb, cur, h, _⟩
          · exact ⟨none, 0, by rw [h, h2]⟩
          · exact ⟨some ⟨gb, 0, none⟩, cb, h⟩
        subst hv
        have lS := hM6.lists.ltS
        have hfz := hM6.lists.fz (5 + j)
        have hNle := hM6.lists.le
        have hKl1 := hKl j
        have hja : (0 : Int) ≤ (j : Int) := by omega
        have hjb : (j : Int) < 16 := by omega
        have far : ∀ (o : Obj) (w' : World), (wr.drew.alloc o).grownBy w' (Value.slice va (K j).length vc).ownBlock → w'.cell? ⟨S, 5 + j, none⟩ = some (.slice va (K j).length vc) ∧ w'.frozen? ⟨S, 5 + j, none⟩ = false := by
          intro o w' hg
          have key : w'.heap[S]? = wr.heap[S]? := (hg.block S (by simp; omega) (fun e => by have := k3 S e.symm; rw [hM6.lists.tS] at this; omega)).trans (Below.heap_alloc _ _ _ lS)
          exact ⟨(World.cell?_of_block (a := ⟨S, 5 + j, none⟩) key).trans k1, (World.frozen?_of_block (a := ⟨S, 5 + j, none⟩) key).trans hfz⟩
        have HM6 := hide hM6
        have HKP := hide hkp
        have HK2 := hide k2
        have HK3 := hide k3
        have HFAR := hide far
        clear hM6 hbox hkp k2 k3 far hKj hKK
        go_wp2
        go_region_law
          (refine step_append_lies _ rfl _ _ 30 rfl N 3 i0 (.int .i64 0) 1 8 Yba.underlying30 hi0 hz0 hz1 hz2 rfl (by decide) (.slice va (K j).length vc) _ _ (by simp [Act.eval]) (World.ownsRow.alloc (w := wr.drew) (unhide HK2) _) ⟨wr.heap.size, 0, none⟩ 1 1 [.int .i64 n] (by simp [Act.eval]) rfl (cell_one_new wr.drew _ _) (one_int n) (by omega) (by unfold maxLen; omega) (by omega) (by simp; omega) (wr.heap.size + 1) (by simp) ?_; intro g cap w4 hown hgrow hat hlt; obtain ⟨f1, f2⟩ := unhide HFAR _ _ hgrow)
        all_goals
          go_wp2
          go_roundw
          case rel =>
            have hKK := unhide HKK
            have h := (unhide HM6).kind (b := j) hj16 k1 (by rw [hKK]; exact unhide HK2) (unhide HK3) (by rw [hKK]; exact hown) hgrow hat rfl rfl
            refine ⟨j + 1, fun k => if k < wr.heap.size then τj k else 10 + j, by omega, by go_num, ?_⟩
            rw [hKK] at h
            have e : (fun b => if b < j + 1 ∧ kp b kd = true then K b ++ [n] else K b) = (fun x => if x = j then K j ++ [n] else Kj x) := by
              funext b
              rw [unhide HKJ]
              by_cases e : b = j
              · subst e; simp [unhide HKP]
              · have : b < j + 1 ↔ b < j := by omega
                simp [this, e]
            rw [e]
            exact h
          case measure => simp [intOf]; omega
    · obtain rfl : j = 16 := by omega
      obtain ⟨n1, n2, hM7⟩ := hM6.entry (n := n) hen hef hten
      have b4 : wr.cell? ⟨B, 4, none⟩ = some (.pointer (some ⟨en, 0, none⟩)) := cell_of hbox rfl
      obtain ⟨K', hK'⟩ : ∃ K' : Nat → List Nat, K' = fun b => if b < 16 ∧ kp b kd = true then K b ++ [n] else K b := ⟨_, rfl⟩
      rw [← hK'] at hM7
      obtain ⟨w7, hw7⟩ : ∃ w7, w7 = wr.setCell ⟨en, 3, none⟩ (.int .i64 (n : Int)) := ⟨_, rfl⟩
      rw [← hw7] at hM7
      have hbox7 : w7.heap[B]? = some (.cells #[.int .u8 ns, .string (tblName nm), .int .u8 0, .int .u16 kd, .pointer (some ⟨en, 0, none⟩), .bool false, .string ⟨#[]⟩, .int .i64 bk] 47 (0, 0)) := by have h := hM7.box; rw [unhide HBX] at h; exact h
      have b7 : w7.cell? ⟨B, 7, none⟩ = some (.int .i64 bk) := cell_of hbox7 rfl
      have HW7 := hide hw7
      have HM7 := hide hM7
      have HKK := hide hK'
      clear hM6 hbox hj16 hj HM5 hM7 hbox7 hw7 hK' b3
      go_upto_region 15 with fail
      rw [← unhide HW7]
      obtain ⟨ov, o1, o2, o3⟩ := (unhide HM7).lists.opened
      obtain ⟨go, gc, ho⟩ : ∃ go gc, ov = .slice (some ⟨go, 0, none⟩) 2 gc := by
        rcases o2.2 with ⟨h, h2⟩ | ⟨gb, cb, cur, h, _⟩
        · cases h2
        · exact ⟨gb, cb, h⟩
      subst ho
      have tgo := o3 go rfl
      have p0 : w7.cell? ⟨go, 0, none⟩ = some (.int .i64 (C 1)) := by have h := o2.cellAt 0 (by omega); simpa using h
      have p1 : w7.cell? ⟨go, 1, none⟩ = some (.int .i64 (C 2)) := by have h := o2.cellAt 1 (by omega); simpa using h
      obtain ⟨gcur, hgcur⟩ : ∃ cur, w7.heap[go]? = some (.cells cur 3 (0, 0)) := by
        rcases o2.2 with ⟨h, _⟩ | ⟨gb, cb, cur, h, _, h2, _⟩
        · cases h
        · cases h; exact ⟨cur, h2⟩
      have q0 : w7.frozen? ⟨go, 0, none⟩ = false := frozen_of hgcur
      have q1 : w7.frozen? ⟨go, 1, none⟩ = false := frozen_of hgcur
      have HO2 := hide o2
      have HTG := hide tgo
      clear o2 o3 tgo hgcur
      go_upto_if 79 with fail
      go_cut [5] from 80 to 90 (fun s5 wx => s5 = .pointer (some ⟨S, 2 + ns, none⟩) ∧ Mid2 w wx N S B en n K' M' (fun b => if b = bk then C b + 1 else C b) τ τj bx)
      case first =>
        have hbk3 : bk = 0 ∨ bk = 1 ∨ bk = 2 := by omega
        rcases hbk3 with rfl | rfl | rfl
        · go_wp2
          go_meet
          case rel => exact ⟨rfl, (unhide HM7).count0⟩
        · have hc1 := hCl 1
          go_wp2
          go_region
          all_goals
            go_wp2
            go_meet
            case rel => exact ⟨rfl, (unhide HM7).count o1 (unhide HTG) 0 (.int .i64 ((C 1 : Int) + 1)) rfl (two_set0 (unhide HO2) (.int .i64 ((C 1 : Int) + 1)))⟩
        · have hc2 := hCl 2
          go_wp2
          go_region
          all_goals
            go_wp2
            go_meet
            case rel => exact ⟨rfl, (unhide HM7).count o1 (unhide HTG) 1 (.int .i64 ((C 2 : Int) + 1)) rfl (two_set1 (unhide HO2) (.int .i64 ((C 2 : Int) + 1)))⟩
      case rest =>
      obtain ⟨rfl, hM8⟩ := hcut
      generalize wc = w8 at *
      have hbox8 : w8.heap[B]? = some (.cells #[.int .u8 ns, .string (tblName nm), .int .u8 0, .int .u16 kd, .pointer (some ⟨en, 0, none⟩), .bool false, .string ⟨#[]⟩, .int .i64 bk] 47 (0, 0)) := by have h := hM8.box; rw [unhide HBX] at h; exact h
      have z0 : w8.cell? ⟨B, 0, none⟩ = some (.int .u8 ns) := cell_of hbox8 rfl
      have z1 : w8.cell? ⟨B, 1, none⟩ = some (.string (tblName nm)) := cell_of hbox8 rfl
      have z2 : w8.cell? ⟨B, 2, none⟩ = some (.int .u8 0) := cell_of hbox8 rfl
      have z3 : w8.cell? ⟨B, 3, none⟩ = some (.int .u16 kd) := cell_of hbox8 rfl
      have z4 : w8.cell? ⟨B, 4, none⟩ = some (.pointer (some ⟨en, 0, none⟩)) := cell_of hbox8 rfl
      have z5 : w8.cell? ⟨B, 5, none⟩ = some (.bool false) := cell_of hbox8 rfl
      have z6 : w8.cell? ⟨B, 6, none⟩ = some (.string ⟨#[]⟩) := cell_of hbox8 rfl
      have z7 : w8.cell? ⟨B, 7, none⟩ = some (.int .i64 bk) := cell_of hbox8 rfl
      have y0 : w8.cell? ⟨S, 0, none⟩ = some (.slice a0 n c) := hM8.st.trans (unhide H0)
      have yf := hM8.lists.fz 0
      have lS := hM8.lists.ltS
      have hNle := hM8.lists.le
      have tS := hM8.lists.tS
      have hrow8 : w8.ownsRow N 47 8 (.slice a0 n c) n (flat cs) := ownsRow_same (unhide HST) (fun g hg => hM8.chg.block g ((unhide HST).lt g hg).2 (by rw [unhide HTT g hg]; omega))
      have htag8 : ∀ g, (Value.slice a0 n c).ownBlock = some g → τj g = 2 := fun g hg => (hM8.agree g ((unhide HST).lt g hg).2).trans (unhide HTT g hg)
      obtain ⟨i1, hi1, hy0, hy1, hy2⟩ := info_parts Yba.info47
      have far : ∀ (o : Obj) (w' : World), (w8.drew.alloc o).grownBy w' (Value.slice a0 n c).ownBlock → w'.heap[S]? = w8.heap[S]? := by
        intro o w' hg
        exact (hg.block S (by simp; omega) (fun e => by have := htag8 S e.symm; omega)).trans (Below.heap_alloc _ _ _ lS)
      have far1 : ∀ (o : Obj) (w' : World), (w8.drew.alloc o).grownBy w' (Value.slice a0 n c).ownBlock → w'.cell? ⟨S, 0, none⟩ = some (.slice a0 n c) ∧ w'.frozen? ⟨S, 0, none⟩ = false := fun o w' hg =>
        ⟨(World.cell?_of_block (a := ⟨S, 0, none⟩) (far o w' hg)).trans y0, (World.frozen?_of_block (a := ⟨S, 0, none⟩) (far o w' hg)).trans yf⟩
      have HM8 := hide hM8
      have HR8 := hide hrow8
      have HT8 := hide htag8
      have HFAR := hide far
      have HFAR1 := hide far1
      clear hM8 hrow8 htag8 far far1 hbox8 tS HO2 HTG p0 p1 q0 q1 o1 HM7 HW7 n1 n2 b4 b7
      go_wp2
      go_region_law
        (refine step_append_lies _ rfl _ _ 26 rfl N 47 i1 (.agg #[.int .u8 0, .string ⟨#[]⟩, .int .u8 0, .int .u16 0, .pointer none, .bool false, .string ⟨#[]⟩, .int .i64 0]) 8 72 Yba.underlying26 hi1 hy0 hy1 hy2 rfl (by decide) (.slice a0 n c) _ _ (by simp [Act.eval]) (World.ownsRow.alloc (w := w8.drew) (unhide HR8) _) ⟨w8.heap.size, 0, none⟩ 1 1 (elCells (some ⟨ns, nm, kd, en, bk⟩)) (by simp [Act.eval]) rfl (World.news_of_block (heap_alloc_new w8.drew _)) (elCells_one _) (by omega) (by unfold maxLen; omega) (by omega) (by simp; omega) (w8.heap.size + 1) (by simp) ?_; intro g cap w9 hown hgrow hat hlt; obtain ⟨f1, f2⟩ := unhide HFAR1 _ _ hgrow)
      all_goals
        go_end0
        have h := (unhide HM8).stack y0 (unhide HR8) (unhide HT8) hown hgrow hat rfl rfl
        rw [unhide HKK, unhide HMM] at h
        exact ⟨⟨_, rfl⟩, _, h⟩

end Go.Proofs.Ybulkapxu
