import Derived.Test.YbulkapxuEntry
import Derived.Deep.AppendLies
import Derived.Deep.CutRange
import Derived.Deep.CutBlock
namespace Go.Proofs.Ybulkapxu
open Go.RowKit

theorem cell_of {w : World} {b i : Nat} {cs : Array Value} {t : TypeId} {v : Value} (h : w.heap[b]? = some (.cells cs t (0, 0))) (hi : cs[i]? = some v) : w.cell? ⟨b, i, none⟩ = some v := by
  simp [World.cell?, h, hi]
theorem frozen_of {w : World} {b i : Nat} {cs : Array Value} {t : TypeId} (h : w.heap[b]? = some (.cells cs t (0, 0))) : w.frozen? ⟨b, i, none⟩ = false := by
  simp [World.frozen?, h]

def elArr (e : El) : Array Value := #[.int .u8 e.ns, .string (tblName e.nm), .int .u8 0, .int .u16 e.kd, .pointer (some ⟨e.en, 0, none⟩), .bool false, .string ⟨#[]⟩, .int .i64 e.bk]

theorem Lists.past {w w' : World} {N S : Nat} {K : Nat → List Nat} {M : Nat → Nat → List Nat} {C : Nat → Nat} {τ : Nat → Nat} (h : Lists w N S K M C τ) (hb : Below w.heap.size w w') : Lists w' N S K M C τ :=
  h.frame (T := fun _ => False) (Chg.of_below hb _) (fun _ h => h.elim) (fun _ _ => rfl)

/-- A namespace's first map. -/
theorem Lists.mapNew {w w' : World} {N S a : Nat} {K : Nat → List Nat} {M : Nat → Nat → List Nat} {C : Nat → Nat} {τ : Nat → Nat} (h : Lists w N S K M C τ) (hA : a < 3) (hc : w.cell? ⟨S, 2 + a, none⟩ = some (.map none)) (hM : ∀ m, m < 3 → M a m = [])
    (hw : w' = (w.setCell ⟨S, 2 + a, none⟩ (.map (some w.heap.size))).alloc (.map #[] 0)) :
    Lists w' N S K M C (fun k => if k < w.heap.size then τ k else 30 + a) ∧ w'.cell? ⟨S, 2 + a, none⟩ = some (.map (some w.heap.size)) ∧ w'.heap[w.heap.size]? = some (.map #[] 0) ∧
      Chg τ (fun t => t = 0) w w' ∧ (∀ i, i ≠ 2 + a → w'.cell? ⟨S, i, none⟩ = w.cell? ⟨S, i, none⟩) := by
  subst hw
  have hl := h.ltS
  have hl' : S < (w.setCell ⟨S, 2 + a, none⟩ (.map (some w.heap.size))).heap.size := by simp; exact hl
  have hcS : ∀ i, ((w.setCell ⟨S, 2 + a, none⟩ (.map (some w.heap.size))).alloc (.map #[] 0)).cell? ⟨S, i, none⟩ = (w.setCell ⟨S, 2 + a, none⟩ (.map (some w.heap.size))).cell? ⟨S, i, none⟩ := fun i => World.cell?_alloc_past _ _ _ hl'
  have c1 : ((w.setCell ⟨S, 2 + a, none⟩ (.map (some w.heap.size))).alloc (.map #[] 0)).cell? ⟨S, 2 + a, none⟩ = some (.map (some w.heap.size)) := (hcS _).trans (World.cell?_setCell_same _ _ _ hc)
  have c2 : ((w.setCell ⟨S, 2 + a, none⟩ (.map (some w.heap.size))).alloc (.map #[] 0)).heap[w.heap.size]? = some (.map #[] 0) := by
    have := heap_alloc_new (w.setCell ⟨S, 2 + a, none⟩ (.map (some w.heap.size))) (.map #[] 0)
    rw [World.size_setCell] at this
    exact this
  have c3 : Chg τ (fun t => t = 0) w ((w.setCell ⟨S, 2 + a, none⟩ (.map (some w.heap.size))).alloc (.map #[] 0)) := ((Chg.refl _ _ _).setCell (p := ⟨S, 2 + a, none⟩) (fun _ => h.tS) _).alloc _
  have c4 : ∀ i, i ≠ 2 + a → ((w.setCell ⟨S, 2 + a, none⟩ (.map (some w.heap.size))).alloc (.map #[] 0)).cell? ⟨S, i, none⟩ = w.cell? ⟨S, i, none⟩ := fun i hi => by
    rw [hcS, World.cell?_setCell_other _ _ _ _ (by intro e; simp at e <;> omega)]
  refine ⟨?_, c1, c2, c3, c4⟩
  have h2 := h.nameUpd (τ' := fun k => if k < w.heap.size then τ k else 30 + a) (L' := M a) hA (c3.mono (fun t ht => .inl ht)) (fun k hk => if_pos hk) c4
    (fun i => by rw [World.frozen?_alloc_past _ _ _ hl', World.frozen?_setCell])
    (.inr ⟨w.heap.size, #[], 0, c1, by simp, c2, fun m hm => .inl ⟨rfl, hM m hm⟩⟩)
  have e : (fun x => if x = a then M a else M x) = M := by
    funext x
    by_cases hx : x = a
    · rw [if_pos hx, hx]
    · rw [if_neg hx]
  rw [e] at h2
  exact h2

theorem Chg.setB {τ : Nat → Nat} {T : Nat → Prop} {w w' : World} (h : Chg τ T w w') {r : Nat} (hp : r < w.heap.size → T (τ r)) (o : Obj) : Chg τ T w (setB w' r o) :=
  ⟨h.os, h.tape, h.output, by rw [setB_size]; exact h.size, fun k hk hn => (setB_other _ _ _ _ (by rintro rfl; exact hn (hp hk))).trans (h.block k hk hn)⟩

/-- Within 'push': the lists, the box of the element, and what has turned since the call began. -/
structure Mid (w wx : World) (N S B : Nat) (K : Nat → List Nat) (M : Nat → Nat → List Nat) (C : Nat → Nat) (τ τi : Nat → Nat) (bx : Array Value) : Prop where
  lists : Lists wx N S K M C τi
  box : wx.heap[B]? = some (.cells bx 47 (0, 0))
  tB : τi B = 9
  agree : ∀ k, k < w.heap.size → τi k = τ k
  chg : Chg τ (fun t => t = 0 ∨ t = 1 ∨ 10 ≤ t) w wx
  st : wx.cell? ⟨S, 0, none⟩ = w.cell? ⟨S, 0, none⟩

theorem Mid.step {w wx wy : World} {N S B : Nat} {K K' : Nat → List Nat} {M M' : Nat → Nat → List Nat} {C C' : Nat → Nat} {τ τi τj : Nat → Nat} {bx : Array Value} (h : Mid w wx N S B K M C τ τi bx) (hl : Lists wy N S K' M' C' τj)
    (hc : Chg τi (fun t => t = 0 ∨ t = 1 ∨ 10 ≤ t) wx wy) (ha : ∀ k, k < wx.heap.size → τj k = τi k) (h0 : wy.cell? ⟨S, 0, none⟩ = wx.cell? ⟨S, 0, none⟩) : Mid w wy N S B K' M' C' τ τj bx := by
  have hB := lt_of_block h.box
  refine ⟨hl, (hc.block B hB (by rw [h.tB]; omega)).trans h.box, (ha B hB).trans h.tB, fun k hk => (ha k (Nat.lt_of_lt_of_le hk h.chg.size)).trans (h.agree k hk), ?_, h0.trans h.st⟩
  exact h.chg.trans hc (fun k hk => h.agree k hk)

/-- Where a row goes when a place is appended to it. -/
theorem tag_append {τi : Nat → Nat} {wx : World} {t g H : Nat} {v : Value} (hv : ∀ g, v.ownBlock = some g → τi g = t ∧ g < wx.heap.size) (hat : v.ownBlock = some g ∨ g = H) (hH : wx.heap.size ≤ H) : (if g < wx.heap.size then τi g else t) = t := by
  rcases hat with h | h
  · rw [if_pos (hv g h).2]; exact (hv g h).1
  · rw [if_neg (by omega)]

/-- A place is appended to a name's row. -/
theorem Mid.name {w wx w1 wy : World} {N S B a m r ck g H i cap : Nat} {K : Nat → List Nat} {M : Nat → Nat → List Nat} {C : Nat → Nat} {τ τi : Nat → Nat} {bx : Array Value} {es : Array MapEntry} {v : Value} {F : Value → Array MapEntry} {G : Value → Nat} {o : Obj}
    (h : Mid w wx N S B K M C τ τi bx) (hA : a < 3) (hm : m < 3) (hS : wx.cell? ⟨S, 2 + a, none⟩ = some (.map (some r))) (hr : wx.heap[r]? = some (.map es ck)) (hτ : τi r = 30 + a)
    (e1 : Row wx N v (M a m)) (e2 : ∀ g, v.ownBlock = some g → τi g = 100 + 3 * a + m)
    (e5 : ∀ w' τ' v' l', w'.cell? ⟨S, 2 + a, none⟩ = some (.map (some r)) → (∀ k, k < wx.heap.size → τ' k = τi k) → w'.heap[r]? = some (.map (F v') (G v')) → (∀ k, k < wx.heap.size → (∃ x, x < 3 ∧ x ≠ m ∧ τi k = 100 + 3 * a + x) → w'.heap[k]? = wx.heap[k]?) →
        Row w' N v' l' → (∀ g, v'.ownBlock = some g → τ' g = 100 + 3 * a + m) → NameOk w' N S (fun x => if x = m then l' else M a x) τ' a)
    (hown : w1.ownsRow N 3 1 (.slice (some ⟨g, 0, none⟩) ((M a m).length + 1) cap) ((M a m).length + 1) (ints (M a m) ++ [.int .i64 (i : Int)])) (hgrow : (wx.drew.alloc o).grownBy w1 v.ownBlock) (hat : v.ownBlock = some g ∨ g = H) (hH : H = wx.heap.size + 1)
    (hy : wy = setB w1 r (.map (F (.slice (some ⟨g, 0, none⟩) ((M a m).length + 1) cap)) (G (.slice (some ⟨g, 0, none⟩) ((M a m).length + 1) cap)))) :
    Mid w wy N S B K (fun x => if x = a then (fun y => if y = m then M a m ++ [i] else M a y) else M x) C τ (fun k => if k < wx.heap.size then τi k else 100 + 3 * a + m) bx := by
  have hL := h.lists
  have lr := lt_of_block hr
  have hS0 := hL.ltS
  have tS := hL.tS
  have hSr : S ≠ r := by rintro rfl; rw [tS] at hτ; omega
  have hgr : r ≠ g := by
    rintro rfl
    rcases hat with h1 | h1
    · have := e2 _ h1; omega
    · omega
  have hc1 : Chg τi (fun t => t = 30 + a ∨ t = 100 + 3 * a + m) wx w1 := (((Chg.refl _ _ wx).drew).alloc o).grown hgrow (fun k hk _ => .inr (e2 k hk))
  have hcy : Chg τi (fun t => t = 30 + a ∨ t = 100 + 3 * a + m) wx wy := by rw [hy]; exact hc1.setB (fun _ => .inl hτ) _
  have lr1 : r < w1.heap.size := Nat.lt_of_lt_of_le lr hc1.size
  have hSy : wy.heap[S]? = wx.heap[S]? := hcy.block S hS0 (by rw [tS]; omega)
  have cS : ∀ i, wy.cell? ⟨S, i, none⟩ = wx.cell? ⟨S, i, none⟩ := fun i => World.cell?_of_block (a := ⟨S, i, none⟩) hSy
  have hrow : Row wy N (.slice (some ⟨g, 0, none⟩) ((M a m).length + 1) cap) (M a m ++ [i]) := by
    unfold Row
    have e : ints (M a m ++ [i]) = ints (M a m) ++ [.int .i64 (i : Int)] := by simp [ints]
    rw [e, List.length_append, List.length_singleton]
    refine ownsRow_same hown (fun k hk => ?_)
    simp [Value.ownBlock] at hk
    subst hk
    rw [hy]
    exact setB_other _ _ _ _ (Ne.symm hgr)
  have htag : ∀ q, (Value.slice (some ⟨g, 0, none⟩) ((M a m).length + 1) cap).ownBlock = some q → (if q < wx.heap.size then τi q else 100 + 3 * a + m) = 100 + 3 * a + m := by
    intro q hq
    simp [Value.ownBlock] at hq
    subst hq
    exact tag_append (fun x hx => ⟨e2 x hx, (e1.lt x hx).2⟩) hat (by omega)
  have hn := e5 wy (fun k => if k < wx.heap.size then τi k else 100 + 3 * a + m) _ _ ((cS _).trans hS) (fun k hk => if_pos hk) (by rw [hy]; exact setB_same _ _ _ lr1)
    (fun k hk ⟨x, hx, hxm, ht⟩ => hcy.block k hk (by rw [ht]; omega)) hrow htag
  refine h.step (hL.nameUpd hA (hcy.mono (fun t ht => ?_)) (fun k hk => if_pos hk) (fun i _ => cS i) (fun i => World.frozen?_of_block (a := ⟨S, i, none⟩) hSy) hn) (hcy.mono (fun t ht => ?_)) (fun k hk => if_pos hk) (cS 0)
  · rcases ht with ht | ht
    · exact .inr (.inl ht)
    · exact .inr (.inr ⟨m, hm, ht⟩)
  · rcases ht with ht | ht <;> omega

/-- A place is appended to a kind's row. -/
theorem Mid.kind {w wx w1 wy : World} {N S B b g H i cap : Nat} {K : Nat → List Nat} {M : Nat → Nat → List Nat} {C : Nat → Nat} {τ τi : Nat → Nat} {bx : Array Value} {v : Value} {o : Obj}
    (h : Mid w wx N S B K M C τ τi bx) (hb : b < 16) (hv : wx.cell? ⟨S, 5 + b, none⟩ = some v) (e1 : Row wx N v (K b)) (e2 : ∀ g, v.ownBlock = some g → τi g = 10 + b)
    (hown : w1.ownsRow N 3 1 (.slice (some ⟨g, 0, none⟩) ((K b).length + 1) cap) ((K b).length + 1) (ints (K b) ++ [.int .i64 (i : Int)])) (hgrow : (wx.drew.alloc o).grownBy w1 v.ownBlock) (hat : v.ownBlock = some g ∨ g = H) (hH : H = wx.heap.size + 1)
    (hy : wy = w1.setCell ⟨S, 5 + b, none⟩ (.slice (some ⟨g, 0, none⟩) ((K b).length + 1) cap)) :
    Mid w wy N S B (fun x => if x = b then K b ++ [i] else K x) M C τ (fun k => if k < wx.heap.size then τi k else 10 + b) bx := by
  have hL := h.lists
  have hS0 := hL.ltS
  have tS := hL.tS
  have hc1 : Chg τi (fun t => t = 0 ∨ t = 10 + b) wx w1 := (((Chg.refl _ _ wx).drew).alloc o).grown hgrow (fun k hk _ => .inr (e2 k hk))
  have hcy : Chg τi (fun t => t = 0 ∨ t = 10 + b) wx wy := by rw [hy]; exact hc1.setCell (fun _ => .inl tS) _
  have hSv : v.ownBlock ≠ some S := fun e => by have := e2 S e; omega
  have hS1 : w1.heap[S]? = wx.heap[S]? := (hgrow.block S (by simp; omega) (Ne.symm hSv)).trans (Below.heap_alloc _ _ _ hS0)
  have c1 : ∀ i, w1.cell? ⟨S, i, none⟩ = wx.cell? ⟨S, i, none⟩ := fun i => World.cell?_of_block (a := ⟨S, i, none⟩) hS1
  have hgS : g ≠ S := by
    rintro rfl
    rcases hat with h1 | h1
    · exact hSv h1
    · omega
  have c2 : ∀ j, j ≠ 5 + b → wy.cell? ⟨S, j, none⟩ = wx.cell? ⟨S, j, none⟩ := fun j hj => by
    rw [hy, World.cell?_setCell_other _ _ _ _ (by intro e; simp at e <;> omega)]; exact c1 j
  have hrow : Row wy N (.slice (some ⟨g, 0, none⟩) ((K b).length + 1) cap) (K b ++ [i]) := by
    unfold Row
    have e : ints (K b ++ [i]) = ints (K b) ++ [.int .i64 (i : Int)] := by simp [ints]
    rw [e, List.length_append, List.length_singleton]
    refine ownsRow_same hown (fun k hk => ?_)
    simp [Value.ownBlock] at hk
    subst hk
    rw [hy]
    exact Below.heap_setCell _ _ _ _ hgS
  have htag : ∀ q, (Value.slice (some ⟨g, 0, none⟩) ((K b).length + 1) cap).ownBlock = some q → (if q < wx.heap.size then τi q else 10 + b) = 10 + b := by
    intro q hq
    simp [Value.ownBlock] at hq
    subst hq
    exact tag_append (fun x hx => ⟨e2 x hx, (e1.lt x hx).2⟩) hat (by omega)
  refine h.step (hL.kindUpd hb hcy (fun k hk => if_pos hk) c2 (fun i => by rw [hy, World.frozen?_setCell]; exact World.frozen?_of_block (a := ⟨S, i, none⟩) hS1) (by rw [hy]; exact World.cell?_setCell_same _ _ _ ((c1 _).trans hv)) hrow htag) (hcy.mono (fun t ht => ?_)) (fun k hk => if_pos hk) (c2 0 (by omega))
  rcases ht with ht | ht <;> omega


end Go.Proofs.Ybulkapxu
