import Derived.Test.YbulkapxuPush
import Derived.Test.YbulkapxuDrop
namespace Go.Proofs.Ybulkapxu
open Go.RowKit

set_option maxHeartbeats 1000000 in
/-- A gap is not listed. -/
theorem unlist_gap (S gs n c i : Nat) (w : World) (h0 : w.cell? ⟨S, 0, none⟩ = some (.slice (some ⟨gs, 0, none⟩) n c)) (hi : i < n) (hg : w.cell? ⟨gs, i * 8 + 5, none⟩ = some (.bool true)) :
    Calls Yba.prog 16 #[.pointer (some ⟨S, 0, none⟩), .int .i64 (i : Int)] w fun e w' => (∃ v, e = .returned v) ∧ w' = w := by
  go_enter Yba.func16, Yba.ntmps16
  go_wp2
  refine bodyPost_ret (results_none rfl _ _ _) rfl ?_
  exact ⟨⟨_, rfl⟩, rfl⟩

theorem drop_row' (N i g c : Nat) (l : List Nat) (w : World) (hr : Row w N (.slice (some ⟨g, 0, none⟩) l.length c) l) (hs : l.Pairwise (· < ·)) (hi : i ∈ l) (hl : l.length ≤ 4096) :
    Calls Yba.prog 18 #[.slice (some ⟨g, 0, none⟩) l.length c, .int .i64 (i : Int)] w fun e w' => e = .returned (.slice (some ⟨g, 0, none⟩) (l.length - 1) c) ∧ Row w' N (.slice (some ⟨g, 0, none⟩) (l.length - 1) c) (l.filter (fun k => k != i)) ∧ OnlyAt g w w' := by
  refine (drop_row N i _ l w hr hs hi hl).mono ?_
  rintro e w' ⟨g', c', hv, he, h1, h2⟩
  cases hv
  exact ⟨he, h1, h2⟩

/-- Within 'unlist'. -/
structure MidU (w wx : World) (N S : Nat) (K : Nat → List Nat) (M : Nat → Nat → List Nat) (C : Nat → Nat) (τ : Nat → Nat) : Prop where
  lists : Lists wx N S K M C τ
  chg : Chg τ (fun t => t = 0 ∨ t = 1 ∨ 10 ≤ t) w wx
  st : wx.cell? ⟨S, 0, none⟩ = w.cell? ⟨S, 0, none⟩

theorem MidU.draw {w wx : World} {N S : Nat} {K : Nat → List Nat} {M : Nat → Nat → List Nat} {C τ : Nat → Nat} (h : MidU w wx N S K M C τ) (q : Nat) : MidU w (wx.drewN q) N S K M C τ :=
  ⟨h.lists.past ⟨rfl, rfl, rfl, Nat.le_refl _, fun _ _ => rfl⟩, h.chg.drewN _, h.st⟩

theorem MidU.step {w wx wy : World} {N S : Nat} {K K' : Nat → List Nat} {M M' : Nat → Nat → List Nat} {C C' : Nat → Nat} {τ : Nat → Nat} (h : MidU w wx N S K M C τ) (hl : Lists wy N S K' M' C' τ) (hc : Chg τ (fun t => t = 0 ∨ t = 1 ∨ 10 ≤ t) wx wy) (h0 : wy.cell? ⟨S, 0, none⟩ = wx.cell? ⟨S, 0, none⟩) : MidU w wy N S K' M' C' τ :=
  ⟨hl, h.chg.trans hc (fun _ _ => rfl), h0.trans h.st⟩

theorem MidU.count {w wx wy : World} {N S go c : Nat} {K : Nat → List Nat} {M : Nat → Nat → List Nat} {C C' : Nat → Nat} {τ : Nat → Nat} (h : MidU w wx N S K M C τ) (h1 : wx.cell? ⟨S, 22, none⟩ = some (.slice (some ⟨go, 0, none⟩) 2 c)) (h3 : τ go = 1) (j : Nat) (v : Value)
    (hy : wy = wx.drew.setCell ⟨go, j, none⟩ v) (hr : wy.ownsRow N 3 1 (.slice (some ⟨go, 0, none⟩) 2 c) 2 [.int .i64 (C' 1), .int .i64 (C' 2)]) : MidU w wy N S K M C' τ := by
  have hL := h.lists
  have hc : Chg τ (fun t => t = 0 ∨ t = 1) wx wy := by rw [hy]; exact ((Chg.refl _ _ wx).drew).setCell (fun _ => .inr h3) _
  have hgS : S ≠ go := by rintro rfl; rw [hL.tS] at h3; omega
  have hSb : wy.heap[S]? = wx.heap[S]? := by rw [hy]; exact Below.heap_setCell _ _ _ _ hgS
  refine h.step (hL.openUpd hc (fun _ _ => rfl) (fun i _ => World.cell?_of_block (a := ⟨S, i, none⟩) hSb) (fun i => World.frozen?_of_block (a := ⟨S, i, none⟩) hSb) ((World.cell?_of_block (a := ⟨S, 22, none⟩) hSb).trans h1) hr ?_) (hc.mono (fun t ht => by omega)) (World.cell?_of_block (a := ⟨S, 0, none⟩) hSb)
  intro g hg
  simp [Value.ownBlock] at hg
  subst hg
  exact h3

theorem MidU.count0 {w wx : World} {N S : Nat} {K : Nat → List Nat} {M : Nat → Nat → List Nat} {C τ : Nat → Nat} (h : MidU w wx N S K M C τ) : MidU w wx N S K M (fun b => if b = 0 then C b - 1 else C b) τ := by
  obtain ⟨v, h1, h2, h3⟩ := h.lists.opened
  exact h.step (h.lists.openUpd (Chg.refl _ _ _) (fun _ _ => rfl) (fun _ _ => rfl) (fun _ => rfl) h1 (by simpa using h2) h3) (Chg.refl _ _ _) rfl

/-- A place leaves a name's row. -/
theorem MidU.name {w wx w1 wy : World} {N S a m r ck g c i : Nat} {K : Nat → List Nat} {M : Nat → Nat → List Nat} {C τ : Nat → Nat} {es : Array MapEntry} {F : Value → Array MapEntry} {G : Value → Nat}
    (h : MidU w wx N S K M C τ) (hA : a < 3) (hm : m < 3) (hS : wx.cell? ⟨S, 2 + a, none⟩ = some (.map (some r))) (hr : wx.heap[r]? = some (.map es ck)) (hτ : τ r = 30 + a) (e2 : τ g = 100 + 3 * a + m)
    (e5 : ∀ w' τ' v' l', w'.cell? ⟨S, 2 + a, none⟩ = some (.map (some r)) → (∀ k, k < wx.heap.size → τ' k = τ k) → w'.heap[r]? = some (.map (F v') (G v')) → (∀ k, k < wx.heap.size → (∃ x, x < 3 ∧ x ≠ m ∧ τ k = 100 + 3 * a + x) → w'.heap[k]? = wx.heap[k]?) →
        Row w' N v' l' → (∀ g, v'.ownBlock = some g → τ' g = 100 + 3 * a + m) → NameOk w' N S (fun x => if x = m then l' else M a x) τ' a)
    (hrow : Row w1 N (.slice (some ⟨g, 0, none⟩) ((M a m).length - 1) c) ((M a m).filter (fun k => k != i))) (ho : OnlyAt g wx.drew w1)
    (hy : wy = setB w1 r (.map (F (.slice (some ⟨g, 0, none⟩) ((M a m).length - 1) c)) (G (.slice (some ⟨g, 0, none⟩) ((M a m).length - 1) c)))) :
    MidU w wy N S K (fun x => if x = a then (fun y => if y = m then (M a m).filter (fun k => k != i) else M a y) else M x) C τ := by
  have hL := h.lists
  have lr := lt_of_block hr
  have hS0 := hL.ltS
  have tS := hL.tS
  have hgr : g ≠ r := by rintro rfl; omega
  have hc1 : Chg τ (fun t => t = 30 + a ∨ t = 100 + 3 * a + m) wx w1 := ⟨ho.os, ho.tape, ho.output, Nat.le_of_eq ho.size.symm, fun k _ hk2 => ho.block k (by rintro rfl; exact hk2 (.inr e2))⟩
  have hcy : Chg τ (fun t => t = 30 + a ∨ t = 100 + 3 * a + m) wx wy := by rw [hy]; exact hc1.setB (fun _ => .inl hτ) _
  have lr1 : r < w1.heap.size := Nat.lt_of_lt_of_le lr hc1.size
  have hSy : wy.heap[S]? = wx.heap[S]? := hcy.block S hS0 (by rw [tS]; omega)
  have cS : ∀ i, wy.cell? ⟨S, i, none⟩ = wx.cell? ⟨S, i, none⟩ := fun i => World.cell?_of_block (a := ⟨S, i, none⟩) hSy
  have hrowy : Row wy N (.slice (some ⟨g, 0, none⟩) ((M a m).length - 1) c) ((M a m).filter (fun k => k != i)) := by
    refine ownsRow_same hrow (fun k hk => ?_)
    simp [Value.ownBlock] at hk
    subst hk
    rw [hy]
    exact setB_other _ _ _ _ hgr
  have hn := e5 wy τ _ _ ((cS _).trans hS) (fun _ _ => rfl) (by rw [hy]; exact setB_same _ _ _ lr1)
    (fun k hk ⟨x, hx, hxm, ht⟩ => hcy.block k hk (by rw [ht]; omega)) hrowy (fun q hq => by simp [Value.ownBlock] at hq; subst hq; exact e2)
  refine h.step (hL.nameUpd hA (hcy.mono (fun t ht => ?_)) (fun _ _ => rfl) (fun i _ => cS i) (fun i => World.frozen?_of_block (a := ⟨S, i, none⟩) hSy) hn) (hcy.mono (fun t ht => ?_)) (cS 0)
  · rcases ht with ht | ht
    · exact .inr (.inl ht)
    · exact .inr (.inr ⟨m, hm, ht⟩)
  · rcases ht with ht | ht <;> omega

/-- A place leaves a kind's row. -/
theorem MidU.kind {w wx w1 wy : World} {N S b g c i : Nat} {K : Nat → List Nat} {M : Nat → Nat → List Nat} {C τ : Nat → Nat}
    (h : MidU w wx N S K M C τ) (hb : b < 16) (hv : wx.cell? ⟨S, 5 + b, none⟩ = some (.slice (some ⟨g, 0, none⟩) (K b).length c)) (e2 : τ g = 10 + b)
    (hrow : Row w1 N (.slice (some ⟨g, 0, none⟩) ((K b).length - 1) c) ((K b).filter (fun k => k != i))) (ho : OnlyAt g wx.drew w1)
    (hy : wy = w1.setCell ⟨S, 5 + b, none⟩ (.slice (some ⟨g, 0, none⟩) ((K b).length - 1) c)) :
    MidU w wy N S (fun x => if x = b then (K b).filter (fun k => k != i) else K x) M C τ := by
  have hL := h.lists
  have hS0 := hL.ltS
  have tS := hL.tS
  have hgS : g ≠ S := by rintro rfl; omega
  have hc1 : Chg τ (fun t => t = 0 ∨ t = 10 + b) wx w1 := ⟨ho.os, ho.tape, ho.output, Nat.le_of_eq ho.size.symm, fun k _ hk2 => ho.block k (by rintro rfl; exact hk2 (.inr e2))⟩
  have hcy : Chg τ (fun t => t = 0 ∨ t = 10 + b) wx wy := by rw [hy]; exact hc1.setCell (fun _ => .inl tS) _
  have hS1 : w1.heap[S]? = wx.heap[S]? := ho.block S (Ne.symm hgS)
  have c1 : ∀ i, w1.cell? ⟨S, i, none⟩ = wx.cell? ⟨S, i, none⟩ := fun i => World.cell?_of_block (a := ⟨S, i, none⟩) hS1
  have c2 : ∀ j, j ≠ 5 + b → wy.cell? ⟨S, j, none⟩ = wx.cell? ⟨S, j, none⟩ := fun j hj => by
    rw [hy, World.cell?_setCell_other _ _ _ _ (by intro e; simp at e <;> omega)]; exact c1 j
  have hrowy : Row wy N (.slice (some ⟨g, 0, none⟩) ((K b).length - 1) c) ((K b).filter (fun k => k != i)) := by
    refine ownsRow_same hrow (fun k hk => ?_)
    simp [Value.ownBlock] at hk
    subst hk
    rw [hy]
    exact Below.heap_setCell _ _ _ _ hgS
  refine h.step (hL.kindUpd hb hcy (fun _ _ => rfl) c2 (fun i => by rw [hy, World.frozen?_setCell]; exact World.frozen?_of_block (a := ⟨S, i, none⟩) hS1) (by rw [hy]; exact World.cell?_setCell_same _ _ _ ((c1 _).trans hv)) hrowy (fun q hq => by simp [Value.ownBlock] at hq; subst hq; exact e2)) (hcy.mono (fun t ht => ?_)) (c2 0 (by omega))
  rcases ht with ht | ht <;> omega


end Go.Proofs.Ybulkapxu
