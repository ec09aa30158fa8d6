import Derived.Test.YbulkapxuUnlist
namespace Go.Proofs.Ybulkapxu
open Go.RowKit

def kP (b : Nat) (e : El) : Bool := kp b e.kd
def nP (a m : Nat) (e : El) : Bool := e.ns == a && e.nm == m
def bP (b : Nat) (e : El) : Bool := e.bk == b

/-- The lists tell of the open elements of st. -/
abbrev Listed (w : World) (N S : Nat) (st : St) (τ : Nat → Nat) : Prop := Lists w N S (fun b => pos (kP b) st) (fun a m => pos (nP a m) st) (fun b => (pos (bP b) st).length) τ

/-- Each open element's entry tells its place. -/
def Ents (w : World) (st : St) (τ : Nat → Nat) : Prop := ∀ (i : Nat) (e : El), st[i]? = some (some e) → w.cell? ⟨e.en, 3, none⟩ = some (.int .i64 (i : Int)) ∧ w.frozen? ⟨e.en, 3, none⟩ = false ∧ τ e.en = 3

def Wf (st : St) : Prop := ∀ (i : Nat) (e : El), st[i]? = some (some e) → e.ns < 3 ∧ e.nm < 3 ∧ e.bk < 3

theorem NameOk.congr {w : World} {N S a : Nat} {L L' : Nat → List Nat} {τ : Nat → Nat} (h : NameOk w N S L τ a) (hL : ∀ m, m < 3 → L m = L' m) : NameOk w N S L' τ a := by
  rcases h with ⟨h1, h2⟩ | ⟨r, es, ck, h1, h2, h3, h4⟩
  · exact .inl ⟨h1, fun m hm => by rw [← hL m hm]; exact h2 m hm⟩
  · refine .inr ⟨r, es, ck, h1, h2, h3, fun m hm => ?_⟩
    rw [← hL m hm]
    exact h4 m hm

theorem Lists.congr {w : World} {N S : Nat} {K K' : Nat → List Nat} {M M' : Nat → Nat → List Nat} {C C' : Nat → Nat} {τ : Nat → Nat} (h : Lists w N S K M C τ) (hK : ∀ b, b < 16 → K b = K' b) (hM : ∀ a m, a < 3 → m < 3 → M a m = M' a m) (h1 : C 1 = C' 1) (h2 : C 2 = C' 2) : Lists w N S K' M' C' τ :=
  ⟨h.low, h.le, h.tS, h.ltS, h.fz, fun b hb => by rw [← hK b hb]; exact h.kind b hb, fun a ha => (h.name a ha).congr (fun m hm => hM a m ha hm), by rw [← h1, ← h2]; exact h.opened⟩

theorem NameOk.retag {w : World} {N S a : Nat} {L : Nat → List Nat} {τ τ' : Nat → Nat} (h : NameOk w N S L τ a) (ha : a < 3) (ht : ∀ k, listTag (τ k) → τ' k = τ k) : NameOk w N S L τ' a := by
  rcases h with h1 | ⟨r, es, ck, h1, h2, h3, h4⟩
  · exact .inl h1
  · refine .inr ⟨r, es, ck, h1, (ht r (by rw [h2]; unfold listTag; omega)).trans h2, h3, fun m hm => ?_⟩
    rcases h4 m hm with h5 | ⟨k, v, en, h5, h6, h7, h8, h9⟩
    · exact .inl h5
    · exact .inr ⟨k, v, en, h5, h6, h7, h8, fun g hg => (ht g (by rw [h9 g hg]; unfold listTag; omega)).trans (h9 g hg)⟩

theorem Lists.retag {w : World} {N S : Nat} {K : Nat → List Nat} {M : Nat → Nat → List Nat} {C τ τ' : Nat → Nat} (h : Lists w N S K M C τ) (ht : ∀ k, listTag (τ k) ∨ τ k = 9 → τ' k = τ k) : Lists w N S K M C τ' := by
  refine ⟨fun k hk => (ht k (.inr (h.low k hk))).trans (h.low k hk), h.le, (ht S (.inl (by rw [h.tS]; exact .inl rfl))).trans h.tS, h.ltS, h.fz, fun b hb => ?_, fun a ha => (h.name a ha).retag ha (fun k hk => ht k (.inl hk)), ?_⟩
  · obtain ⟨v, h1, h2, h3⟩ := h.kind b hb
    exact ⟨v, h1, h2, fun g hg => (ht g (.inl (by rw [h3 g hg]; unfold listTag; omega))).trans (h3 g hg)⟩
  · obtain ⟨v, h1, h2, h3⟩ := h.opened
    exact ⟨v, h1, h2, fun g hg => (ht g (.inl (by rw [h3 g hg]; unfold listTag; omega))).trans (h3 g hg)⟩

theorem hit_some {p : El → Bool} {st : St} {i : Nat} {e : El} (h : st[i]? = some (some e)) : hit p st i = p e := by unfold hit; rw [h]

/-- An element leaves the lists. -/
theorem listed_set {w : World} {N S i : Nat} {st : St} {τ : Nat → Nat} {e : El} (he : st[i]? = some (some e))
    (h : Lists w N S (fun b => if b < 16 ∧ kp b e.kd = true then (pos (kP b) st).filter (fun k => k != i) else pos (kP b) st) (fun x => if x = e.ns then (fun y => if y = e.nm then (pos (nP e.ns e.nm) st).filter (fun k => k != i) else pos (nP e.ns y) st) else fun m => pos (nP x m) st) (fun b => if b = e.bk then (pos (bP b) st).length - 1 else (pos (bP b) st).length) τ) : Listed w N S (st.set i none) τ := by
  have hb : ∀ b, (if b = e.bk then (pos (bP b) st).length - 1 else (pos (bP b) st).length) = (pos (bP b) (st.set i none)).length := by
    intro b
    by_cases hb : b = e.bk
    · rw [if_pos hb, pos_set]
      have hm : i ∈ pos (bP b) st := mem_pos.2 (by rw [hit_some he]; unfold bP; simp [hb])
      obtain ⟨q, hq, hqi⟩ := List.getElem_of_mem hm
      rw [filter_cut _ (pos_sorted _ _) q i (by rw [List.getElem?_eq_getElem hq, hqi]), List.length_append, List.length_take, List.length_drop]
      omega
    · rw [if_neg hb, pos_set_no]
      rw [hit_some he]; unfold bP; simp; exact Ne.symm hb
  refine h.congr (fun b hb16 => ?_) (fun a m ha hm => ?_) (hb 1) (hb 2)
  · show (if b < 16 ∧ kp b e.kd = true then (pos (kP b) st).filter (fun k => k != i) else pos (kP b) st) = _
    cases hk : kp b e.kd with
    | true => rw [if_pos ⟨hb16, rfl⟩, pos_set]
    | false => rw [if_neg (by simp), pos_set_no]; rw [hit_some he]; exact hk
  · show (if a = e.ns then (fun y => if y = e.nm then (pos (nP e.ns e.nm) st).filter (fun k => k != i) else pos (nP e.ns y) st) else fun m => pos (nP a m) st) m = _
    by_cases h1 : a = e.ns
    · rw [if_pos h1]
      by_cases h2 : m = e.nm
      · simp only [h2, if_true]
        rw [h1, pos_set]
      · simp only [h2, if_false]
        rw [h1, pos_set_no]
        rw [hit_some he]; unfold nP; simp; exact Ne.symm h2
    · rw [if_neg h1, pos_set_no]
      rw [hit_some he]; unfold nP; simp; intro h; exact absurd h.symm h1

/-- An element comes to the lists. -/
theorem listed_push {w : World} {N S : Nat} {st : St} {τ : Nat → Nat} (e : El)
    (h : Lists w N S (fun b => if b < 16 ∧ kp b e.kd = true then pos (kP b) st ++ [st.length] else pos (kP b) st) (fun x => if x = e.ns then (fun y => if y = e.nm then pos (nP e.ns e.nm) st ++ [st.length] else pos (nP e.ns y) st) else fun m => pos (nP x m) st) (fun b => if b = e.bk then (pos (bP b) st).length + 1 else (pos (bP b) st).length) τ) : Listed w N S (st ++ [some e]) τ := by
  have hb : ∀ b, (if b = e.bk then (pos (bP b) st).length + 1 else (pos (bP b) st).length) = (pos (bP b) (st ++ [some e])).length := by
    intro b
    rw [pos_snoc]
    by_cases hb : b = e.bk
    · rw [if_pos hb]; simp [bP, hb]
    · rw [if_neg hb]; simp [bP, Ne.symm hb]
  refine h.congr (fun b hb16 => ?_) (fun a m ha hm => ?_) (hb 1) (hb 2)
  · show (if b < 16 ∧ kp b e.kd = true then pos (kP b) st ++ [st.length] else pos (kP b) st) = _
    rw [pos_snoc]
    cases hk : kp b e.kd with
    | true => rw [if_pos ⟨hb16, rfl⟩]; simp [kP, hk]
    | false => rw [if_neg (by simp)]; simp [kP, hk]
  · show (if a = e.ns then (fun y => if y = e.nm then pos (nP e.ns e.nm) st ++ [st.length] else pos (nP e.ns y) st) else fun m => pos (nP a m) st) m = _
    rw [pos_snoc]
    by_cases h1 : a = e.ns
    · rw [if_pos h1]
      by_cases h2 : m = e.nm
      · simp [nP, h1, h2]
      · have h3 : (e.nm == m) = false := by rw [beq_eq_false_iff_ne]; exact Ne.symm h2
        simp [nP, h1, h2, h3]
    · have h3 : (e.ns == a) = false := by rw [beq_eq_false_iff_ne]; exact Ne.symm h1
      simp [nP, h1, h3]

theorem listed_snoc_none {w : World} {N S : Nat} {st : St} {τ : Nat → Nat} : Listed w N S (st ++ [none]) τ ↔ Listed w N S st τ := by
  simp only [Listed, pos_snoc_none]

theorem Ents.frame {w w' : World} {st : St} {τ τ' : Nat → Nat} (h : Ents w st τ) (hb : ∀ k, k < w.heap.size → τ k = 3 → w'.heap[k]? = w.heap[k]?) (ha : ∀ k, k < w.heap.size → τ k = 3 → τ' k = τ k) : Ents w' st τ' := by
  intro i e he
  obtain ⟨h1, h2, h3⟩ := h i e he
  have hl := World.block_lt_of_cell? _ _ h1
  have hk := hb e.en hl h3
  exact ⟨(World.cell?_of_block (a := ⟨e.en, 3, none⟩) hk).trans h1, (World.frozen?_of_block (a := ⟨e.en, 3, none⟩) hk).trans h2, (ha e.en hl h3).trans h3⟩

end Go.Proofs.Ybulkapxu
