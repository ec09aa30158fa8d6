import Derived.Test.YbulkapxuState
import Derived.Deep.RegionLaw
import Derived.Deep.RegionWith
import Derived.Deep.RegionHeld3
import Derived.Deep.Draws
import Derived.Deep.QuietTactic
namespace Go.Proofs.Ybulkapxu
open Go.RowKit

/-! ### strings as keys -/
theorem beq_same (p : ByteArray) : (p == p) = true := by rw [beq_toListBytes]; simp
theorem beq_diff {p q : ByteArray} (h : p ≠ q) : (p == q) = false := by
  rw [beq_toListBytes, beq_eq_false_iff_ne]
  intro e
  apply h
  obtain ⟨⟨l⟩⟩ := p
  obtain ⟨⟨m⟩⟩ := q
  rw [ByteArray.toList_eq, ByteArray.toList_eq] at e
  simp at e
  rw [e]
theorem same_self (p : ByteArray) : Instr.sameNow .string (.string p) (.string p) = some true := by simp [Instr.sameNow, beq_same]
theorem same_diff {p q : ByteArray} (h : p ≠ q) : Instr.sameNow .string (.string p) (.string q) = some false := by simp [Instr.sameNow, beq_diff h]

theorem fn_push_hit {k : Value} {l : List MapEntry} {i : Nat} {r : Nat × Value} (x : MapEntry) (h : Instr.findNow .string k l i = some (some r)) : Instr.findNow .string k (l ++ [x]) i = some (some r) := by
  induction l generalizing i with
  | nil => simp [Instr.findNow] at h
  | cons e es ih =>
    simp only [List.cons_append, Instr.findNow] at h ⊢
    split at h
    · exact h
    · exact ih h
    · cases h
theorem fn_push_miss {k : Value} {l : List MapEntry} {i : Nat} (x : MapEntry) (h : Instr.findNow .string k l i = some none) : Instr.findNow .string k (l ++ [x]) i = Instr.findNow .string k [x] (i + l.length) := by
  induction l generalizing i with
  | nil => simp
  | cons e es ih =>
    simp only [List.cons_append, Instr.findNow] at h ⊢
    split at h
    · cases h
    · rw [ih h]
      simp [Nat.add_assoc, Nat.add_comm 1]
      rfl
    · cases h

theorem fn_mod_same {q : ByteArray} {l : List MapEntry} {i k : Nat} {v v' : Value} (h : Instr.findNow .string (.string q) l i = some (some (i + k, v))) :
    Instr.findNow .string (.string q) (l.modify k fun e => { e with key := .string q, val := v' }) i = some (some (i + k, v')) := by
  induction l generalizing i k with
  | nil => simp [Instr.findNow] at h
  | cons e es ih =>
    simp only [Instr.findNow] at h
    split at h
    · obtain rfl : k = 0 := by simp at h; omega
      simp [List.modify_zero_cons, Instr.findNow, same_self]
    · rename_i hs
      cases k with
      | zero =>
        exfalso
        have key : ∀ (l : List MapEntry) (i j : Nat) (v : Value), Instr.findNow .string (.string q) l i = some (some (j, v)) → i ≤ j := by
          intro l
          induction l with
          | nil => intro i j v h; simp [Instr.findNow] at h
          | cons a r ih2 =>
            intro i j v h
            simp only [Instr.findNow] at h
            split at h
            · simp at h; omega
            · have := ih2 _ _ _ h; omega
            · cases h
        have := key _ _ _ _ h
        omega
      | succ k =>
        rw [List.modify_succ_cons]
        simp only [Instr.findNow, hs]
        have h2 := ih (i := i + 1) (k := k) (by rw [h]; congr 3; omega)
        rw [h2]
        congr 3
        omega
    · cases h
theorem fn_mod_other {q p : ByteArray} {l : List MapEntry} {i k : Nat} {v' : Value} {en : MapEntry} (hne : q ≠ p) (hk : l[k]? = some en) (hek : en.key = .string p) :
    Instr.findNow .string (.string q) (l.modify k fun e => { e with key := .string p, val := v' }) i = Instr.findNow .string (.string q) l i := by
  induction l generalizing i k with
  | nil => simp at hk
  | cons e es ih =>
    cases k with
    | zero =>
      simp at hk
      subst hk
      simp only [List.modify_zero_cons, Instr.findNow, hek, same_diff hne]
    | succ k =>
      simp at hk
      rw [List.modify_succ_cons]
      simp only [Instr.findNow]
      split
      · rfl
      · exact ih hk
      · rfl

theorem tbl_ne {m m' : Nat} (h : m < 3) (h' : m' < 3) (hne : m ≠ m') : tblName m ≠ tblName m' := by
  have a0 : tblName 0 = ⟨#[97]⟩ := rfl
  have a1 : tblName 1 = ⟨#[98]⟩ := rfl
  have a2 : tblName 2 = ⟨#[112]⟩ := rfl
  have c1 : m = 0 ∨ m = 1 ∨ m = 2 := by omega
  have c2 : m' = 0 ∨ m' = 1 ∨ m' = 2 := by omega
  rcases c1 with rfl | rfl | rfl <;> rcases c2 with rfl | rfl | rfl <;> first | exact absurd rfl hne | decide +kernel

/-! ### rows of places, with tags -/
def ints (l : List Nat) : List Value := l.map fun (i : Nat) => Value.int .i64 (i : Int)
theorem ints_len (l : List Nat) : (ints l).length = l.length := by simp [ints]

/-- v is a row of its own from N on, and holds l. -/
def Row (w : World) (N : Nat) (v : Value) (l : List Nat) : Prop := w.ownsRow N 3 1 v l.length (ints l)

theorem ownsRow_same {w w' : World} {b0 n z : Nat} {e : TypeId} {v : Value} {xs : List Value} (h : w.ownsRow b0 e z v n xs) (hk : ∀ g, v.ownBlock = some g → w'.heap[g]? = w.heap[g]?) : w'.ownsRow b0 e z v n xs := by
  refine ⟨h.1, ?_⟩
  rcases h.2 with h0 | ⟨g, c, cur, hv, h1, h2, h3⟩
  · exact .inl h0
  · exact .inr ⟨g, c, cur, hv, h1, (hk g (by rw [hv]; rfl)).trans h2, h3⟩

/-- Nothing has turned but what bears a tag of T; more may have come. -/
structure Chg (τ : Nat → Nat) (T : Nat → Prop) (w w' : World) : Prop where
  os : w'.os = w.os
  tape : w'.tape = w.tape
  output : w'.output = w.output
  size : w.heap.size ≤ w'.heap.size
  block : ∀ k, k < w.heap.size → ¬ T (τ k) → w'.heap[k]? = w.heap[k]?

theorem Chg.refl (τ : Nat → Nat) (T : Nat → Prop) (w : World) : Chg τ T w w := ⟨rfl, rfl, rfl, Nat.le_refl _, fun _ _ _ => rfl⟩
theorem Chg.mono {τ : Nat → Nat} {T U : Nat → Prop} {w w' : World} (h : Chg τ T w w') (hs : ∀ t, T t → U t) : Chg τ U w w' := ⟨h.os, h.tape, h.output, h.size, fun k hk hn => h.block k hk (fun ht => hn (hs _ ht))⟩
theorem Chg.trans {τ τ' : Nat → Nat} {T : Nat → Prop} {w w1 w2 : World} (h : Chg τ T w w1) (k : Chg τ' T w1 w2) (ha : ∀ x, x < w.heap.size → τ' x = τ x) : Chg τ T w w2 :=
  ⟨k.os.trans h.os, k.tape.trans h.tape, k.output.trans h.output, Nat.le_trans h.size k.size, fun q hq hn => (k.block q (Nat.lt_of_lt_of_le hq h.size) (by rw [ha q hq]; exact hn)).trans (h.block q hq hn)⟩
theorem Chg.of_below {τ : Nat → Nat} {w w' : World} (h : Below w.heap.size w w') (T : Nat → Prop) : Chg τ T w w' := ⟨h.os, h.tape, h.output, h.size, fun k hk _ => h.block k hk⟩
theorem Chg.drew {τ : Nat → Nat} {T : Nat → Prop} {w w' : World} (h : Chg τ T w w') : Chg τ T w w'.drew := ⟨h.os, h.tape, h.output, h.size, h.block⟩
theorem Chg.drewN {τ : Nat → Nat} {T : Nat → Prop} {w w' : World} (h : Chg τ T w w') (n : Nat) : Chg τ T w (w'.drewN n) := ⟨h.os, h.tape, h.output, h.size, h.block⟩
theorem Chg.alloc {τ : Nat → Nat} {T : Nat → Prop} {w w' : World} (h : Chg τ T w w') (o : Obj) : Chg τ T w (w'.alloc o) :=
  ⟨h.os, h.tape, h.output, by simp; have := h.size; omega, fun k hk hn => (Below.heap_alloc _ _ _ (Nat.lt_of_lt_of_le hk h.size)).trans (h.block k hk hn)⟩
theorem Chg.setCell {τ : Nat → Nat} {T : Nat → Prop} {w w' : World} (h : Chg τ T w w') {p : Addr} (hp : p.block < w.heap.size → T (τ p.block)) (v : Value) : Chg τ T w (w'.setCell p v) :=
  ⟨h.os, h.tape, h.output, by rw [World.size_setCell]; exact h.size, fun k hk hn => (Below.heap_setCell _ _ _ _ (by rintro rfl; exact hn (hp hk))).trans (h.block k hk hn)⟩
theorem Chg.grown {τ : Nat → Nat} {T : Nat → Prop} {w w1 w2 : World} {row : Option Nat} (h : Chg τ T w w1) (hg : w1.grownBy w2 row) (hr : ∀ k, row = some k → k < w.heap.size → T (τ k)) : Chg τ T w w2 :=
  ⟨hg.os.trans h.os, hg.tape.trans h.tape, hg.output.trans h.output, Nat.le_trans h.size hg.size, fun k hk hn => (hg.block k (Nat.lt_of_lt_of_le hk h.size) (fun e => hn (hr k e.symm hk))).trans (h.block k hk hn)⟩
theorem Chg.below {τ : Nat → Nat} {T : Nat → Prop} {N : Nat} {w w' : World} (h : Chg τ T w w') (hN : N ≤ w.heap.size) (hl : ∀ k, k < N → ¬ T (τ k)) : Below N w w' :=
  ⟨h.os, h.tape, h.output, h.size, fun k hk => h.block k (by omega) (hl k hk)⟩

/-- The map of a namespace: for each name a row of places. -/
def NameOk (w : World) (N S : Nat) (L : Nat → List Nat) (τ : Nat → Nat) (a : Nat) : Prop :=
  (w.cell? ⟨S, 2 + a, none⟩ = some (.map none) ∧ ∀ m, m < 3 → L m = []) ∨
  ∃ r es ck, w.cell? ⟨S, 2 + a, none⟩ = some (.map (some r)) ∧ τ r = 30 + a ∧ w.heap[r]? = some (.map es ck) ∧
    ∀ m, m < 3 → (Instr.findNow .string (.string (tblName m)) es.toList 0 = some none ∧ L m = []) ∨
      ∃ k v en, Instr.findNow .string (.string (tblName m)) es.toList 0 = some (some (k, v)) ∧ es[k]? = some en ∧ en.key = .string (tblName m) ∧ Row w N v (L m) ∧ ∀ g, v.ownBlock = some g → τ g = 100 + 3 * a + m

structure Lists (w : World) (N S : Nat) (K : Nat → List Nat) (M : Nat → Nat → List Nat) (C : Nat → Nat) (τ : Nat → Nat) : Prop where
  low : ∀ k, k < N → τ k = 9
  le : N ≤ w.heap.size
  tS : τ S = 0
  ltS : S < w.heap.size
  fz : ∀ i, w.frozen? ⟨S, i, none⟩ = false
  kind : ∀ b, b < 16 → ∃ v, w.cell? ⟨S, 5 + b, none⟩ = some v ∧ Row w N v (K b) ∧ ∀ g, v.ownBlock = some g → τ g = 10 + b
  name : ∀ a, a < 3 → NameOk w N S (M a) τ a
  opened : ∃ v, w.cell? ⟨S, 22, none⟩ = some v ∧ w.ownsRow N 3 1 v 2 [.int .i64 (C 1), .int .i64 (C 2)] ∧ ∀ g, v.ownBlock = some g → τ g = 1

/-- A tag that the lists use. -/
def listTag (t : Nat) : Prop := t = 0 ∨ t = 1 ∨ (10 ≤ t ∧ t ≤ 25) ∨ (30 ≤ t ∧ t ≤ 32) ∨ (100 ≤ t ∧ t ≤ 108)

theorem NameOk.frame {w w' : World} {N S a : Nat} {L : Nat → List Nat} {τ τ' : Nat → Nat} (h : NameOk w N S L τ a) (ha : ∀ k, k < w.heap.size → τ' k = τ k)
    (hS : w'.cell? ⟨S, 2 + a, none⟩ = w.cell? ⟨S, 2 + a, none⟩) (hb : ∀ k, k < w.heap.size → (τ k = 30 + a ∨ ∃ m, m < 3 ∧ τ k = 100 + 3 * a + m) → w'.heap[k]? = w.heap[k]?) : NameOk w' N S L τ' a := by
  rcases h with ⟨h1, h2⟩ | ⟨r, es, ck, h1, h2, h3, h4⟩
  · exact .inl ⟨hS.trans h1, h2⟩
  · have hr := lt_of_block h3
    refine .inr ⟨r, es, ck, hS.trans h1, (ha r hr).trans h2, (hb r hr (.inl h2)).trans h3, fun m hm => ?_⟩
    rcases h4 m hm with h5 | ⟨k, v, en, h5, h6, h7, h8, h9⟩
    · exact .inl h5
    · refine .inr ⟨k, v, en, h5, h6, h7, ownsRow_same h8 (fun g hg => hb g (h8.lt g hg).2 (.inr ⟨m, hm, h9 g hg⟩)), fun g hg => (ha g (h8.lt g hg).2).trans (h9 g hg)⟩

/-- What the lists do not use may turn. -/
theorem Lists.frame {w w' : World} {N S : Nat} {K : Nat → List Nat} {M : Nat → Nat → List Nat} {C : Nat → Nat} {τ τ' : Nat → Nat} (h : Lists w N S K M C τ) {T : Nat → Prop} (hc : Chg τ T w w') (hT : ∀ t, T t → ¬ listTag t) (ha : ∀ k, k < w.heap.size → τ' k = τ k) : Lists w' N S K M C τ' := by
  have key : ∀ k, k < w.heap.size → listTag (τ k) → w'.heap[k]? = w.heap[k]? := fun k hk ht => hc.block k hk (fun h => hT _ h ht)
  have hS := key S h.ltS (.inl h.tS)
  have cS : ∀ i, w'.cell? ⟨S, i, none⟩ = w.cell? ⟨S, i, none⟩ := fun i => World.cell?_of_block (a := ⟨S, i, none⟩) hS
  refine ⟨fun k hk => (ha k (Nat.lt_of_lt_of_le hk h.le)).trans (h.low k hk), Nat.le_trans h.le hc.size, (ha S h.ltS).trans h.tS, Nat.lt_of_lt_of_le h.ltS hc.size, fun i => (World.frozen?_of_block (a := ⟨S, i, none⟩) hS).trans (h.fz i), fun b hb => ?_, fun a hA => ?_, ?_⟩
  · obtain ⟨v, h1, h2, h3⟩ := h.kind b hb
    refine ⟨v, (cS _).trans h1, ownsRow_same h2 (fun g hg => key g (h2.lt g hg).2 ?_), fun g hg => (ha g (h2.lt g hg).2).trans (h3 g hg)⟩
    rw [h3 g hg]
    exact .inr (.inr (.inl ⟨by omega, by omega⟩))
  · refine (h.name a hA).frame ha (cS _) (fun k hk ht => key k hk ?_)
    rcases ht with ht | ⟨m, hm, ht⟩
    · rw [ht]; exact .inr (.inr (.inr (.inl ⟨by omega, by omega⟩)))
    · rw [ht]; exact .inr (.inr (.inr (.inr ⟨by omega, by omega⟩)))
  · obtain ⟨v, h1, h2, h3⟩ := h.opened
    refine ⟨v, (cS _).trans h1, ownsRow_same h2 (fun g hg => key g (h2.lt g hg).2 ?_), fun g hg => (ha g (h2.lt g hg).2).trans (h3 g hg)⟩
    rw [h3 g hg]
    exact .inr (.inl rfl)

/-- A kind's row is laid anew. -/
theorem Lists.kindUpd {w w' : World} {N S b : Nat} {K : Nat → List Nat} {M : Nat → Nat → List Nat} {C : Nat → Nat} {τ τ' : Nat → Nat} {v' : Value} {l' : List Nat} (h : Lists w N S K M C τ) (hb : b < 16) (hc : Chg τ (fun t => t = 0 ∨ t = 10 + b) w w') (ha : ∀ k, k < w.heap.size → τ' k = τ k)
    (hS : ∀ i, i ≠ 5 + b → w'.cell? ⟨S, i, none⟩ = w.cell? ⟨S, i, none⟩) (hf : ∀ i, w'.frozen? ⟨S, i, none⟩ = w.frozen? ⟨S, i, none⟩) (hv : w'.cell? ⟨S, 5 + b, none⟩ = some v') (hr : Row w' N v' l') (ht : ∀ g, v'.ownBlock = some g → τ' g = 10 + b) :
    Lists w' N S (fun x => if x = b then l' else K x) M C τ' := by
  have key : ∀ k, k < w.heap.size → τ k ≠ 0 → τ k ≠ 10 + b → w'.heap[k]? = w.heap[k]? := fun k hk h1 h2 => hc.block k hk (by simp [h1, h2])
  refine ⟨fun k hk => (ha k (Nat.lt_of_lt_of_le hk h.le)).trans (h.low k hk), Nat.le_trans h.le hc.size, (ha S h.ltS).trans h.tS, Nat.lt_of_lt_of_le h.ltS hc.size, fun i => (hf i).trans (h.fz i), fun x hx => ?_, fun a hA => ?_, ?_⟩
  · by_cases e : x = b
    · subst e
      simp only [if_true]
      exact ⟨v', hv, hr, ht⟩
    · simp only [e, if_false]
      obtain ⟨v, h1, h2, h3⟩ := h.kind x hx
      exact ⟨v, (hS _ (by omega)).trans h1, ownsRow_same h2 (fun g hg => key g (h2.lt g hg).2 (by rw [h3 g hg]; omega) (by rw [h3 g hg]; omega)), fun g hg => (ha g (h2.lt g hg).2).trans (h3 g hg)⟩
  · refine (h.name a hA).frame ha (hS _ (by omega)) (fun k hk ht => key k hk ?_ ?_)
    · rcases ht with ht | ⟨m, hm, ht⟩ <;> omega
    · rcases ht with ht | ⟨m, hm, ht⟩ <;> omega
  · obtain ⟨v, h1, h2, h3⟩ := h.opened
    exact ⟨v, (hS _ (by omega)).trans h1, ownsRow_same h2 (fun g hg => key g (h2.lt g hg).2 (by rw [h3 g hg]; omega) (by rw [h3 g hg]; omega)), fun g hg => (ha g (h2.lt g hg).2).trans (h3 g hg)⟩

/-- The counts are laid anew. -/
theorem Lists.openUpd {w w' : World} {N S : Nat} {K : Nat → List Nat} {M : Nat → Nat → List Nat} {C C' : Nat → Nat} {τ τ' : Nat → Nat} {v' : Value} (h : Lists w N S K M C τ) (hc : Chg τ (fun t => t = 0 ∨ t = 1) w w') (ha : ∀ k, k < w.heap.size → τ' k = τ k)
    (hS : ∀ i, i ≠ 22 → w'.cell? ⟨S, i, none⟩ = w.cell? ⟨S, i, none⟩) (hf : ∀ i, w'.frozen? ⟨S, i, none⟩ = w.frozen? ⟨S, i, none⟩) (hv : w'.cell? ⟨S, 22, none⟩ = some v') (hr : w'.ownsRow N 3 1 v' 2 [.int .i64 (C' 1), .int .i64 (C' 2)]) (ht : ∀ g, v'.ownBlock = some g → τ' g = 1) :
    Lists w' N S K M C' τ' := by
  have key : ∀ k, k < w.heap.size → τ k ≠ 0 → τ k ≠ 1 → w'.heap[k]? = w.heap[k]? := fun k hk h1 h2 => hc.block k hk (by simp [h1, h2])
  refine ⟨fun k hk => (ha k (Nat.lt_of_lt_of_le hk h.le)).trans (h.low k hk), Nat.le_trans h.le hc.size, (ha S h.ltS).trans h.tS, Nat.lt_of_lt_of_le h.ltS hc.size, fun i => (hf i).trans (h.fz i), fun x hx => ?_, fun a hA => ?_, ⟨v', hv, hr, ht⟩⟩
  · obtain ⟨v, h1, h2, h3⟩ := h.kind x hx
    exact ⟨v, (hS _ (by omega)).trans h1, ownsRow_same h2 (fun g hg => key g (h2.lt g hg).2 (by rw [h3 g hg]; omega) (by rw [h3 g hg]; omega)), fun g hg => (ha g (h2.lt g hg).2).trans (h3 g hg)⟩
  · refine (h.name a hA).frame ha (hS _ (by omega)) (fun k hk ht => key k hk ?_ ?_)
    · rcases ht with ht | ⟨m, hm, ht⟩ <;> omega
    · rcases ht with ht | ⟨m, hm, ht⟩ <;> omega

/-- One namespace's map is laid anew. -/
theorem Lists.nameUpd {w w' : World} {N S a : Nat} {K : Nat → List Nat} {M : Nat → Nat → List Nat} {C : Nat → Nat} {τ τ' : Nat → Nat} {L' : Nat → List Nat} (h : Lists w N S K M C τ) (hA : a < 3) (hc : Chg τ (fun t => t = 0 ∨ t = 30 + a ∨ ∃ m, m < 3 ∧ t = 100 + 3 * a + m) w w') (ha : ∀ k, k < w.heap.size → τ' k = τ k)
    (hS : ∀ i, i ≠ 2 + a → w'.cell? ⟨S, i, none⟩ = w.cell? ⟨S, i, none⟩) (hf : ∀ i, w'.frozen? ⟨S, i, none⟩ = w.frozen? ⟨S, i, none⟩) (hn : NameOk w' N S L' τ' a) :
    Lists w' N S K (fun x => if x = a then L' else M x) C τ' := by
  have key : ∀ k, k < w.heap.size → τ k ≠ 0 → τ k ≠ 30 + a → (∀ m, m < 3 → τ k ≠ 100 + 3 * a + m) → w'.heap[k]? = w.heap[k]? := fun k hk h1 h2 h3 => hc.block k hk (by rintro (e | e | ⟨m, hm, e⟩); exact h1 e; exact h2 e; exact h3 m hm e)
  refine ⟨fun k hk => (ha k (Nat.lt_of_lt_of_le hk h.le)).trans (h.low k hk), Nat.le_trans h.le hc.size, (ha S h.ltS).trans h.tS, Nat.lt_of_lt_of_le h.ltS hc.size, fun i => (hf i).trans (h.fz i), fun x hx => ?_, fun x hx => ?_, ?_⟩
  · obtain ⟨v, h1, h2, h3⟩ := h.kind x hx
    exact ⟨v, (hS _ (by omega)).trans h1, ownsRow_same h2 (fun g hg => key g (h2.lt g hg).2 (by rw [h3 g hg]; omega) (by rw [h3 g hg]; omega) (fun m hm => by rw [h3 g hg]; omega)), fun g hg => (ha g (h2.lt g hg).2).trans (h3 g hg)⟩
  · by_cases e : x = a
    · subst e
      simp only [if_true]
      exact hn
    · simp only [e, if_false]
      refine (h.name x hx).frame ha (hS _ (by omega)) (fun k hk ht => key k hk ?_ ?_ (fun m' hm' => ?_))
      · rcases ht with ht | ⟨m, hm, ht⟩ <;> omega
      · rcases ht with ht | ⟨m, hm, ht⟩ <;> omega
      · rcases ht with ht | ⟨m, hm, ht⟩ <;> omega
  · obtain ⟨v, h1, h2, h3⟩ := h.opened
    exact ⟨v, (hS _ (by omega)).trans h1, ownsRow_same h2 (fun g hg => key g (h2.lt g hg).2 (by rw [h3 g hg]; omega) (by rw [h3 g hg]; omega) (fun m hm => by rw [h3 g hg]; omega)), fun g hg => (ha g (h2.lt g hg).2).trans (h3 g hg)⟩

end Go.Proofs.Ybulkapxu
