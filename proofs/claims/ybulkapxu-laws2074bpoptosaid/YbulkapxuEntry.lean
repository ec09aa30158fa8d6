import Derived.Test.YbulkapxuLists
import Derived.Maps.AppendAt
namespace Go.Proofs.Ybulkapxu
open Go.RowKit

/-- The world with block r laid anew. -/
def setB (w : World) (r : Nat) (o : Obj) : World := { w with heap := w.heap.setIfInBounds r o }

theorem setB_size (w : World) (r : Nat) (o : Obj) : (setB w r o).heap.size = w.heap.size := by simp [setB]
theorem setB_same (w : World) (r : Nat) (o : Obj) (h : r < w.heap.size) : (setB w r o).heap[r]? = some o := by simp [setB, h]
theorem setB_other (w : World) (r k : Nat) (o : Obj) (h : k ≠ r) : (setB w r o).heap[k]? = w.heap[k]? := by simp [setB, Ne.symm h]
theorem setB_below {B : Nat} {w w' : World} (h : Below B w w') (r : Nat) (o : Obj) (hr : B ≤ r) : Below B w (setB w' r o) :=
  h.trans ⟨rfl, rfl, rfl, Nat.le_of_eq (setB_size w' r o).symm, fun k hk => setB_other w' r k o (by omega)⟩

section
variable {P : Program} {w : World} {t kt et : TypeId}

theorem look_nil {k z : Value} {d : TypeDesc} (hm : P.underlying t = some (.map kt et)) (hd : P.underlying kt = some d) (hk : MapKept.IsKey d k) (hz : (zeroValue et).run P w = .ok z w) :
    (Instr.lookup t (.map none) k false).run P w = .ok z w := by
  have hf : Instr.findNow d k ([] : List MapEntry) 0 = some none := rfl
  have hc : (Instr.checkKey true 10000 kt k).run P w = .ok () w := MapKept.run_checkKey hd hk true 9999
  simp [Instr.lookup, run_underlying hm, hc, MapKept.run_findKey hd hf, hz, Result.andThen]

theorem look_miss {k z : Value} {d : TypeDesc} {r clock : Nat} {es : Array MapEntry} (hm : P.underlying t = some (.map kt et)) (hd : P.underlying kt = some d) (hk : MapKept.IsKey d k) (hz : (zeroValue et).run P w = .ok z w)
    (hb : w.heap[r]? = some (.map es clock)) (hf : Instr.findNow d k es.toList 0 = some none) :
    (Instr.lookup t (.map (some r)) k false).run P w = .ok z w := by
  have hc : ∀ b, (Instr.checkKey b 10000 kt k).run P w = .ok () w := fun b => MapKept.run_checkKey hd hk b 9999
  simp [Instr.lookup, run_underlying hm, MapKept.run_getObj_map hb, hc, MapKept.run_findKey hd hf, hz, Result.andThen]

theorem look_hit {k v : Value} {d : TypeDesc} {r clock i : Nat} {es : Array MapEntry} (hm : P.underlying t = some (.map kt et)) (hd : P.underlying kt = some d) (hk : MapKept.IsKey d k)
    (hb : w.heap[r]? = some (.map es clock)) (hf : Instr.findNow d k es.toList 0 = some (some (i, v))) :
    (Instr.lookup t (.map (some r)) k false).run P w = .ok v w := by
  have hc : ∀ b, (Instr.checkKey b 10000 kt k).run P w = .ok () w := fun b => MapKept.run_checkKey hd hk b 9999
  simp [Instr.lookup, run_underlying hm, MapKept.run_getObj_map hb, hc, MapKept.run_findKey hd hf, Result.andThen]

theorem upd_new {k v : Value} {d : TypeDesc} {r clock : Nat} {es : Array MapEntry} (hm : P.underlying t = some (.map kt et)) (hd : P.underlying kt = some d) (hk : MapKept.IsKey d k)
    (hb : w.heap[r]? = some (.map es clock)) (hf : Instr.findNow d k es.toList 0 = some none) :
    (Instr.mapUpdate t (.map (some r)) k v).run P w = .ok () (setB w r (.map (es.push { key := k, val := v, born := clock }) (clock + 1))) := by
  have hc : (Instr.checkKey false 10000 kt k).run P w = .ok () w := MapKept.run_checkKey hd hk false 9999
  simp [Instr.mapUpdate, run_underlying hm, MapKept.run_getObj_map hb, hc, MapKept.run_findKey hd hf, MapKept.run_setObj_map _ hb, Result.andThen, setB]

theorem upd_old {k v v0 : Value} {d : TypeDesc} {r clock i : Nat} {e : MapEntry} {es : Array MapEntry} (hm : P.underlying t = some (.map kt et)) (hd : P.underlying kt = some d) (hk : MapKept.IsKey d k)
    (hb : w.heap[r]? = some (.map es clock)) (hf : Instr.findNow d k es.toList 0 = some (some (i, v0))) (he : es[i]? = some e) (hek : e.key = k) :
    (Instr.mapUpdate t (.map (some r)) k v).run P w = .ok () (setB w r (.map (es.modify i fun e => { e with key := k, val := v }) clock)) := by
  have hc : (Instr.checkKey false 10000 kt k).run P w = .ok () w := MapKept.run_checkKey hd hk false 9999
  simp [Instr.mapUpdate, run_underlying hm, MapKept.run_getObj_map hb, hc, MapKept.run_findKey hd hf, he, hek, MapKept.run_keyThatStays hk, MapKept.run_setObj_map _ hb, Result.andThen, setB]
end

theorem str_key (s : ByteArray) : MapKept.IsKey .string (.string s) := by simp [MapKept.IsKey]


theorem Yba.zero30 (w : World) : (zeroValue 30).run Yba.prog w = .ok (.slice none 0 0) w := by kernel_rfl

theorem ext_lt {τ : Nat → Nat} {n t k : Nat} (h : k < n) : (if k < n then τ k else t) = τ k := if_pos h

/-- All that a look-up and an update of one name need. -/
theorem NameOk.entry {w : World} {N S a m r ck : Nat} {L : Nat → List Nat} {τ : Nat → Nat} {es : Array MapEntry} (hτ : τ r = 30 + a) (hr : w.heap[r]? = some (.map es ck))
    (h4 : ∀ m, m < 3 → (Instr.findNow .string (.string (tblName m)) es.toList 0 = some none ∧ L m = []) ∨
      ∃ k v en, Instr.findNow .string (.string (tblName m)) es.toList 0 = some (some (k, v)) ∧ es[k]? = some en ∧ en.key = .string (tblName m) ∧ Row w N v (L m) ∧ ∀ g, v.ownBlock = some g → τ g = 100 + 3 * a + m) (hm : m < 3) :
    ∃ (v : Value) (F : Value → Array MapEntry) (G : Value → Nat), Row w N v (L m) ∧ (∀ g, v.ownBlock = some g → τ g = 100 + 3 * a + m) ∧
      (∀ wx, wx.heap[r]? = some (.map es ck) → (Instr.lookup 28 (.map (some r)) (.string (tblName m)) false).run Yba.prog wx = .ok v wx) ∧
      (∀ wx v', wx.heap[r]? = some (.map es ck) → (Instr.mapUpdate 28 (.map (some r)) (.string (tblName m)) v').run Yba.prog wx = .ok () (setB wx r (.map (F v') (G v')))) ∧
      (∀ w' τ' v' l', w'.cell? ⟨S, 2 + a, none⟩ = some (.map (some r)) → (∀ k, k < w.heap.size → τ' k = τ k) → w'.heap[r]? = some (.map (F v') (G v')) → (∀ k, k < w.heap.size → (∃ x, x < 3 ∧ x ≠ m ∧ τ k = 100 + 3 * a + x) → w'.heap[k]? = w.heap[k]?) →
        Row w' N v' l' → (∀ g, v'.ownBlock = some g → τ' g = 100 + 3 * a + m) → NameOk w' N S (fun x => if x = m then l' else L x) τ' a) := by
  have hrl := lt_of_block hr
  rcases h4 m hm with ⟨h5, h6⟩ | ⟨k, v, en, h5, h6, h7, h8, h9⟩
  · refine ⟨.slice none 0 0, fun v' => es.push { key := .string (tblName m), val := v', born := ck }, fun _ => ck + 1, ?_, ?_, ?_, ?_, ?_⟩
    · rw [h6]; exact World.ownsRow_nil w N 3 1
    · intro g hg; simp [Value.ownBlock] at hg
    · intro wx hx
      exact look_miss (P := Yba.prog) Yba.underlying28 Yba.underlying9 (str_key _) (Yba.zero30 wx) hx h5
    · intro wx v' hx
      exact upd_new (P := Yba.prog) Yba.underlying28 Yba.underlying9 (str_key _) hx h5
    · intro w' τ' v' l' hS' ha hr' hb hrow ht
      refine .inr ⟨r, _, _, hS', (ha r hrl).trans hτ, hr', fun x hx => ?_⟩
      by_cases e : x = m
      · subst e
        refine .inr ⟨es.size, v', { key := .string (tblName x), val := v', born := ck }, ?_, by simp, rfl, by simpa using hrow, ht⟩
        rw [Array.toList_push, fn_push_miss _ h5]
        simp [Instr.findNow, same_self]
      · simp only [e, if_false]
        rcases h4 x hx with ⟨q1, q2⟩ | ⟨k2, v2, en2, q1, q2, q3, q4, q5⟩
        · refine .inl ⟨?_, q2⟩
          rw [Array.toList_push, fn_push_miss _ q1]
          simp [Instr.findNow, same_diff (tbl_ne hx hm e)]
        · refine .inr ⟨k2, v2, en2, ?_, ?_, q3, ownsRow_same q4 (fun g hg => hb g (q4.lt g hg).2 ⟨x, hx, e, q5 g hg⟩), fun g hg => (ha g (q4.lt g hg).2).trans (q5 g hg)⟩
          · rw [Array.toList_push]; exact fn_push_hit _ q1
          · have hk := (Array.getElem?_eq_some_iff.1 q2).1
            rw [Array.getElem?_push_lt hk]
            rw [Array.getElem?_eq_getElem hk] at q2
            exact q2
  · refine ⟨v, fun v' => es.modify k fun e => { e with key := .string (tblName m), val := v' }, fun _ => ck, h8, h9, ?_, ?_, ?_⟩
    · intro wx hx
      exact look_hit (P := Yba.prog) Yba.underlying28 Yba.underlying9 (str_key _) hx h5
    · intro wx v' hx
      exact upd_old (P := Yba.prog) Yba.underlying28 Yba.underlying9 (str_key _) hx h5 h6 h7
    · intro w' τ' v' l' hS' ha hr' hb hrow ht
      refine .inr ⟨r, _, _, hS', (ha r hrl).trans hτ, hr', fun x hx => ?_⟩
      have hkl : es.toList[k]? = some en := by rw [Array.getElem?_toList]; exact h6
      by_cases e : x = m
      · subst e
        refine .inr ⟨k, v', { en with key := .string (tblName x), val := v' }, ?_, ?_, rfl, by simpa using hrow, ht⟩
        · rw [Array.toList_modify]
          have h := fn_mod_same (v' := v') (i := 0) (k := k) (by rw [Nat.zero_add]; exact h5)
          rw [Nat.zero_add] at h
          exact h
        · rw [Array.getElem?_modify, h6]; simp
      · simp only [e, if_false]
        rcases h4 x hx with ⟨q1, q2⟩ | ⟨k2, v2, en2, q1, q2, q3, q4, q5⟩
        · refine .inl ⟨?_, q2⟩
          rw [Array.toList_modify, fn_mod_other (tbl_ne hx hm e) hkl h7]
          exact q1
        · refine .inr ⟨k2, v2, en2, ?_, ?_, q3, ownsRow_same q4 (fun g hg => hb g (q4.lt g hg).2 ⟨x, hx, e, q5 g hg⟩), fun g hg => (ha g (q4.lt g hg).2).trans (q5 g hg)⟩
          · rw [Array.toList_modify, fn_mod_other (tbl_ne hx hm e) hkl h7]
            exact q1
          · have hne : k ≠ k2 := by
              rintro rfl
              rw [h6] at q2
              cases q2
              rw [h7] at q3
              simp at q3
              exact tbl_ne hx hm e q3.symm
            rw [Array.getElem?_modify]
            simp [hne, q2]

end Go.Proofs.Ybulkapxu
