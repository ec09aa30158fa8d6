import Derived.Test.YbulkapxuRemove
namespace Go.Proofs.Ybulkapxu
open Go.RowKit

/-- New blocks may come; what was there stands. -/
theorem Inv.past {w w' : World} {N S : Nat} {cs : St} {τ τ' : Nat → Nat} (h : Inv w N S cs τ) (hb : Below w.heap.size w w') (ha : ∀ k, k < w.heap.size → τ' k = τ k) : Inv w' N S cs τ' := by
  obtain ⟨v, s1, s2, s3⟩ := h.stack
  refine ⟨h.listed.frame (T := fun _ => False) (Chg.of_below hb _) (fun _ h => h.elim) ha, h.ents.frame (fun k hk _ => hb.block k hk) (fun k hk _ => ha k hk), h.wf, ⟨v, (hb.cell (p := ⟨S, 0, none⟩) h.listed.ltS).trans s1, ownsRow_same s2 (fun g hg => hb.block g (s2.lt g hg).2), fun g hg => (ha g (s2.lt g hg).2).trans (s3 g hg)⟩, h.len⟩

theorem push_inv {w : World} {N S : Nat} {cs : St} {τ : Nat → Nat} (hI : Inv w N S cs τ) (ns nm kd en bk : Nat) (h1 : ns < 3) (h2 : nm < 3) (h3 : bk < 3) (hl : cs.length < 1024) (x : Value) (hen : w.cell? ⟨en, 3, none⟩ = some x) (hef : w.frozen? ⟨en, 3, none⟩ = false) (hten : τ en = 5) :
    Calls Yba.prog 7 #[.pointer (some ⟨S, 0, none⟩), .agg #[.int .u8 ns, .string (tblName nm), .int .u8 0, .int .u16 kd, .pointer (some ⟨en, 0, none⟩), .bool false, .string ⟨#[]⟩, .int .i64 bk]] w fun e w' => (∃ v, e = .returned v) ∧ ∃ τ', Inv w' N S (cs ++ [some ⟨ns, nm, kd, en, bk⟩]) τ' ∧ (∀ k, k < w.heap.size → τ k = 9 → τ' k = 9) ∧ Chg τ (fun t => t ≠ 9) w w' ∧
      ∃ g c, w'.cell? ⟨S, 0, none⟩ = some (.slice (some ⟨g, 0, none⟩) (cs.length + 1) c) := by
  obtain ⟨v, s1, s2, s3⟩ := hI.stack
  obtain ⟨a0, c, hv⟩ : ∃ a0 c, v = .slice a0 cs.length c := by
    rcases s2.2 with ⟨h, h2⟩ | ⟨gb, cb, cur, h, _⟩
    · exact ⟨none, 0, by rw [h, h2]⟩
    · exact ⟨some ⟨gb, 0, none⟩, cb, h⟩
  subst hv
  have lp : ∀ p : El → Bool, (pos p cs).length ≤ 1024 := fun p => Nat.le_trans (pos_len p cs) (by omega)
  refine (push_any N S cs.length c ns nm kd en bk x a0 cs _ _ _ τ w s2 s3 hI.listed s1 h1 h2 (by omega) hen hef hten h3 (fun b => lp _) (fun b => lp _) (fun a m => lp _)).mono ?_
  rintro e w' ⟨hr, τ', hP⟩
  refine ⟨hr, fun k => if k = en then 3 else τ' k, ?_, ?_, hP.chg.mono (fun t ht => by omega), ?_⟩
  · have len := World.block_lt_of_cell? _ _ hen
    have t5 : τ' en = 5 := (hP.agree en len).trans hten
    have hset := listed_push (w := w') (N := N) (S := S) (st := cs) (τ := τ') ⟨ns, nm, kd, en, bk⟩ hP.lists
    have hnen : ∀ k t, τ' k = t → t ≠ 5 → k ≠ en := by rintro k t hk ht rfl; omega
    obtain ⟨g, cap, g1, g2, g3⟩ := hP.stack
    refine ⟨hset.retag (fun k hk => if_neg (hnen k _ rfl (by unfold listTag at hk; omega))), fun i el hi => ?_, fun i el hi => ?_, ⟨_, g1, ?_, ?_⟩, by rw [List.length_append, List.length_singleton]; omega⟩
    · by_cases hlt : i < cs.length
      · rw [List.getElem?_append_left hlt] at hi
        obtain ⟨q1, q2, q3⟩ := hI.ents i el hi
        have ql := World.block_lt_of_cell? _ _ q1
        have hb := hP.chg.block el.en ql (by rw [q3]; omega)
        have hne : el.en ≠ en := by intro h; rw [h, hten] at q3; omega
        refine ⟨(World.cell?_of_block (a := ⟨el.en, 3, none⟩) hb).trans q1, (World.frozen?_of_block (a := ⟨el.en, 3, none⟩) hb).trans q2, ?_⟩
        show (if el.en = en then 3 else τ' el.en) = 3
        rw [if_neg hne]
        exact (hP.agree el.en ql).trans q3
      · have hle := (List.getElem?_eq_some_iff.1 hi).1
        rw [List.length_append, List.length_singleton] at hle
        obtain rfl : i = cs.length := by omega
        rw [List.getElem?_append_right (Nat.le_refl _), Nat.sub_self] at hi
        cases hi
        exact ⟨hP.at3, hP.fz3, if_pos rfl⟩
    · by_cases hlt : i < cs.length
      · rw [List.getElem?_append_left hlt] at hi
        exact hI.wf i el hi
      · have hle := (List.getElem?_eq_some_iff.1 hi).1
        rw [List.length_append, List.length_singleton] at hle
        obtain rfl : i = cs.length := by omega
        rw [List.getElem?_append_right (Nat.le_refl _), Nat.sub_self] at hi
        cases hi
        exact ⟨h1, h2, h3⟩
    · rw [List.length_append, List.length_singleton, flat_append]
      have e : flat [some (⟨ns, nm, kd, en, bk⟩ : El)] = elCells (some ⟨ns, nm, kd, en, bk⟩) := by unfold flat; simp
      rw [e]
      exact g2
    · intro q hq
      simp [Value.ownBlock] at hq
      subst hq
      show (if g = en then 3 else τ' g) = 2
      rw [if_neg (hnen g 2 g3 (by omega))]
      exact g3
  · intro k hk ht
    show (if k = en then 3 else τ' k) = 9
    have hne : k ≠ en := by rintro rfl; omega
    rw [if_neg hne]
    exact (hP.agree k hk).trans ht
  · obtain ⟨g, cap, g1, _⟩ := hP.stack
    exact ⟨g, cap, g1⟩

end Go.Proofs.Ybulkapxu
