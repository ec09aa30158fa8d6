import Derived.Test.YbulkapzyOk
namespace Go.Proofs.Ybulkapzy
open Go.RowKit

theorem ownsRowLower {w : World} {b0 n z : Nat} {e : TypeId} {v : Value} {xs : List Value} (h : w.ownsRow b0 e z v n xs) : w.ownsRow 0 e z v n xs := by
  refine ⟨h.1, ?_⟩
  rcases h.2 with h0 | ⟨g, c, cur, hv, h1, h2, h3⟩
  · exact .inl h0
  · exact .inr ⟨g, c, cur, hv, Nat.zero_le _, h2, h3⟩

set_option maxRecDepth 20000 in
set_option maxHeartbeats 2000000 in
theorem accept_found (be bm mb clock i b0 on bh : Nat) (es : Array MapEntry) (mk pa cl : ByteArray) (sd sz pr : Int) (gf : Bool) (gt : Int) (b : Int) (ov : Value) (olds : List Value) (w : World)
    (h0 : w.cell? ⟨be, 0, none⟩ = some (.map (some mb))) (hm : w.heap[mb]? = some (.map es clock)) (hhit : Instr.findNow .string (.string mk) es.toList 0 = some (some (i, .pointer (some ⟨bm, 0, none⟩))))
    (h6 : w.cell? ⟨bm, 6, none⟩ = some (.bool false))
    (h2 : w.cell? ⟨be, 2, none⟩ = some ov) (hf2 : w.frozen? ⟨be, 2, none⟩ = false) (hov : ∃ a c, ov = .slice a on c) (hrow : w.ownsRow b0 78 1 ov on olds) (hb0 : b0 ≤ w.heap.size) (hon : on ≤ 1024) (hptr : ∀ v, v ∈ olds → ∃ q, v = .pointer q)
    (hh : ∀ wx, Below w.heap.size w wx → Calls Yba.prog 21 #[.pointer (some ⟨be, 0, none⟩), .pointer (some ⟨bm, 0, none⟩), .string pa] wx fun e w' => e = .returned (.pointer (some ⟨bh, 0, none⟩)) ∧ w' = wx)
    (hfd : ∀ wx, Below w.heap.size w wx → Calls Yba.prog 22 #[.pointer (some ⟨bh, 0, none⟩), .string cl] wx fun e w' => e = .returned (.pointer none) ∧ Below wx.heap.size wx w')
    (hhd : ∀ wx, Below w.heap.size w wx → Calls Yba.prog 24 #[.pointer (some ⟨bm, 0, none⟩), .agg #[.string mk, .string pa, .string cl, .int .u8 sd, .int .i64 sz, .int .i64 pr, .bool gf, .bool false, .int .u64 gt]] wx fun e w' => e = .returned (.bool false) ∧ Below wx.heap.size wx w')
    (hbr : ov.ownBlock ≠ some be)
    (hs : refuse pa cl sd sz pr false gt false b false = none) :
    Calls Yba.prog 13 #[.pointer (some ⟨be, 0, none⟩), .agg #[.string mk, .string pa, .string cl, .int .u8 sd, .int .i64 sz, .int .i64 pr, .bool gf, .bool false, .int .u64 gt]] w fun e w' => ∃ O g c wx, e = .returned (.tuple #[.pointer (some ⟨bm, 0, none⟩), .pointer (some ⟨O, 0, none⟩), .nilIface]) ∧
      Placed w wx wx w' be O bh on g c mk pa cl sd sz pr gf false gt ov olds ∧ w'.ownsRow b0 78 1 (.slice (some ⟨g, 0, none⟩) (on + 1) c) (on + 1) (olds ++ [.pointer (some ⟨O, 0, none⟩)]) := by
  unfold refuse at hs
  split at hs
  · cases hs
  rename_i hn
  split at hs
  · cases hs
  rename_i hsd
  split at hs
  · cases hs
  rename_i hsz
  split at hs
  · cases hs
  rename_i hpr
  split at hs
  · cases hs
  split at hs
  · cases hs
  clear hs
  have HN1 : Hid (nameOk pa = true) := hide (by cases h : nameOk pa; exact absurd (.inl h) hn; rfl)
  have HN2 : Hid (nameOk cl = true) := hide (by cases h : nameOk cl; exact absurd (.inr h) hn; rfl)
  have esd : ((sd != 1) = false) ∨ ((sd != 1) = true ∧ (sd != 2) = false) := by
    by_cases h1 : sd = 1
    · left; simp [h1]
    · right; exact ⟨by rw [bne_iff_ne]; exact h1, by by_cases h2 : sd = 2; simp [h2]; exact absurd ⟨h1, h2⟩ hsd⟩
  have hsz1 : ¬ sz < 1 := by omega
  have hsz2 : ¬ 1000000000000 < sz := by omega
  have hpr1 : ¬ pr < 1 := by omega
  have hpr2 : ¬ 1000000000000 < pr := by omega
  have hmlt := lt_of_block hm
  have hl := fun o nq => look_hit (P := Yba.prog) (w := (w.alloc o).drewN nq) Yba.underlying56 Yba.underlying9 (str_key mk) ((Below.heap_alloc w o mb hmlt).trans hm) hhit
  have hbe := World.block_lt_of_cell? _ _ h0
  have hbm := World.block_lt_of_cell? _ _ h6
  have HHH := hide hh
  have HHD := hide hhd
  have HROW := hide hrow
  have HFD := hide hfd
  have HPTR := hide hptr
  have HBR := hide hbr
  obtain ⟨i0, hi0, hz0, hz1, hz2⟩ := info_parts Yba.info78
  clear hm hhit hmlt hh hhd hn hsd hsz hpr hrow hfd hbr hptr
  go_enter Yba.func13, Yba.ntmps13
  go_wp2
  go_quiet (fail)
  obtain ⟨w1, hw1⟩ : ∃ w1, w1 = (w.alloc (Obj.cells #[.string mk, .string pa, .string cl, .int .u8 sd, .int .i64 sz, .int .i64 pr, .bool gf, .bool false, .int .u64 gt] 73)).drewN nq := ⟨_, rfl⟩
  rw [← hw1]
  have hbel : Below w.heap.size w w1 := by rw [hw1]; exact below_drewN ((Below.refl _ _).alloc (Nat.le_refl _) _) _
  have hR : w1.heap[w.heap.size]? = some (.cells #[.string mk, .string pa, .string cl, .int .u8 sd, .int .i64 sz, .int .i64 pr, .bool gf, .bool false, .int .u64 gt] 73 (0, 0)) := by
    rw [hw1]; exact heap_alloc_new w _
  have h61 := (hbel.cell (p := ⟨bm, 6, none⟩) hbm).trans h6
  obtain ⟨R, hRR⟩ : ∃ R, R = w.heap.size := ⟨_, rfl⟩
  rw [← hRR] at hR ⊢
  have r1 : w1.cell? ⟨R, 1, none⟩ = some (.string pa) := cell_of hR rfl
  have r2 : w1.cell? ⟨R, 2, none⟩ = some (.string cl) := cell_of hR rfl
  have r3 : w1.cell? ⟨R, 3, none⟩ = some (.int .u8 sd) := cell_of hR rfl
  have r4 : w1.cell? ⟨R, 4, none⟩ = some (.int .i64 sz) := cell_of hR rfl
  have r5 : w1.cell? ⟨R, 5, none⟩ = some (.int .i64 pr) := cell_of hR rfl
  have r7 : w1.cell? ⟨R, 7, none⟩ = some (.bool false) := cell_of hR rfl
  have r8 : w1.cell? ⟨R, 8, none⟩ = some (.int .u64 gt) := cell_of hR rfl
  have r0 : w1.cell? ⟨R, 0, none⟩ = some (.string mk) := cell_of hR rfl
  have r6 : w1.cell? ⟨R, 6, none⟩ = some (.bool gf) := cell_of hR rfl
  have HR := hide hR
  have HRR := hide hRR
  have HBel := hide hbel
  have H0 := hide h0
  have H2 := hide h2
  have HF2 := hide hf2
  have HBE := hide hbe
  clear hw1 hbel hR hRR h0 h6 hl hbe hbm h2 hf2
  go_wp2_with fail
  refine (validName_any pa w1).mono ?_
  rintro e w2 ⟨rfl, rfl⟩
  rw [unhide HN1]
  go_wp2_with fail
  refine (validName_any cl _).mono ?_
  rintro e w2 ⟨rfl, rfl⟩
  rw [unhide HN2]
  rcases esd with e1 | ⟨e1, e2⟩
  all_goals
    go_wp2_with fail
    refine (unhide HHH _ (unhide HBel)).mono ?_
    rintro e w3 ⟨rfl, rfl⟩
    go_wp2_with fail
    refine (unhide HFD _ (unhide HBel)).mono ?_
    rintro e w3 ⟨rfl, hb3⟩
    have hR3 : w3.heap[R]? = some (.cells #[.string mk, .string pa, .string cl, .int .u8 sd, .int .i64 sz, .int .i64 pr, .bool gf, .bool false, .int .u64 gt] 73 (0, 0)) := (hb3.block R (lt_of_block (unhide HR))).trans (unhide HR)
    have hbel3 : Below w.heap.size w w3 := (unhide HBel).trans (hb3.mono (unhide HBel).size)
    have h63 := (hb3.cell (p := ⟨bm, 6, none⟩) (World.block_lt_of_cell? _ _ h61)).trans h61
    clear r0 r1 r2 r3 r4 r5 r6 r7 r8 h61 HR HBel hb3
    have r0 : w3.cell? ⟨R, 0, none⟩ = some (.string mk) := cell_of hR3 rfl
    have r1 : w3.cell? ⟨R, 1, none⟩ = some (.string pa) := cell_of hR3 rfl
    have r2 : w3.cell? ⟨R, 2, none⟩ = some (.string cl) := cell_of hR3 rfl
    have r3 : w3.cell? ⟨R, 3, none⟩ = some (.int .u8 sd) := cell_of hR3 rfl
    have r4 : w3.cell? ⟨R, 4, none⟩ = some (.int .i64 sz) := cell_of hR3 rfl
    have r5 : w3.cell? ⟨R, 5, none⟩ = some (.int .i64 pr) := cell_of hR3 rfl
    have r6 : w3.cell? ⟨R, 6, none⟩ = some (.bool gf) := cell_of hR3 rfl
    have r7 : w3.cell? ⟨R, 7, none⟩ = some (.bool false) := cell_of hR3 rfl
    have r8 : w3.cell? ⟨R, 8, none⟩ = some (.int .u64 gt) := cell_of hR3 rfl
    have HR := hide hR3
    have HBel := hide hbel3
    clear hR3 hbel3
    · go_wp2
      go_quiet (fail)
      go_wp2_with fail
      refine (unhide HHD _ (below_drewN (unhide HBel) _)).mono ?_
      rintro e w4 ⟨rfl, hb4⟩
      have hR4 : w4.heap[R]? = some (.cells #[.string mk, .string pa, .string cl, .int .u8 sd, .int .i64 sz, .int .i64 pr, .bool gf, .bool false, .int .u64 gt] 73 (0, 0)) := (hb4.block R (lt_of_block (unhide HR))).trans (unhide HR)
      have hbel4 : Below w.heap.size w w4 := (below_drewN (unhide HBel) _).trans (hb4.mono (below_drewN (unhide HBel) _).size)
      have q0 : w4.cell? ⟨R, 0, none⟩ = some (.string mk) := cell_of hR4 rfl
      have q1 : w4.cell? ⟨R, 1, none⟩ = some (.string pa) := cell_of hR4 rfl
      have q2 : w4.cell? ⟨R, 2, none⟩ = some (.string cl) := cell_of hR4 rfl
      have q3 : w4.cell? ⟨R, 3, none⟩ = some (.int .u8 sd) := cell_of hR4 rfl
      have q4 : w4.cell? ⟨R, 4, none⟩ = some (.int .i64 sz) := cell_of hR4 rfl
      have q5 : w4.cell? ⟨R, 5, none⟩ = some (.int .i64 pr) := cell_of hR4 rfl
      have q6 : w4.cell? ⟨R, 6, none⟩ = some (.bool gf) := cell_of hR4 rfl
      have q7 : w4.cell? ⟨R, 7, none⟩ = some (.bool false) := cell_of hR4 rfl
      have q8 : w4.cell? ⟨R, 8, none⟩ = some (.int .u64 gt) := cell_of hR4 rfl
      have k2 := (hbel4.cell (p := ⟨be, 2, none⟩) (unhide HBE)).trans (unhide H2)
      obtain ⟨oa, oc, hov1⟩ := hov
      rw [hov1] at k2
      have HR4 := hide hR4
      have HBel4 := hide hbel4
      have HOV := hide hov1
      have hR4l := lt_of_block hR4
      have hbe4 := World.block_lt_of_cell? _ _ k2
      clear hR4 hbel4 hb4 r0 r1 r2 r3 r4 r5 r6 r7 r8 h63 hov1
      go_wp2
      go_region_held3 (fun wx => wx.cell? ⟨R, 0, none⟩ = some (.string mk) ∧ wx.cell? ⟨R, 1, none⟩ = some (.string pa) ∧ wx.cell? ⟨R, 2, none⟩ = some (.string cl) ∧ wx.cell? ⟨R, 3, none⟩ = some (.int .u8 sd) ∧ wx.cell? ⟨R, 4, none⟩ = some (.int .i64 sz) ∧ wx.cell? ⟨R, 5, none⟩ = some (.int .i64 pr) ∧ wx.cell? ⟨R, 6, none⟩ = some (.bool gf) ∧ wx.cell? ⟨R, 7, none⟩ = some (.bool false) ∧ wx.cell? ⟨R, 8, none⟩ = some (.int .u64 gt) ∧ wx.cell? ⟨be, 2, none⟩ = some (.slice oa on oc)) (go_keep) (fail)
      all_goals
        obtain ⟨w5, hw5⟩ : ∃ w5, w5 = (w4.alloc (.cells (ordCells (IntKind.u64.wrap (IntKind.i64.wrap (on + 1))) mk pa cl sd sz pr gf false gt (.int .u64 0) (.int .u64 0) (.int .u64 0) none) 88)).drew := ⟨_, rfl⟩
        have hw5' := hw5
        unfold ordCells at hw5'
        rw [← hw5']
        clear hw5'
        obtain ⟨O, hO⟩ : ∃ O, O = w4.heap.size := ⟨_, rfl⟩
        rw [← hO]
        have hid : IntKind.u64.wrap (IntKind.i64.wrap ((on : Int) + 1)) = (on : Int) + 1 := idWrap on hon
        have hO5 : w5.heap[O]? = some (.cells (ordCells (on + 1) mk pa cl sd sz pr gf false gt (.int .u64 0) (.int .u64 0) (.int .u64 0) none) 88 (0, 0)) := by
          rw [hw5, hid, hO]; exact heap_alloc_new w4 _
        have hbel5 : Below w.heap.size w w5 := by rw [hw5]; exact ((unhide HBel4).alloc (unhide HBel4).size _).drew
        have hOlo : w.heap.size ≤ O := by rw [hO]; exact (unhide HBel4).size
        have hq15 : w5.cell? ⟨R, 1, none⟩ = some (.string pa) := by rw [hw5]; exact (World.cell?_alloc_past _ _ _ hR4l).trans q1
        have HO5 := hide hO5
        have HBel5 := hide hbel5
        rename_i hheld
        clear hw5 hO hid hO5 hbel5 hheld q0 q1 q2 q3 q4 q5 q6 q7 q8 k2 hR4l hbe4 HR4 HR HHD HHH
        have HOV1 := unhide HOV
        have hO6 := unhide HO5
        have hO6lt : O < w5.heap.size := lt_of_block hO6
        have hbeO : be ≠ O := by have := unhide HBE; omega
        have hbe6 : be < w5.heap.size := by have := unhide HBE; omega
        have k26 : w5.cell? ⟨be, 2, none⟩ = some (.slice oa on oc) := ((unhide HBel5).cell (p := ⟨be, 2, none⟩) (unhide HBE)).trans ((unhide H2).trans (by rw [HOV1]))
        have kf6 : w5.frozen? ⟨be, 2, none⟩ = false := ((unhide HBel5).frozen (p := ⟨be, 2, none⟩) (unhide HBE)).trans (unhide HF2)
        have c16 : w5.cell? ⟨O, 16, none⟩ = some (.pointer none) := cell_of hO6 rfl
        have f16 := frozen_of (i := 16) hO6
        have hrow5 : w5.ownsRow b0 78 1 (.slice oa on oc) on olds := by
          rw [← HOV1]
          refine ownsRow_same (unhide HROW) (fun q hq => ?_)
          have hql := ((unhide HROW).lt q hq).2
          rw [(unhide HBel5).block q hql]
        have hrb : ∀ q, (Value.slice oa on oc).ownBlock = some q → q < w.heap.size ∧ q ≠ be := by
          intro q hq
          rw [← HOV1] at hq
          exact ⟨((unhide HROW).lt q hq).2, fun e => unhide HBR (by rw [hq, e])⟩
        have hrow7 : ∀ o, ((w5.setCell ⟨O, 16, none⟩ (.pointer (some ⟨bh, 0, none⟩))).alloc o).ownsRow b0 78 1 (.slice oa on oc) on olds := by
          intro o
          refine ownsRow_same hrow5 (fun q hq => ?_)
          have h1 := (hrb q hq).1
          rw [Below.heap_alloc _ _ _ (by simp; omega), Below.heap_setCell _ _ _ _ (by simp; omega)]
        have HO6 := hide hO6
        have HR7 := hide hrow7
        have HRB := hide hrb
        clear hO6 hrow5 hrow7 hrb HOV1 hq15
        go_wp2_with (at_builtin; refine wpList_append_own _ rfl _ _ 47 rfl b0 78 i0 (.pointer none) 1 8 Yba.underlying47 hi0 hz0 hz1 hz2 rfl (by decide) _ on olds rfl (unhide HR7 _) ⟨w5.heap.size, 0, none⟩ 1 1 [.pointer (some ⟨O, 0, none⟩)] rfl rfl (by intro j u hu; exact cell_one_new_sc _ _ _ _ _ j u hu) (by intro u hu; simp at hu; subst hu; rfl) (by unfold maxLen; omega) (by omega) (by have := (unhide HBel5).size; simp; omega) ?_)
        intro v' w7 hown7 hgrow hnz
        obtain ⟨g, c, hv⟩ : ∃ g c, v' = .slice (some ⟨g, 0, none⟩) (on + 1) c := by
          rcases hown7.2 with ⟨h, _⟩ | ⟨gb, cb, cur, h, _⟩
          · rw [h] at hnz; simp at hnz
          · exact ⟨gb, cb, h⟩
        subst hv
        have hblk : ∀ q, q < w5.heap.size → q ≠ O → (∀ r, (Value.slice oa on oc).ownBlock = some r → r ≠ q) → w7.heap[q]? = w5.heap[q]? := by
          intro q hq hqO hqr
          rw [hgrow.block q (by simp; omega) (fun e => hqr q e.symm rfl), Below.heap_alloc _ _ _ (by simp; omega), Below.heap_setCell _ _ _ _ hqO]
        have hbe7 : w7.heap[be]? = w5.heap[be]? := hblk be hbe6 hbeO (fun r hr => (unhide HRB r hr).2)
        have k27 := (World.cell?_of_block (a := ⟨be, 2, none⟩) hbe7).trans k26
        have kf7 := (World.frozen?_of_block (a := ⟨be, 2, none⟩) hbe7).trans kf6
        have hO7 : w7.heap[O]? = some (.cells (ordCells (on + 1) mk pa cl sd sz pr gf false gt (.int .u64 0) (.int .u64 0) (.int .u64 0) (some ⟨bh, 0, none⟩)) 88 (0, 0)) := by
          rw [hgrow.block O (by simp; omega) (fun e => by have := (unhide HRB O e.symm).1; omega), Below.heap_alloc _ _ _ (by simp; omega)]
          exact heap_setCell_same _ _ _ _ _ _ (unhide HO6)
        have hT7 : Turn (be :: O :: ov.ownBlock.toList) w5 w7 := by
          refine ⟨hgrow.os, hgrow.tape, hgrow.output, by have := hgrow.size; simp at this; omega, fun q hq hn => ?_⟩
          refine hblk q hq (fun e => hn (by simp [e])) (fun r hr e => hn ?_)
          rw [unhide HOV, hr, e]; simp
        have HK27 := hide k27
        have HB7 := hide hbe7
        have HO7 := hide hO7
        have HT7 := hide hT7
        have HW7 := hide hown7
        clear hbe7 hO7 hT7 hown7 hgrow hnz hblk k26 kf6 c16 f16
        go_wp2
        go_ret3
        have hbeL : be < w7.heap.size := World.block_lt_of_cell? _ _ (unhide HK27)
        have hfin : (w7.setCell ⟨be, 2, none⟩ (.slice (some ⟨g, 0, none⟩) (on + 1) c)).ownsRow b0 78 1 (.slice (some ⟨g, 0, none⟩) (on + 1) c) (on + 1) (olds ++ [.pointer (some ⟨O, 0, none⟩)]) := by
          refine ownsRow_same (unhide HW7) (fun q hq => Below.heap_setCell _ _ _ _ ?_)
          rintro rfl
          have hqg : q = g := by simp [Value.ownBlock] at hq; exact hq.symm
          have h1 : w7.cell? ⟨q, 0, none⟩ = some (.map (some mb)) := (World.cell?_of_block (unhide HB7)).trans (((unhide HBel5).cell (p := ⟨q, 0, none⟩) (unhide HBE)).trans (unhide H0))
          subst hqg
          rw [(unhide HW7).cellAt 0 (by omega)] at h1
          cases olds with
          | nil => simp at h1
          | cons v r =>
            obtain ⟨q1, hq1⟩ := unhide HPTR v (by simp)
            simp [hq1] at h1
        refine ⟨O, g, c, w5, rfl, ⟨unhide HBel5, hOlo, hO6lt, ?_, ?_, ?_, ?_, ?_, ?_⟩, hfin⟩
        · rw [Below.heap_setCell _ _ _ _ (Ne.symm hbeO)]; exact unhide HO7
        · exact World.cell?_setCell_same _ _ _ (unhide HK27)
        · exact ownsRowLower hfin
        · intro i hi
          rw [World.cell?_setCell_other _ _ _ _ (by intro h; simp at h <;> omega)]
          exact World.cell?_of_block (unhide HB7)
        · intro i
          rw [World.frozen?_setCell]
          exact World.frozen?_of_block (unhide HB7)
        · exact (unhide HT7).setCell (.inl (by simp)) _

end Go.Proofs.Ybulkapzy
