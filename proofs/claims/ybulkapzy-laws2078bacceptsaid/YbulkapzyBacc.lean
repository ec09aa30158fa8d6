import Derived.Test.YbulkapzyBtaken
import Derived.Deep.CutRange
import Derived.Deep.CutBlock
namespace Go.Proofs.Ybulkapzy
open Go.RowKit

theorem neq84 (i : Int) (nm pa cl : ByteArray) (sz pr f : Int) (a7 a8 a9 sd st : Int) (gf ex : Bool) (gt : Int) (w : World) :
    (binOp .neq 84 (.agg #[.int .u64 i, .string nm, .string pa, .string cl, .int .i64 sz, .int .i64 pr, .int .i64 f, .int .u64 a7, .int .u64 a8, .int .u64 a9, .int .u8 sd, .int .u8 st, .bool gf, .bool ex, .int .u64 gt])
      (.agg #[.int .u64 i, .string nm, .string pa, .string cl, .int .i64 sz, .int .i64 pr, .int .i64 f, .int .u64 a7, .int .u64 a8, .int .u64 a9, .int .u8 sd, .int .u8 st, .bool gf, .bool ex, .int .u64 gt])).run Yba.prog w = .ok (.bool false) w := by
  have h1 : Yba.prog.stoodInHeld 84 = false := by kernel_rfl
  have h2 : Yba.prog.underlying 84 = some (.struct (Yba.prog.fieldsOf 84)) := by kernel_rfl
  rw [run_neq_struct, run_equalIn_struct w 9999 84 _ _ h2 h1]
  simp [Program.fieldsOf, Yba.underlying84, Op.eqFields, go_sem]

set_option maxRecDepth 20000 in
set_option maxHeartbeats 8000000 in
theorem bacc (sel : Int) (mk pa cl : ByteArray) (sd sz pr : Int) (gf ex : Bool) (gt b : Int) (au dv hh : Bool) (hu : Int) (N : Nat) (w : World) (hN : w.heap.size = N) :
    Calls Yba.prog 5 #[.agg #[.int .u8 sel, .string mk, .string pa, .string cl, .int .u8 sd, .int .i64 sz, .int .i64 pr, .bool gf, .bool ex, .int .u64 gt, .int .u64 b, .bool au, .bool dv, .bool hh, .int .u64 hu]] w fun e w' => e = .returned (.bool true) ∧ Below w.heap.size w w' := by
  have hmk := fun wq => run_makeMap (P := Yba.prog) 56 wq
  have hup : ∀ o1 o2, (Instr.mapUpdate 56 (.map (some (N + 1 + 1))) (.string ⟨#[109, 107, 116]⟩) (.pointer (some ⟨N + 1, 0, none⟩))).run Yba.prog (((w.alloc o1).alloc o2).alloc (.map #[] 0)) = .ok () (((w.alloc o1).alloc o2).alloc (.map #[{ key := .string ⟨#[109, 107, 116]⟩, val := .pointer (some ⟨N + 1, 0, none⟩), born := 0 }] 1)) := by
    intro o1 o2
    have h := put_first ((w.alloc o1).alloc o2) (.string ⟨#[109, 107, 116]⟩) (.pointer (some ⟨N + 1, 0, none⟩)) 56 _ _ _ Yba.underlying56 Yba.underlying9 (str_key _)
    simpa [hN] using h
  have hmk2 := fun wq => run_makeMap (P := Yba.prog) 51 wq
  have hup2 : ∀ o1 o2 o3 o4 o5 o6, (Instr.mapUpdate 51 (.map (some (N + 1 + 1 + 1 + 1 + 1))) (.agg #[.string pa, .string cl]) (.pointer (some ⟨N + 1 + 1 + 1 + 1 + 1 + 1, 0, none⟩))).run Yba.prog (((((((w.alloc o1).alloc o2).alloc o3).alloc o4).alloc o5).alloc (.map #[] 0)).alloc o6) = .ok () (((((((w.alloc o1).alloc o2).alloc o3).alloc o4).alloc o5).alloc (.map #[{ key := .agg #[.string pa, .string cl], val := .pointer (some ⟨N + 1 + 1 + 1 + 1 + 1 + 1, 0, none⟩), born := 0 }] 1)).alloc o6) := by
    intro o1 o2 o3 o4 o5 o6
    have h := put_first2 (((((w.alloc o1).alloc o2).alloc o3).alloc o4).alloc o5) pa cl (.pointer (some ⟨N + 1 + 1 + 1 + 1 + 1 + 1, 0, none⟩)) o6
    simpa [hN] using h
  go_enter Yba.func5, Yba.ntmps5
  go_upto_if 42 with fail
  go_cut [5] from 41 to 59 (fun _ wx => ∃ hv, Start w wx N (qCells sel mk pa cl sd sz pr gf ex gt b au dv hh hu) pa cl b au dv hh hu hv)
  case first =>
    cases hh with
    | false =>
      go_wp2
      go_meet
      case rel =>
        obtain ⟨f1, f2, f3, f4, f5, f6⟩ := four w N hN (.cells (qCells sel mk pa cl sd sz pr gf ex gt b au dv false hu) 40) (.cells (mktCells N au dv (.map none)) 54) (.map #[{ key := .string ⟨#[109, 107, 116]⟩, val := .pointer (some ⟨N + 1, 0, none⟩), born := 0 }] 1) (.cells (engCells N b) 66)
        exact ⟨.map none, f1, f2, f3, f4, f5, Nat.le_of_eq f6.symm, .inl ⟨rfl, rfl⟩⟩
    | true =>
      go_wp2
      go_meet
      case rel =>
        obtain ⟨f1, f2, f3, f4, f5, f6⟩ := four w N hN (.cells (qCells sel mk pa cl sd sz pr gf ex gt b au dv true hu) 40) (.cells (mktCells N au dv (.map (some (N + 5)))) 54) (.map #[{ key := .string ⟨#[109, 107, 116]⟩, val := .pointer (some ⟨N + 1, 0, none⟩), born := 0 }] 1) (.cells (engCells N b) 66)
        obtain ⟨g1, g2, g3, g4, g5⟩ := three _ _ f6 (.cells #[.string pa, .string cl] 68) (.map #[{ key := .agg #[.string pa, .string cl], val := .pointer (some ⟨N + 6, 0, none⟩), born := 0 }] 1) (.cells #[.pointer (some ⟨N + 1, 0, none⟩), .string pa, .string cl, .int .u64 hu, .int .i64 1] 71)
        exact ⟨.map (some (N + 5)), (g1 _ (by omega)).trans f1, (g1 _ (by omega)).trans f2, (g1 _ (by omega)).trans f3, (g1 _ (by omega)).trans f4, f5.trans (g5.mono (by omega)), Nat.le_trans (by omega) (Nat.le_of_eq g4.symm), .inr ⟨rfl, N + 5, N + 6, rfl, g2, cell_of g3 rfl⟩⟩
  case rest =>
  obtain ⟨hv, hS⟩ := hcut
  generalize wc = wq at *
  obtain ⟨nm, hnm⟩ : ∃ nm, nm = if (sel.tmod 4 == 0) = true then mk else sMkt := ⟨_, rfl⟩
  have c0 : wq.cell? ⟨N, 0, none⟩ = some (.int .u8 sel) := cell_of hS.q rfl
  have c1 : wq.cell? ⟨N, 1, none⟩ = some (.string mk) := cell_of hS.q rfl
  have c2 : wq.cell? ⟨N, 2, none⟩ = some (.string pa) := cell_of hS.q rfl
  have c3 : wq.cell? ⟨N, 3, none⟩ = some (.string cl) := cell_of hS.q rfl
  have c4 : wq.cell? ⟨N, 4, none⟩ = some (.int .u8 sd) := cell_of hS.q rfl
  have c5 : wq.cell? ⟨N, 5, none⟩ = some (.int .i64 sz) := cell_of hS.q rfl
  have c6 : wq.cell? ⟨N, 6, none⟩ = some (.int .i64 pr) := cell_of hS.q rfl
  have c7 : wq.cell? ⟨N, 7, none⟩ = some (.bool gf) := cell_of hS.q rfl
  have c8 : wq.cell? ⟨N, 8, none⟩ = some (.bool ex) := cell_of hS.q rfl
  have c9 : wq.cell? ⟨N, 9, none⟩ = some (.int .u64 gt) := cell_of hS.q rfl
  have c10 : wq.cell? ⟨N, 10, none⟩ = some (.int .u64 b) := cell_of hS.q rfl
  have c11 : wq.cell? ⟨N, 11, none⟩ = some (.bool au) := cell_of hS.q rfl
  have c13 : wq.cell? ⟨N, 13, none⟩ = some (.bool hh) := cell_of hS.q rfl
  have c14 : wq.cell? ⟨N, 14, none⟩ = some (.int .u64 hu) := cell_of hS.q rfl
  have hNlt : N < wq.heap.size := by have := hS.size; omega
  have HST := hide hS
  have HNM := hide hnm
  have HNw := hide hN
  clear hS hnm hmk hup hmk2 hup2 hN
  go_upto_if 63 with fail
  go_cut [6] from 60 to 65 (fun s6 wx => s6 = .string nm ∧ wx = wq)
  case first =>
    cases htm : (sel.tmod 4 == 0) with
    | true =>
      as_aux_lemma =>
        go_wp2
        go_meet
        case rel => exact ⟨by rw [unhide HNM, if_pos htm], rfl⟩
    | false =>
      as_aux_lemma =>
        go_wp2
        go_meet
        case rel => exact ⟨by rw [unhide HNM, if_neg (by rw [htm]; simp)]; rfl, rfl⟩
  case rest =>
  obtain ⟨rfl, rfl⟩ := hcut
  generalize wc = wq at *
  go_upto_if 87 with fail
  go_cut [8] from 86 to 87 (fun s8 wx => s8 = .int .u64 (blk b) ∧ wx = wq.alloc (.cells #[.string nm, .string pa, .string cl, .int .u8 sd, .int .i64 sz, .int .i64 pr, .bool gf, .bool ex, .int .u64 gt] 73))
  case first =>
    by_cases hb1 : b < 1
    · as_aux_lemma =>
        go_wp2
        go_meet
        case rel => exact ⟨by rw [blk, if_pos hb1], rfl⟩
    · go_wp2
      go_meet
      case rel => exact ⟨by rw [blk, if_neg (by omega)], rfl⟩
  case rest =>
  obtain ⟨rfl, hw2⟩ := hcut
  generalize wc = w2 at *
  have hbel2 : Below wq.heap.size wq w2 := by rw [hw2]; exact (Below.refl _ _).alloc (Nat.le_refl _) _
  have hR2 : w2.heap[wq.heap.size]? = some (.cells #[.string nm, .string pa, .string cl, .int .u8 sd, .int .i64 sz, .int .i64 pr, .bool gf, .bool ex, .int .u64 gt] 73 (0, 0)) := by rw [hw2]; exact heap_alloc_new wq _
  have d2 := (hbel2.cell (p := ⟨N, 2, none⟩) hNlt).trans c2
  have d3 := (hbel2.cell (p := ⟨N, 3, none⟩) hNlt).trans c3
  have d4 := (hbel2.cell (p := ⟨N, 4, none⟩) hNlt).trans c4
  have d5 := (hbel2.cell (p := ⟨N, 5, none⟩) hNlt).trans c5
  have d6 := (hbel2.cell (p := ⟨N, 6, none⟩) hNlt).trans c6
  have d7 := (hbel2.cell (p := ⟨N, 7, none⟩) hNlt).trans c7
  have d8 := (hbel2.cell (p := ⟨N, 8, none⟩) hNlt).trans c8
  have d9 := (hbel2.cell (p := ⟨N, 9, none⟩) hNlt).trans c9
  have d11 := (hbel2.cell (p := ⟨N, 11, none⟩) hNlt).trans c11
  have d13 := (hbel2.cell (p := ⟨N, 13, none⟩) hNlt).trans c13
  have d14 := (hbel2.cell (p := ⟨N, 14, none⟩) hNlt).trans c14
  obtain ⟨R, hR⟩ : ∃ R, R = wq.heap.size := ⟨_, rfl⟩
  rw [← hR] at hR2 ⊢
  have HW2 := hide hw2
  have HBL2 := hide hbel2
  have HR2 := hide hR2
  have HRw := hide hR
  clear hw2 hbel2 hR2 hR c0 c1 c2 c3 c4 c5 c6 c7 c8 c9 c10 c11 c13 c14 hNlt
  obtain ⟨hd, hhd⟩ : ∃ hd, hd = (hh && (ex && decide (gt ≤ hu))) := ⟨_, rfl⟩
  have HHD := hide hhd
  clear hhd
  go_upto_block 0 with fail
  go_cut [9] from 88 to 162 (fun s9 wx => s9 = errV (wants nm pa cl sd sz pr ex gt au b hd) ∧ wx = w2)
  case first =>
    by_cases hnk : nm = sMkt
    · have hne : (nm.toList == [109, 107, 116]) = true := mkt_yes hnk
      have HNK := hide hnk
      clear hnk
      cases hn1 : nameOk pa with
      | false =>
        have HN1 := hide hn1
        clear hn1
        go_wp2_with fail
        refine (bname_any pa _).mono ?_
        rintro e w3 ⟨rfl, rfl⟩
        rw [unhide HN1]
        as_aux_lemma =>
          go_wp2
          go_meet
          case rel => exact ⟨by unfold wants refuse; rw [if_pos (unhide HNK), if_pos (by simp [unhide HN1])]; rfl, rfl⟩
      | true =>
      have HN1 := hide hn1
      clear hn1
      go_wp2_with fail
      refine (bname_any pa _).mono ?_
      rintro e w3 ⟨rfl, rfl⟩
      rw [unhide HN1]
      go_wp2_with fail
      refine (bname_any cl _).mono ?_
      rintro e w3 ⟨rfl, rfl⟩
      cases hn2 : nameOk cl with
      | false =>
        have HN2 := hide hn2
        as_aux_lemma =>
          go_wp2
          go_meet
          case rel => exact ⟨by unfold wants refuse; rw [if_pos (unhide HNK), if_pos (by simp [unhide HN2])]; rfl, rfl⟩
      | true =>
      have HN2 := hide hn2
      clear hn2
      by_cases hsd : sd ≠ 1 ∧ sd ≠ 2
      · have e1 : (sd != 1) = true := by rw [bne_iff_ne]; exact hsd.1
        have e2 : (sd != 2) = true := by rw [bne_iff_ne]; exact hsd.2
        have HSD := hide hsd
        clear hsd
        as_aux_lemma =>
          go_wp2
          go_meet
          case rel => exact ⟨by unfold wants refuse; rw [if_pos (unhide HNK), if_neg (by rw [unhide HN1, unhide HN2]; simp), if_pos (unhide HSD)]; rfl, rfl⟩
      have HSD := hide hsd
      have esd : ((sd != 1) = false) ∨ ((sd != 1) = true ∧ (sd != 2) = false) := by
        by_cases h1 : sd = 1
        · left; simp [h1]
        · right; exact ⟨by rw [bne_iff_ne]; exact h1, by by_cases h2 : sd = 2; simp [h2]; exact absurd ⟨h1, h2⟩ hsd⟩
      clear hsd
      rcases esd with e1 | ⟨e1, e2⟩
      all_goals
        by_cases hsz : sz < 1 ∨ 1000000000000 < sz
        · have HSZ := hide hsz
          rcases hsz with hsz | hsz
          · as_aux_lemma =>
              go_wp2
              go_meet
              case rel => exact ⟨by unfold wants refuse; rw [if_pos (unhide HNK), if_neg (by rw [unhide HN1, unhide HN2]; simp), if_neg (unhide HSD), if_pos (unhide HSZ)]; rfl, rfl⟩
          · have hsz0 : ¬ sz < 1 := by omega
            as_aux_lemma =>
              go_wp2
              go_meet
              case rel => exact ⟨by unfold wants refuse; rw [if_pos (unhide HNK), if_neg (by rw [unhide HN1, unhide HN2]; simp), if_neg (unhide HSD), if_pos (unhide HSZ)]; rfl, rfl⟩
        have HSZ := hide hsz
        have hsz1 : ¬ sz < 1 := by omega
        have hsz2 : ¬ 1000000000000 < sz := by omega
        clear hsz
        by_cases hpr : pr < 1 ∨ 1000000000000 < pr
        · have HPR := hide hpr
          rcases hpr with hpr | hpr
          · as_aux_lemma =>
              go_wp2
              go_meet
              case rel => exact ⟨by unfold wants refuse; rw [if_pos (unhide HNK), if_neg (by rw [unhide HN1, unhide HN2]; simp), if_neg (unhide HSD), if_neg (unhide HSZ), if_pos (unhide HPR)]; rfl, rfl⟩
          · have hpr0 : ¬ pr < 1 := by omega
            as_aux_lemma =>
              go_wp2
              go_meet
              case rel => exact ⟨by unfold wants refuse; rw [if_pos (unhide HNK), if_neg (by rw [unhide HN1, unhide HN2]; simp), if_neg (unhide HSD), if_neg (unhide HSZ), if_pos (unhide HPR)]; rfl, rfl⟩
        have HPR := hide hpr
        have hpr1 : ¬ pr < 1 := by omega
        have hpr2 : ¬ 1000000000000 < pr := by omega
        clear hpr
        cases au with
        | true =>
          as_aux_lemma =>
            go_wp2
            go_meet
            case rel => exact ⟨by unfold wants refuse; rw [if_pos (unhide HNK), if_neg (by rw [unhide HN1, unhide HN2]; simp), if_neg (unhide HSD), if_neg (unhide HSZ), if_neg (unhide HPR), if_pos (by simp)]; rfl, rfl⟩
        | false =>
        cases ex with
        | false =>
          have e3 : hd = false := by rw [unhide HHD]; simp
          have E3 := hide e3
          clear e3
          cases hh with
          | false =>
            as_aux_lemma =>
              go_wp2
              go_meet
              case rel => exact ⟨by unfold wants refuse; rw [if_pos (unhide HNK), if_neg (by rw [unhide HN1, unhide HN2]; simp), if_neg (unhide HSD), if_neg (unhide HSZ), if_neg (unhide HPR), if_neg (by simp), if_neg (by simp), if_neg (by rw [unhide E3]; simp)]; rfl, rfl⟩
          | true =>
            as_aux_lemma =>
              go_wp2
              go_meet
              case rel => exact ⟨by unfold wants refuse; rw [if_pos (unhide HNK), if_neg (by rw [unhide HN1, unhide HN2]; simp), if_neg (unhide HSD), if_neg (unhide HSZ), if_neg (unhide HPR), if_neg (by simp), if_neg (by simp), if_neg (by rw [unhide E3]; simp)]; rfl, rfl⟩
        | true =>
        have e3 : hd = (hh && decide (gt ≤ hu)) := by rw [unhide HHD]; simp
        have E3 := hide e3
        clear e3
        by_cases hgt : gt < blk b
        · have HGT := hide hgt
          as_aux_lemma =>
            go_wp2
            go_meet
            case rel => exact ⟨by unfold wants refuse; rw [if_pos (unhide HNK), if_neg (by rw [unhide HN1, unhide HN2]; simp), if_neg (unhide HSD), if_neg (unhide HSZ), if_neg (unhide HPR), if_neg (by simp), if_pos ⟨by simp, unhide HGT⟩]; rfl, rfl⟩
        have HGT := hide hgt
        cases hh with
        | false =>
          have e4 : hd = false := by rw [unhide E3]; simp
          have E4 := hide e4
          clear e4
          as_aux_lemma =>
            go_wp2
            go_meet
            case rel => exact ⟨by unfold wants refuse; rw [if_pos (unhide HNK), if_neg (by rw [unhide HN1, unhide HN2]; simp), if_neg (unhide HSD), if_neg (unhide HSZ), if_neg (unhide HPR), if_neg (by simp), if_neg (by have h1 := unhide HGT; intro h; have h2 := h.2; omega), if_neg (by rw [unhide E4]; simp)]; rfl, rfl⟩
        | true =>
          by_cases hgu : gt ≤ hu
          · have e4 : hd = true := by rw [unhide E3]; simpa using hgu
            have E4 := hide e4
            clear e4
            as_aux_lemma =>
              go_wp2
              go_meet
              case rel => exact ⟨by unfold wants refuse; rw [if_pos (unhide HNK), if_neg (by rw [unhide HN1, unhide HN2]; simp), if_neg (unhide HSD), if_neg (unhide HSZ), if_neg (unhide HPR), if_neg (by simp), if_neg (by have h1 := unhide HGT; intro h; have h2 := h.2; omega), if_pos (unhide E4)]; rfl, rfl⟩
          · have e4 : hd = false := by rw [unhide E3]; simpa using hgu
            have E4 := hide e4
            clear e4
            as_aux_lemma =>
              go_wp2
              go_meet
              case rel => exact ⟨by unfold wants refuse; rw [if_pos (unhide HNK), if_neg (by rw [unhide HN1, unhide HN2]; simp), if_neg (unhide HSD), if_neg (unhide HSZ), if_neg (unhide HPR), if_neg (by simp), if_neg (by have h1 := unhide HGT; intro h; have h2 := h.2; omega), if_neg (by rw [unhide E4]; simp)]; rfl, rfl⟩
    · have hne : (nm.toList == [109, 107, 116]) = false := mkt_no hnk
      have HNK := hide hnk
      clear hnk
      as_aux_lemma =>
        go_wp2
        go_meet
        case rel => exact ⟨by unfold wants; rw [if_neg (unhide HNK)]; rfl, rfl⟩
  case rest =>
  obtain ⟨rfl, hwe⟩ := hcut
  rw [hwe]
  clear hwe
  have hS := unhide HST
  have hR := unhide HRw
  have hb2 := unhide HBL2
  have hN1lt : N + 4 ≤ wq.heap.size := hS.size
  have kM : w2.heap[N + 1]? = _ := (hb2.block (N + 1) (by omega)).trans hS.m
  have kP : w2.heap[N + 2]? = _ := (hb2.block (N + 2) (by omega)).trans hS.mp
  have kE : w2.heap[N + 3]? = _ := (hb2.block (N + 3) (by omega)).trans hS.e
  have kR := unhide HR2
  have r0 : w2.cell? ⟨R, 0, none⟩ = some (.string nm) := cell_of kR rfl
  have r1 : w2.cell? ⟨R, 1, none⟩ = some (.string pa) := cell_of kR rfl
  have r2 : w2.cell? ⟨R, 2, none⟩ = some (.string cl) := cell_of kR rfl
  have r3 : w2.cell? ⟨R, 3, none⟩ = some (.int .u8 sd) := cell_of kR rfl
  have r4 : w2.cell? ⟨R, 4, none⟩ = some (.int .i64 sz) := cell_of kR rfl
  have r5 : w2.cell? ⟨R, 5, none⟩ = some (.int .i64 pr) := cell_of kR rfl
  have r6 : w2.cell? ⟨R, 6, none⟩ = some (.bool gf) := cell_of kR rfl
  have r7 : w2.cell? ⟨R, 7, none⟩ = some (.bool ex) := cell_of kR rfl
  have r8 : w2.cell? ⟨R, 8, none⟩ = some (.int .u64 gt) := cell_of kR rfl
  have HM := hide kM
  have HP := hide kP
  have HE := hide kE
  clear kM kP kE kR hS hR hb2
  cases hwant : wants nm pa cl sd sz pr ex gt au b hd with
  | some s =>
    have HWT := hide hwant
    clear hwant
    have heq := fun wz => eql_err wz s
    have hlk := fun wz => look_nil (P := Yba.prog) (w := wz) Yba.underlying57 Yba.underlying9 (str_key pa) (Yba.zero62 wz)
    simp only [errV]
    have hcall : Calls Yba.prog 13 #[.pointer (some ⟨N + 3, 0, none⟩), .agg #[.string nm, .string pa, .string cl, .int .u8 sd, .int .i64 sz, .int .i64 pr, .bool gf, .bool ex, .int .u64 gt]] w2 fun e w' => e = .returned (.tuple #[.pointer none, .pointer none, .iface 76 (.string s)]) ∧ Below w2.heap.size w2 w' :=
      refusedCall (unhide HST) (unhide HBL2) nm s sd sz pr gf ex gt (by rw [← unhide HHD]; exact unhide HWT)
    go_wp2_with fail
    refine hcall.mono ?_
    rintro e w3 ⟨rfl, hb3⟩
    have HB3 := hide hb3
    have hN3 : N + 3 < w2.heap.size := lt_of_block (unhide HE)
    have k2 : w3.cell? ⟨N + 3, 2, none⟩ = some (.slice none 0 0) := (hb3.cell (p := ⟨N + 3, 2, none⟩) hN3).trans (cell_of (unhide HE) rfl)
    have k1 : w3.cell? ⟨N + 3, 1, none⟩ = some (.map none) := (hb3.cell (p := ⟨N + 3, 1, none⟩) hN3).trans (cell_of (unhide HE) rfl)
    have kp : w3.cell? ⟨N, 2, none⟩ = some (.string pa) := (hb3.cell (p := ⟨N, 2, none⟩) (by show N < _; omega)).trans d2
    clear hb3 r0 r1 r2 r3 r4 r5 r6 r7 r8 d2 d3 d4 d5 d6 d7 d8 d9 d11 d13 d14 hcall
    as_aux_lemma =>
    go_wp2
    go_quiet (fail)
    go_wp2
    go_ret
    have hS := unhide HST
    have hb2 := unhide HBL2
    refine ⟨rfl, ?_⟩
    rw [unhide HNw]
    exact below_drewN ((hS.below.trans (hb2.mono (by omega))).trans ((unhide HB3).mono (by omega))) _
  | none =>
    have HWT := hide hwant
    clear hwant
    simp only [errV]
    have hnmk : nm = sMkt := by
      have h := unhide HWT
      unfold wants at h
      split at h
      · assumption
      · cases h
    subst hnmk
    have hcall := acceptedCall (unhide HST) (unhide HBL2) sMkt sd sz pr gf ex gt (by rw [← unhide HHD]; exact unhide HWT)
    have e1 := fun wz => neq_same (tp := 41) (te := 54) Yba.underlying41 Yba.info54 wz ⟨N + 1, 0, none⟩
    go_wp2_with fail
    refine hcall.mono ?_
    rintro e w3 ⟨O, bh, pb, g, c, g2, c2, mg, rfl, hT⟩
    have hN3 : N + 3 < w2.heap.size := lt_of_block (unhide HE)
    have p2 : w3.cell? ⟨N, 2, none⟩ = some (.string pa) := (hT.turn.cell (p := ⟨N, 2, none⟩) (by show N < _; omega) (by simp)).trans d2
    have p3 : w3.cell? ⟨N, 3, none⟩ = some (.string cl) := (hT.turn.cell (p := ⟨N, 3, none⟩) (by show N < _; omega) (by simp)).trans d3
    have p4 : w3.cell? ⟨N, 4, none⟩ = some (.int .u8 sd) := (hT.turn.cell (p := ⟨N, 4, none⟩) (by show N < _; omega) (by simp)).trans d4
    have p5 : w3.cell? ⟨N, 5, none⟩ = some (.int .i64 sz) := (hT.turn.cell (p := ⟨N, 5, none⟩) (by show N < _; omega) (by simp)).trans d5
    have p6 : w3.cell? ⟨N, 6, none⟩ = some (.int .i64 pr) := (hT.turn.cell (p := ⟨N, 6, none⟩) (by show N < _; omega) (by simp)).trans d6
    have p7 : w3.cell? ⟨N, 7, none⟩ = some (.bool gf) := (hT.turn.cell (p := ⟨N, 7, none⟩) (by show N < _; omega) (by simp)).trans d7
    have p8 : w3.cell? ⟨N, 8, none⟩ = some (.bool ex) := (hT.turn.cell (p := ⟨N, 8, none⟩) (by show N < _; omega) (by simp)).trans d8
    have p9 : w3.cell? ⟨N, 9, none⟩ = some (.int .u64 gt) := (hT.turn.cell (p := ⟨N, 9, none⟩) (by show N < _; omega) (by simp)).trans d9
    have p12 : w3.cell? ⟨N, 12, none⟩ = some (.bool dv) := (hT.turn.cell (p := ⟨N, 12, none⟩) (by show N < _; omega) (by simp)).trans ((unhide HBL2).cell (p := ⟨N, 12, none⟩) (by show N < _; omega) |>.trans (cell_of (unhide HST).q rfl))
    have HT := hide hT
    clear hT hcall r0 r1 r2 r3 r4 r5 r6 r7 r8 d2 d3 d4 d5 d6 d7 d8 d9 d11 d13 d14
    go_upto_region 38 with fail
    obtain ⟨w4, hw4⟩ : ∃ w4, w4 = w3.alloc (.cells #[.int .u64 1, .string sMkt, .string pa, .string cl, .int .i64 sz, .int .i64 pr, .int .i64 0, .int .u64 0, .int .u64 0, .int .u64 0, .int .u8 sd, .int .u8 1, .bool gf, .bool ex, .int .u64 gt] 84) := ⟨_, rfl⟩
    rw [← hw4]
    obtain ⟨X, hX⟩ : ∃ X, X = w3.heap.size := ⟨_, rfl⟩
    rw [← hX]
    have hT := unhide HT
    have hXb : w4.heap[X]? = some (.cells #[.int .u64 1, .string sMkt, .string pa, .string cl, .int .i64 sz, .int .i64 pr, .int .i64 0, .int .u64 0, .int .u64 0, .int .u64 0, .int .u8 sd, .int .u8 1, .bool gf, .bool ex, .int .u64 gt] 84 (0, 0)) := by rw [hw4, hX]; exact heap_alloc_new w3 _
    have past : ∀ k o, w3.heap[k]? = some o → w4.heap[k]? = some o := fun k o h => by rw [hw4]; exact (Below.heap_alloc _ _ _ (lt_of_block h)).trans h
    have pastc : ∀ k i v, w3.cell? ⟨k, i, none⟩ = some v → w4.cell? ⟨k, i, none⟩ = some v := fun k i v h => by rw [hw4]; exact (World.cell?_alloc_past _ _ _ (World.block_lt_of_cell? _ _ h)).trans h
    have hOb := past _ _ hT.order
    have hHb := past _ _ hT.hold
    have x0 : w4.cell? ⟨X, 0, none⟩ = some (.int .u64 1) := cell_of hXb rfl
    have x1 : w4.cell? ⟨X, 1, none⟩ = some (.string sMkt) := cell_of hXb rfl
    have x2 : w4.cell? ⟨X, 2, none⟩ = some (.string pa) := cell_of hXb rfl
    have x3 : w4.cell? ⟨X, 3, none⟩ = some (.string cl) := cell_of hXb rfl
    have x4 : w4.cell? ⟨X, 4, none⟩ = some (.int .i64 sz) := cell_of hXb rfl
    have x5 : w4.cell? ⟨X, 5, none⟩ = some (.int .i64 pr) := cell_of hXb rfl
    have x6 : w4.cell? ⟨X, 6, none⟩ = some (.int .i64 0) := cell_of hXb rfl
    have x7 : w4.cell? ⟨X, 7, none⟩ = some (.int .u64 0) := cell_of hXb rfl
    have x8 : w4.cell? ⟨X, 8, none⟩ = some (.int .u64 0) := cell_of hXb rfl
    have x9 : w4.cell? ⟨X, 9, none⟩ = some (.int .u64 0) := cell_of hXb rfl
    have x10 : w4.cell? ⟨X, 10, none⟩ = some (.int .u8 sd) := cell_of hXb rfl
    have x11 : w4.cell? ⟨X, 11, none⟩ = some (.int .u8 1) := cell_of hXb rfl
    have x12 : w4.cell? ⟨X, 12, none⟩ = some (.bool gf) := cell_of hXb rfl
    have x13 : w4.cell? ⟨X, 13, none⟩ = some (.bool ex) := cell_of hXb rfl
    have x14 : w4.cell? ⟨X, 14, none⟩ = some (.int .u64 gt) := cell_of hXb rfl
    have o0 : w4.cell? ⟨O, 0, none⟩ = some (.int .u64 1) := cell_of hOb rfl
    have o1 : w4.cell? ⟨O, 1, none⟩ = some (.string sMkt) := cell_of hOb rfl
    have o2 : w4.cell? ⟨O, 2, none⟩ = some (.string pa) := cell_of hOb rfl
    have o3 : w4.cell? ⟨O, 3, none⟩ = some (.string cl) := cell_of hOb rfl
    have o4 : w4.cell? ⟨O, 4, none⟩ = some (.int .i64 sz) := cell_of hOb rfl
    have o5 : w4.cell? ⟨O, 5, none⟩ = some (.int .i64 pr) := cell_of hOb rfl
    have o6 : w4.cell? ⟨O, 6, none⟩ = some (.int .i64 0) := cell_of hOb rfl
    have o7 : w4.cell? ⟨O, 7, none⟩ = some (.int .u64 0) := cell_of hOb rfl
    have o8 : w4.cell? ⟨O, 8, none⟩ = some (.int .u64 0) := cell_of hOb rfl
    have o9 : w4.cell? ⟨O, 9, none⟩ = some (.int .u64 0) := cell_of hOb rfl
    have o10 : w4.cell? ⟨O, 10, none⟩ = some (.int .u8 sd) := cell_of hOb rfl
    have o11 : w4.cell? ⟨O, 11, none⟩ = some (.int .u8 1) := cell_of hOb rfl
    have o12 : w4.cell? ⟨O, 12, none⟩ = some (.bool gf) := cell_of hOb rfl
    have o13 : w4.cell? ⟨O, 13, none⟩ = some (.bool ex) := cell_of hOb rfl
    have o14 : w4.cell? ⟨O, 14, none⟩ = some (.int .u64 gt) := cell_of hOb rfl
    have o15 : w4.cell? ⟨O, 15, none⟩ = some (.pointer none) := cell_of hOb rfl
    have o16 : w4.cell? ⟨O, 16, none⟩ = some (.pointer (some ⟨bh, 0, none⟩)) := cell_of hOb rfl
    have o17 : w4.cell? ⟨O, 17, none⟩ = some (.int .i64 0) := cell_of hOb rfl
    have h0 : w4.cell? ⟨bh, 0, none⟩ = some (.pointer (some ⟨N + 1, 0, none⟩)) := cell_of hHb rfl
    have h1 : w4.cell? ⟨bh, 1, none⟩ = some (.string pa) := cell_of hHb rfl
    have h5 : w4.cell? ⟨bh, 5, none⟩ = some (.pointer mg) := cell_of hHb rfl
    have k2 := pastc _ _ _ hT.orders
    have k1 := pastc _ _ _ hT.parties
    have kg := pastc _ _ _ hT.first
    have kg2 := pastc _ _ _ hT.hs
    have kp2 := pastc _ _ _ p2
    have kp12 := pastc _ _ _ p12
    have hmp := past _ _ hT.map
    have hpa : (pa == pa) = true := by rw [beq_toListBytes]; simp
    have hlk1 := fun n1 => look_hit (P := Yba.prog) (w := w4.drewN n1) (k := .string pa) (i := 0) (v := .slice (some ⟨g2, 0, none⟩) 1 c2) Yba.underlying57 Yba.underlying9 (str_key pa) hmp (by simp [Instr.findNow, Instr.sameNow, hpa])
    have e2 := fun wz => neq_same (tp := 78) (te := 88) Yba.underlying78 Yba.info88 wz ⟨O, 0, none⟩
    have e3 := fun wz => eql_same (tp := 86) (te := 93) Yba.underlying86 Yba.info93 wz ⟨bh, 0, none⟩
    have HB4 : Hid (Turn [N + 3] w2 w4) := hide (by rw [hw4]; exact hT.turn.alloc _)
    have HMG : Hid (MargOk w4 mg dv sMkt pa bh) := hide (by
      rcases hT.marg with h | ⟨q1, bg, q2, q3, q4, q5⟩
      · exact .inl h
      · exact .inr ⟨q1, bg, q2, q3, pastc _ _ _ q4, pastc _ _ _ q5⟩)
    clear hw4 hX hT hXb past pastc hOb hHb hmp hpa p2 p3 p4 p5 p6 p7 p8 p9 p12
    rcases unhide HMG with ⟨rfl, rfl⟩ | ⟨rfl, bg, rfl, hbg, m0, m1⟩
    · as_aux_lemma =>
      go_quiet (fail)
      go_wp2
      go_quiet (fail)
      go_wp2
      go_quiet (fail)
      go_wp2
      go_quiet (fail)
      go_wp2
      go_quiet (fail)
      go_wp2
      go_ret
      refine ⟨rfl, ?_⟩
      rw [unhide HNw]
      refine below_drewN ?_ _
      exact ((unhide HST).below.trans ((unhide HBL2).mono (by omega))).trans ((unhide HB4).below (by simp) (by omega))
    · have m0' : w4.cell? ⟨bg, 0, none⟩ = some (.string ⟨#[109, 107, 116]⟩) := m0
      clear m0
      as_aux_lemma =>
      go_quiet (fail)
      go_wp2
      go_quiet (fail)
      go_wp2
      go_quiet (fail)
      go_wp2
      go_quiet (fail)
      go_wp2
      go_quiet (fail)
      go_wp2
      go_ret
      refine ⟨rfl, ?_⟩
      rw [unhide HNw]
      refine below_drewN ?_ _
      exact ((unhide HST).below.trans ((unhide HBL2).mono (by omega))).trans ((unhide HB4).below (by simp) (by omega))

end Go.Proofs.Ybulkapzy
