import Derived.Test.YbulkapxuMidU
namespace Go.Proofs.Ybulkapxu
open Go.RowKit

/-- What 'unlist' leaves. -/
structure Unlisted (w w' : World) (N S en : Nat) (K : Nat → List Nat) (M : Nat → Nat → List Nat) (C τ : Nat → Nat) : Prop where
  lists : Lists w' N S K M C τ
  at3 : w'.cell? ⟨en, 3, none⟩ = some (.int .i64 (-1))
  fz3 : w'.frozen? ⟨en, 3, none⟩ = false
  chg : Chg τ (fun t => t = 0 ∨ t = 1 ∨ t = 5 ∨ 10 ≤ t) w w'
  st : w'.cell? ⟨S, 0, none⟩ = w.cell? ⟨S, 0, none⟩

theorem MidU.entry {w wx : World} {N S en : Nat} {K : Nat → List Nat} {M : Nat → Nat → List Nat} {C τ : Nat → Nat} {x : Value} (h : MidU w wx N S K M C τ) (he : w.cell? ⟨en, 3, none⟩ = some x) (hf : w.frozen? ⟨en, 3, none⟩ = false) (ht : τ en = 5) :
    wx.cell? ⟨en, 3, none⟩ = some x ∧ wx.frozen? ⟨en, 3, none⟩ = false ∧ Unlisted w (wx.setCell ⟨en, 3, none⟩ (.int .i64 (-1))) N S en K M C τ := by
  have le := World.block_lt_of_cell? _ _ he
  have hb : wx.heap[en]? = w.heap[en]? := h.chg.block en le (by rw [ht]; omega)
  have c1 := (World.cell?_of_block (a := ⟨en, 3, none⟩) hb).trans he
  have c2 := (World.frozen?_of_block (a := ⟨en, 3, none⟩) hb).trans hf
  have hc : Chg τ (fun t => t = 5) wx (wx.setCell ⟨en, 3, none⟩ (.int .i64 (-1))) := (Chg.refl _ _ _).setCell (fun _ => ht) _
  refine ⟨c1, c2, h.lists.frame hc (fun t ht hl => ?_) (fun _ _ => rfl), World.cell?_setCell_same _ _ _ c1, by rw [World.frozen?_setCell]; exact c2, ?_, ?_⟩
  · subst ht; unfold listTag at hl; omega
  · exact (h.chg.mono (fun t ht => by omega)).trans (hc.mono (fun t ht => by omega)) (fun _ _ => rfl)
  · exact (World.cell?_of_block (a := ⟨S, 0, none⟩) (hc.block S h.lists.ltS (by rw [h.lists.tS]; omega))).trans h.st


set_option maxRecDepth 20000 in
set_option maxHeartbeats 2000000 in
theorem unlist_any (N S gs n c i ns nm kd en bk : Nat) (x : Value) (K : Nat → List Nat) (M : Nat → Nat → List Nat) (C τ : Nat → Nat) (w : World) (hL : Lists w N S K M C τ) (h0 : w.cell? ⟨S, 0, none⟩ = some (.slice (some ⟨gs, 0, none⟩) n c)) (hi : i < n) (tgs : τ gs = 2)
    (e0 : w.cell? ⟨gs, i * 8, none⟩ = some (.int .u8 ns)) (e1 : w.cell? ⟨gs, i * 8 + 1, none⟩ = some (.string (tblName nm))) (e3 : w.cell? ⟨gs, i * 8 + 3, none⟩ = some (.int .u16 kd)) (e4 : w.cell? ⟨gs, i * 8 + 4, none⟩ = some (.pointer (some ⟨en, 0, none⟩))) (e5 : w.cell? ⟨gs, i * 8 + 5, none⟩ = some (.bool false)) (e7 : w.cell? ⟨gs, i * 8 + 7, none⟩ = some (.int .i64 bk))
    (hns : ns < 3) (hnm : nm < 3) (hbk : bk < 3) (hen : w.cell? ⟨en, 3, none⟩ = some x) (hef : w.frozen? ⟨en, 3, none⟩ = false) (hten : τ en = 5)
    (sK : ∀ b, (K b).Pairwise (· < ·)) (sM : (M ns nm).Pairwise (· < ·)) (hKl : ∀ b, (K b).length ≤ 1024) (hMl : (M ns nm).length ≤ 1024) (mM : i ∈ M ns nm) (mK : ∀ b, b < 16 → kp b kd = true → i ∈ K b) (hC1 : ∀ b, C b ≤ 1024) (hC : bk ≠ 0 → 1 ≤ C bk) :
    Calls Yba.prog 16 #[.pointer (some ⟨S, 0, none⟩), .int .i64 (i : Int)] w fun e w' => (∃ v, e = .returned v) ∧ Unlisted w w' N S en (fun b => if b < 16 ∧ kp b kd = true then (K b).filter (fun k => k != i) else K b) (fun x => if x = ns then (fun y => if y = nm then (M ns nm).filter (fun k => k != i) else M ns y) else M x) (fun b => if b = bk then C b - 1 else C b) τ := by
  have hnsa : (0 : Int) ≤ (ns : Int) := by omega
  have hnsb : (ns : Int) < 3 := by omega
  have lgs := World.block_lt_of_cell? _ _ e0
  obtain ⟨ov, o1, o2, o3⟩ := hL.opened
  obtain ⟨go, gc, ho⟩ : ∃ go gc, ov = .slice (some ⟨go, 0, none⟩) 2 gc := by
    rcases o2.2 with ⟨h, h2⟩ | ⟨gb, cb, cur, h, _⟩
    · cases h2
    · exact ⟨gb, cb, h⟩
  subst ho
  have tgo := o3 go rfl
  have p0 : w.cell? ⟨go, 0, none⟩ = some (.int .i64 (C 1)) := by have h := o2.cellAt 0 (by omega); simpa using h
  have p1 : w.cell? ⟨go, 1, none⟩ = some (.int .i64 (C 2)) := by have h := o2.cellAt 1 (by omega); simpa using h
  obtain ⟨gcur, hgcur⟩ : ∃ cur, w.heap[go]? = some (.cells cur 3 (0, 0)) := by
    rcases o2.2 with ⟨h, _⟩ | ⟨gb, cb, cur, h, _, h2, _⟩
    · cases h
    · cases h; exact ⟨cur, h2⟩
  have q0 : w.frozen? ⟨go, 0, none⟩ = false := frozen_of hgcur
  have q1 : w.frozen? ⟨go, 1, none⟩ = false := frozen_of hgcur
  have hM0 : MidU w w N S K M C τ := ⟨hL, Chg.refl _ _ _, rfl⟩
  have HO2 := hide o2
  have HTG := hide tgo
  have HM0 := hide hM0
  have HMM := hide mM
  have HMK := hide mK
  have HSK := hide sK
  have HSM := hide sM
  have HC := hide hC
  have HTS := hide tgs
  clear hL o2 o3 tgo hgcur hM0 mM mK sK sM hC tgs
  go_enter Yba.func16, Yba.ntmps16
  go_upto_if 21 with fail
  go_cut [4] from 22 to 34 (fun s4 wx => s4 = .pointer (some ⟨gs, i * 8, none⟩) ∧ MidU w wx N S K M (fun b => if b = bk then C b - 1 else C b) τ)
  case first =>
    have hbk3 : bk = 0 ∨ bk = 1 ∨ bk = 2 := by omega
    rcases hbk3 with rfl | rfl | rfl
    · go_wp2
      go_meet
      case rel => exact ⟨rfl, (unhide HM0).count0⟩
    · have hc1 := hC1 1
      have hc0 := unhide HC (by omega)
      go_wp2
      go_region
      all_goals
        go_wp2
        go_meet
        case rel =>
          have e : ((C 1 - 1 : Nat) : Int) = (C 1 : Int) - 1 := by omega
          refine ⟨rfl, (unhide HM0).count o1 (unhide HTG) 0 (.int .i64 ((C 1 : Int) - 1)) rfl ?_⟩
          show World.ownsRow _ N 3 1 _ 2 [.int .i64 ((C 1 - 1 : Nat) : Int), .int .i64 (C 2 : Int)]
          rw [e]
          exact two_set0 (unhide HO2) _
    · have hc1 := hC1 2
      have hc0 := unhide HC (by omega)
      go_wp2
      go_region
      all_goals
        go_wp2
        go_meet
        case rel =>
          have e : ((C 2 - 1 : Nat) : Int) = (C 2 : Int) - 1 := by omega
          refine ⟨rfl, (unhide HM0).count o1 (unhide HTG) 1 (.int .i64 ((C 2 : Int) - 1)) rfl ?_⟩
          show World.ownsRow _ N 3 1 _ 2 [.int .i64 (C 1 : Int), .int .i64 ((C 2 - 1 : Nat) : Int)]
          rw [e]
          exact two_set1 (unhide HO2) _
  case rest =>
  obtain ⟨rfl, hM1⟩ := hcut
  generalize wc = w1 at *
  obtain ⟨C', hC'⟩ : ∃ C' : Nat → Nat, C' = fun b => if b = bk then C b - 1 else C b := ⟨_, rfl⟩
  rw [← hC'] at hM1
  have HCC := hide hC'
  clear hC'
  have hgsb : w1.heap[gs]? = w.heap[gs]? := hM1.chg.block gs lgs (by rw [unhide HTS]; omega)
  have d0 := (World.cell?_of_block (a := ⟨gs, i * 8, none⟩) hgsb).trans e0
  have d1 := (World.cell?_of_block (a := ⟨gs, i * 8 + 1, none⟩) hgsb).trans e1
  rcases hM1.lists.name ns hns with ⟨_, hnil⟩ | ⟨r, es, ck, g1, g3, g2, hE⟩
  · exfalso
    have := hnil nm hnm
    have hm := unhide HMM
    rw [this] at hm
    simp at hm
  obtain ⟨v, F, G, f1, f2, f3, f4, f5⟩ := NameOk.entry (N := N) (S := S) g3 g2 hE hnm
  obtain ⟨g, vc, hv⟩ : ∃ g vc, v = .slice (some ⟨g, 0, none⟩) (M ns nm).length vc := by
    rcases f1.2 with ⟨h, h2⟩ | ⟨gb, cb, cur, h, _⟩
    · have hm := unhide HMM
      rw [List.length_eq_zero_iff] at h2
      rw [h2] at hm
      simp at hm
    · exact ⟨gb, cb, h⟩
  subst hv
  have tg := f2 g rfl
  have lr := lt_of_block g2
  have lS := hM1.lists.ltS
  have tS := hM1.lists.tS
  have hgS : S ≠ g := by rintro rfl; omega
  have hgg : gs ≠ g := by rintro rfl; have := unhide HTS; omega
  have hrg : r ≠ g := by rintro rfl; omega
  have hSr : S ≠ r := by rintro rfl; omega
  have hgr : gs ≠ r := by rintro rfl; have := unhide HTS; omega
  have far : ∀ w', OnlyAt g w1.drew w' → w'.cell? ⟨S, 2 + ns, none⟩ = some (.map (some r)) ∧ w'.cell? ⟨gs, i * 8, none⟩ = some (.int .u8 ns) ∧ w'.cell? ⟨gs, i * 8 + 1, none⟩ = some (.string (tblName nm)) ∧ w'.heap[r]? = some (.map es ck) := fun w' ho =>
    ⟨(World.cell?_of_block (a := ⟨S, 2 + ns, none⟩) (ho.block S hgS)).trans g1, (World.cell?_of_block (a := ⟨gs, i * 8, none⟩) (ho.block gs hgg)).trans d0, (World.cell?_of_block (a := ⟨gs, i * 8 + 1, none⟩) (ho.block gs hgg)).trans d1, (ho.block r hrg).trans g2⟩
  have hl1 := f3 w1.drew g2
  have hd := drop_row' N i g vc (M ns nm) w1.drew f1 (unhide HSM) (unhide HMM) (by omega)
  have HD := hide hd
  have HFAR := hide far
  have HF4 := hide f4
  have HF5 := hide f5
  have HM1 := hide hM1
  have HTAG := hide tg
  clear hd far f3 f4 f5 hM1 hE f1 f2 hgsb tg
  go_upto_region 4 with fail
  go_cut [4] from 35 to 67 (fun s4 wx => s4 = .pointer (some ⟨gs, i * 8, none⟩) ∧ MidU w wx N S K (fun x => if x = ns then (fun y => if y = nm then (M ns nm).filter (fun k => k != i) else M ns y) else M x) C' τ)
  case first =>
    go_region_held3 (fun wx => wx.cell? ⟨S, 2 + ns, none⟩ = some (.map (some r)) ∧ wx.cell? ⟨gs, i * 8, none⟩ = some (.int .u8 ns) ∧ wx.cell? ⟨gs, i * 8 + 1, none⟩ = some (.string (tblName nm))) (go_keep)
      ((go_at_call 18; refine (unhide HD).mono ?_; rintro e w2 ⟨rfl, hrow, ho⟩; obtain ⟨k1, k2, k3, k4⟩ := unhide HFAR _ ho; have hupd := unhide HF4 w2 (.slice (some ⟨g, 0, none⟩) ((M ns nm).length - 1) vc) k4; have j1 := fun o => (World.cell?_of_block (a := ⟨S, 2 + ns, none⟩) (setB_other w2 r S o hSr)).trans k1; have j2 := fun o => (World.cell?_of_block (a := ⟨gs, i * 8, none⟩) (setB_other w2 r gs o hgr)).trans k2; have j3 := fun o => (World.cell?_of_block (a := ⟨gs, i * 8 + 1, none⟩) (setB_other w2 r gs o hgr)).trans k3))
    all_goals
      go_wp2
      go_meet
      case rel => exact ⟨rfl, (unhide HM1).name hns hnm g1 g2 g3 (unhide HTAG) (unhide HF5) hrow ho rfl⟩
  case rest =>
  obtain ⟨rfl, hM3⟩ := hcut
  generalize wc = w3 at *
  obtain ⟨M', hM'⟩ : ∃ M' : Nat → Nat → List Nat, M' = fun x => if x = ns then (fun y => if y = nm then (M ns nm).filter (fun k => k != i) else M ns y) else M x := ⟨_, rfl⟩
  rw [← hM'] at hM3
  have HM3 := hide hM3
  have HMMM := hide hM'
  clear hM3 hM' HD HFAR HF4 HF5 HM1 HTAG hl1 d0 d1 g1 g2 g3 lr lS tS hgS hgg hrg hSr hgr o1 p0 p1 q0 q1 HO2 HTG HM0 HSM HMM HC hC1
  go_wp2
  go_loopw [68] (fun a wr => ∃ j : Nat, j ≤ 16 ∧ a = .int .i64 j ∧ MidU w wr N S (fun b => if b < j ∧ kp b kd = true then (K b).filter (fun k => k != i) else K b) M' C' τ) (fun a _ => 16 - (intOf a).toNat)
  case atStart =>
    refine ⟨0, by omega, rfl, ?_⟩
    have e : (fun b => if b < 0 ∧ kp b kd = true then (K b).filter (fun k => k != i) else K b) = K := by funext b; simp
    rw [e]
    exact unhide HM3
  case round =>
    obtain ⟨j, hj, rfl, hM6⟩ := hrel
    have hgsb : wr.heap[gs]? = w.heap[gs]? := hM6.chg.block gs lgs (by rw [unhide HTS]; omega)
    have d3 := (World.cell?_of_block (a := ⟨gs, i * 8 + 3, none⟩) hgsb).trans e3
    have d4 := (World.cell?_of_block (a := ⟨gs, i * 8 + 4, none⟩) hgsb).trans e4
    by_cases hj16 : j < 16
    · cases hkp : kp j kd with
      | false =>
        have ht : (bits BinOp.and IntKind.u16 (bits BinOp.and IntKind.u16 (kd : Int) (IntKind.u16.wrap (2 ^ j))) 127 != 0) = false := hkp
        have HM6 := hide hM6
        have HKP := hide hkp
        clear hM6 hkp hgsb
        go_wp2
        go_roundw
        case rel =>
          refine ⟨j + 1, by omega, by go_num, ?_⟩
          have e : (fun b => if b < j + 1 ∧ kp b kd = true then (K b).filter (fun k => k != i) else K b) = (fun b => if b < j ∧ kp b kd = true then (K b).filter (fun k => k != i) else K b) := by
            funext b
            by_cases e : b = j
            · subst e; simp [unhide HKP]
            · have : b < j + 1 ↔ b < j := by omega
              simp [this]
          rw [e]
          exact unhide HM6
        case measure => simp [intOf]; omega
      | true =>
        have ht : (bits BinOp.and IntKind.u16 (bits BinOp.and IntKind.u16 (kd : Int) (IntKind.u16.wrap (2 ^ j))) 127 != 0) = true := hkp
        obtain ⟨v, k1, k2, k3⟩ := hM6.lists.kind j hj16
        obtain ⟨Kj, hKj⟩ : ∃ Kj : Nat → List Nat, Kj = fun b => if b < j ∧ kp b kd = true then (K b).filter (fun k => k != i) else K b := ⟨_, rfl⟩
        have hKK : Kj j = K j := by rw [hKj]; exact if_neg (fun h => absurd h.1 (Nat.lt_irrefl _))
        rw [← hKj] at hM6
        have k2' : Row wr N v (K j) := by rw [← hKK, hKj]; exact k2
        obtain ⟨g, vc, hv⟩ : ∃ g vc, v = .slice (some ⟨g, 0, none⟩) (K j).length vc := by
          rcases k2'.2 with ⟨h, h2⟩ | ⟨gb, cb, cur, h, _⟩
          · have hm := unhide HMK j hj16 hkp
            rw [List.length_eq_zero_iff] at h2
            rw [h2] at hm
            simp at hm
          · exact ⟨gb, cb, h⟩
        subst hv
        have tg := k3 g rfl
        have tS := hM6.lists.tS
        have hgS : S ≠ g := by rintro rfl; omega
        have hfz := hM6.lists.fz (5 + j)
        have hKl1 := hKl j
        have hja : (0 : Int) ≤ (j : Int) := by omega
        have hjb : (j : Int) < 16 := by omega
        have far : ∀ w', OnlyAt g wr.drew w' → w'.cell? ⟨S, 5 + j, none⟩ = some (.slice (some ⟨g, 0, none⟩) (K j).length vc) ∧ w'.frozen? ⟨S, 5 + j, none⟩ = false := fun w' ho =>
          ⟨(World.cell?_of_block (a := ⟨S, 5 + j, none⟩) (ho.block S hgS)).trans k1, (World.frozen?_of_block (a := ⟨S, 5 + j, none⟩) (ho.block S hgS)).trans hfz⟩
        have hd := drop_row' N i g vc (K j) wr.drew k2' (unhide HSK j) (unhide HMK j hj16 hkp) (by omega)
        have HD := hide hd
        have HFAR := hide far
        have HM6 := hide hM6
        have HKP := hide hkp
        have HKJ := hide hKj
        have HKK := hide hKK
        have HTAG := hide tg
        clear hd far hM6 hkp hKj hKK k2 k2' k3 tg tS hgsb
        go_wp2
        go_region_with (go_at_call 18; refine (unhide HD).mono ?_; rintro e w4 ⟨rfl, hrow, ho⟩; obtain ⟨f1, f2⟩ := unhide HFAR _ ho)
        all_goals
          go_wp2
          go_roundw
          case rel =>
            have hKK := unhide HKK
            have h := (unhide HM6).kind (b := j) (i := i) hj16 (by rw [hKK]; exact k1) (unhide HTAG) (by rw [hKK]; exact hrow) ho rfl
            refine ⟨j + 1, by omega, by go_num, ?_⟩
            rw [hKK] at h
            have e : (fun b => if b < j + 1 ∧ kp b kd = true then (K b).filter (fun k => k != i) else K b) = (fun x => if x = j then (K j).filter (fun k => k != i) else Kj x) := by
              funext b
              rw [unhide HKJ]
              by_cases e : b = j
              · subst e; simp [unhide HKP]
              · have : b < j + 1 ↔ b < j := by omega
                simp [this, e]
            rw [e]
            exact h
          case measure => simp [intOf]; omega
    · obtain rfl : j = 16 := by omega
      obtain ⟨n1, n2, hU⟩ := hM6.entry hen hef hten
      have HU := hide hU
      clear hM6 hU hj16 hj hgsb
      go_wp2
      go_end0
      have h := unhide HU
      rw [unhide HMMM, unhide HCC] at h
      exact ⟨⟨_, rfl⟩, h⟩

end Go.Proofs.Ybulkapxu
