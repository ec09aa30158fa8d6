import Derived.Test.YbulkaqrePlain
namespace Go.Proofs.Ybulkaqre
open Go.RowKit

/-- What the walk is told of the arguments that lead to memory. -/
structure Args (w : World) (a0 : Option Addr) (len0 cap0 : Nat) (l0 : List UInt8) (ac : Option Addr) (lc : Nat) (A : Nat → Option Addr) (L C : Nat → Nat) (D : Nat → List UInt8) : Prop where
  cap : a0 = none → cap0 = 0
  big : len0 ≤ 9223372036854775807
  bigc : lc ≤ 9223372036854775807
  bigl : ∀ i, i < lc → L i ≤ 9223372036854775807
  pre : ∀ wx, Below w.heap.size w wx → Bs wx a0 len0 l0
  len : ∀ i, i < lc → L i = (D i).length ∧ (A i = none → C i = 0)
  cmd : ∀ i, i < lc → ∃ bc oc, ac = some ⟨bc, oc, none⟩ ∧ ∀ wx, Below w.heap.size w wx → wx.cell? ⟨bc, oc + i, none⟩ = some (.slice (A i) (L i) (C i)) ∧ Bs wx (A i) (L i) (D i)

set_option maxHeartbeats 2000000 in
set_option maxRecDepth 100000 in
theorem walk_no (a0 : Option Addr) (len0 cap0 : Nat) (l0 : List UInt8) (rep : Int) (x : Nat) (ac : Option Addr) (lc cc : Nat) (A : Nat → Option Addr) (L C : Nat → Nat) (D : Nat → List UInt8) (w : World)
    (h : Args w a0 len0 cap0 l0 ac lc A L C D) :
    Calls Yba.prog 3 #[.slice a0 len0 cap0, .bool false, .int .i64 rep, .int .u64 x, .slice ac lc cc] w fun e w' => e = .returned (.bool true) ∧ Below w.heap.size w w' := by
  have hb1 := h.big
  have hb2 := h.bigc
  have H := hide h
  clear h
  by_cases h1 : len0 ≤ 1024
  · by_cases h2 : lc ≤ 256
    · have hg1 : decide ((1024 : Int) < (len0 : Int)) = false := by simp; omega
      have hg2 : decide ((256 : Int) < (lc : Int)) = false := by simp; omega
      go_enter Yba.func3, Yba.ntmps3
      go_wp2
      go_loop [11] (fun i => ∃ k : Nat, k ≤ lc ∧ i = .int .i64 k) (fun i => lc - (intOf i).toNat)
      case atStart => exact ⟨0, Nat.zero_le _, rfl⟩
      case round =>
        obtain ⟨k, hk, rfl⟩ := hrel
        by_cases hlt : k < lc
        · obtain ⟨bc, oc, rfl, hcm⟩ := (unhide H).cmd k hlt
          have hck := (hcm w (Below.refl _ _)).1
          have hbl := (unhide H).bigl k hlt
          clear hcm
          by_cases hL : L k ≤ 1024
          · go_wp2
            go_round
            case rel => exact ⟨k + 1, hlt, by go_num⟩
            case measure => simp [intOf]; omega
          · go_wp2
            go_ret
            exact ⟨rfl, Below.refl _ _⟩
        · go_wp2_with fail
          refine (clone_any a0 len0 cap0 l0 w h1 (unhide H).cap (fun o => (unhide H).pre _ ((Below.refl _ _).alloc (Nat.le_refl _) _))).mono ?_
          rintro e w1 ⟨v1, rfl, hG1⟩
          have HG1 := hide hG1
          clear hG1
          go_wp2_with fail
          refine (entry_nil w.heap.size len0 v1 l0 w _ (unhide HG1) (Nat.le_refl _) (by omega)).mono ?_
          rintro e w2 ⟨v2, rfl, hG2⟩
          obtain ⟨g, cap, hv2, hgc, hgm, hlen, hcell⟩ := hG2.shape (by omega)
          have hp2 := (unhide H).pre _ hG2.below
          have hlast := hcell len0 (by omega)
          have e0 : (((l0 ++ [0]).getD len0 0).toNat : Int) = 0 := by
            have : l0.length = len0 := hp2.len
            simp [List.getD, ← this]
          rw [e0] at hlast
          rw [hv2]
          have HB := hide hG2.below
          have HP := hide hp2
          have HC := hide hcell
          have hl0 : l0.length = len0 := hp2.len
          have HL0 := hide hl0
          clear hG2 hv2 hlen hp2 hcell e0 hl0
          have hsl : len0 ≤ cap := by omega
          go_wp2_with (go_at_call 6; refine (equal_any _ _ _ _ _ _ l0 l0 _ (bs_of_row (a := 0) (unhide HC) (by omega) (unhide HL0) (fun j hj => by rw [Nat.zero_add]; simp [List.getD, List.getElem?_append_left (show j < l0.length by have := unhide HL0; omega)]) _ (.inl rfl)) (unhide HP)).mono ?_; rintro e w' ⟨rfl, rfl⟩)
          go_ret
          exact ⟨rfl, unhide HB⟩
    · have hg1 : decide ((1024 : Int) < (len0 : Int)) = false := by simp; omega
      go_enter Yba.func3, Yba.ntmps3
      go_wp2
      go_ret
      exact ⟨rfl, Below.refl _ _⟩
  · have hg1 : decide ((1024 : Int) < (len0 : Int)) = true := by simp; omega
    go_enter Yba.func3, Yba.ntmps3
    go_wp2
    go_ret
    exact ⟨rfl, Below.refl _ _⟩

theorem Bs.drewN {w : World} {a : Option Addr} {n : Nat} {l : List UInt8} (h : Bs w a n l) (q : Nat) : Bs (w.drewN q) a n l := ⟨h.len, h.nil, h.cells⟩
theorem belowN {B : Nat} {a w : World} (h : Below B a w) (n : Nat) : Below B a (w.drewN n) := h.trans (Below.mk rfl rfl rfl (Nat.le_refl _) (fun _ _ => rfl))

set_option maxHeartbeats 4000000 in
set_option maxRecDepth 100000 in
theorem walk_yes (a0 : Option Addr) (len0 cap0 : Nat) (l0 : List UInt8) (rep : Int) (x : Nat) (ac : Option Addr) (lc cc : Nat) (A : Nat → Option Addr) (L C : Nat → Nat) (D : Nat → List UInt8) (w : World)
    (hx : x < 18446744073709551616) (h : Args w a0 len0 cap0 l0 ac lc A L C D) :
    Calls Yba.prog 3 #[.slice a0 len0 cap0, .bool true, .int .i64 rep, .int .u64 x, .slice ac lc cc] w fun e w' => e = .returned (.bool true) ∧ Below w.heap.size w w' := by
  have hb1 := h.big
  have hb2 := h.bigc
  have H := hide h
  clear h
  obtain ⟨r, hr, hr1⟩ : ∃ r : Nat, IntKind.u64.wrap rep = (r : Int) ∧ r < 18446744073709551616 := ⟨(IntKind.u64.wrap rep).toNat, by rw [IntKind.wrap_u64]; omega, by rw [IntKind.wrap_u64]; omega⟩
  by_cases h1 : len0 ≤ 1024
  · by_cases h2 : lc ≤ 256
    · have hg1 : decide ((1024 : Int) < (len0 : Int)) = false := by simp; omega
      have hg2 : decide ((256 : Int) < (lc : Int)) = false := by simp; omega
      go_enter Yba.func3, Yba.ntmps3
      go_wp2
      go_loop [11] (fun i => ∃ k : Nat, k ≤ lc ∧ i = .int .i64 k ∧ ∀ q, q < k → L q ≤ 1024) (fun i => lc - (intOf i).toNat)
      case atStart => exact ⟨0, Nat.zero_le _, rfl, fun q hq => absurd hq (by omega)⟩
      case round =>
        obtain ⟨k, hk, rfl, hall⟩ := hrel
        have HA := hide hall
        clear hall
        by_cases hlt : k < lc
        · obtain ⟨bc, oc, rfl, hcm⟩ := (unhide H).cmd k hlt
          have hck := (hcm w (Below.refl _ _)).1
          have hbl := (unhide H).bigl k hlt
          clear hcm
          by_cases hL : L k ≤ 1024
          · go_wp2
            go_round
            case rel => exact ⟨k + 1, hlt, by go_num, fun q hq => by rcases Nat.lt_or_ge q k with h | h; exact unhide HA q h; rw [show q = k by omega]; exact hL⟩
            case measure => simp [intOf]; omega
          · go_wp2
            go_ret
            exact ⟨rfl, Below.refl _ _⟩
        · obtain rfl : k = lc := by omega
          go_wp2_with fail
          refine (clone_any a0 len0 cap0 l0 w h1 (unhide H).cap (fun o => (unhide H).pre _ ((Below.refl _ _).alloc (Nat.le_refl _) _))).mono ?_
          rintro e w1 ⟨v1, rfl, hG1⟩
          have hs1 := hG1.below.size
          have HG1 := hide hG1
          clear hG1
          go_wp2_with fail
          refine (entry_some w.heap.size len0 w1.heap.size v1 l0 _ rep r x ac k cc A L C D ((unhide HG1).own.alloc _) (by simp; omega) h1 h2 hr hr1 hx (heap_alloc_new w1 _) (fun i hi => ⟨((unhide H).len i hi).1, by rw [← ((unhide H).len i hi).1]; exact unhide HA i hi, ((unhide H).len i hi).2⟩) (fun i hi => by
            obtain ⟨bc, oc, e1, e2⟩ := (unhide H).cmd i hi
            exact ⟨bc, oc, e1, fun wx hwx => e2 wx (((unhide HG1).below.alloc hs1 _).trans hwx)⟩)).mono ?_
          rintro e w2 ⟨v2, rfl, hG2⟩
          have hbel : Below w.heap.size w w2 := ((unhide HG1).below.alloc hs1 _).trans hG2.below
          have hpl := places l0 r x k (encCmds D k) _ len0 ((unhide H).pre _ (Below.refl _ _)).len rfl
          obtain ⟨o, ho⟩ : ∃ o, o = l0 ++ encHead r x k ++ encCmds D k := ⟨_, rfl⟩
          rw [← ho] at hG2 hpl
          obtain ⟨p1, ⟨R1, p2⟩, ⟨R2, p3⟩, p4, p5, p6, p7⟩ := hpl
          have hec := encCmds_len D k (fun i hi => by rw [← ((unhide H).len i hi).1]; exact unhide HA i hi)
          have hlr := Lib.uvarint_length64 hr1
          have hlk := Lib.uvarint_length64 (x := k) (by omega)
          obtain ⟨g, cap, hv2, hgc, hgm, hlen, hcell⟩ := hG2.shape (by omega)
          obtain ⟨i1, hi1⟩ : ∃ i1, len0 + 1 + (Lib.uvarint r).length = i1 := ⟨_, rfl⟩
          obtain ⟨i3, hi3⟩ : ∃ i3, i1 + 8 + (Lib.uvarint k).length = i3 := ⟨_, rfl⟩
          obtain ⟨N, hN⟩ : ∃ N, o.length = N := ⟨_, rfl⟩
          rw [hi1] at p3 p4 p5 p6
          rw [hi3] at p5 p6
          rw [hN] at p6 hgc hv2 hcell
          have hone := hcell len0 (by omega)
          rw [p1] at hone
          rw [hv2]
          have hq1 : len0 + 1 ≤ i1 := by omega
          have hq2 : i1 + 8 ≤ i3 := by omega
          have hq3 : i3 ≤ N := by omega
          have hq4 : N ≤ 1000000 := by omega
          have HP := hide ((unhide H).pre _ hbel)
          have HL0 := hide ((unhide H).pre _ (Below.refl _ _)).len
          have HB := hide hbel
          have HC := hide hcell
          have HI1 := hide hi1
          have HI3 := hide hi3
          have HN := hide hN
          have HO := hide ho
          have P2 := hide p2
          have P3 := hide p3
          have P4 := hide p4
          have P5 := hide p5
          have P6 := hide p6
          have P7 := hide p7
          clear hG2 hv2 hlen hbel hcell hi1 hi3 hN ho p1 p2 p3 p4 p5 p6 p7 hec hlr hlk
          have hsl : len0 ≤ cap := by omega
          go_wp2_with (go_at_call 6; refine (equal_any _ _ _ _ _ _ l0 l0 _ (bs_of_row (a := 0) (unhide HC) (by omega) (unhide HL0) (fun j hj => by rw [Nat.zero_add]; exact unhide P7 j hj) _ (.inl rfl)) (unhide HP)).mono ?_; rintro e w' ⟨rfl, rfl⟩)
          refine (uvarint_at g N cap (len0 + 1) i1 r _ o R1 _ (unhide HN) hq4 hr1 (by omega) (unhide HI1) (unhide P2) (unhide HC)).mono ?_
          rintro e w3 ⟨rfl, rfl⟩
          clear hone
          go_wp2
          go_loop [19, 20] (fun vv vq => ∃ q : Nat, q ≤ 8 ∧ vq = .int .i64 q ∧ vv = .int .u64 (topk x q)) (fun _ vq => 8 - (intOf vq).toNat)
          case atStart => exact ⟨0, Nat.zero_le _, rfl, by rw [topk0 x hx]; rfl⟩
          case round =>
            obtain ⟨q, hq, rfl, rfl⟩ := hrel
            by_cases hq8 : q < 8
            · have hst := be_step x q hx hq8
              have hcq := unhide HC (i1 + q) (by omega)
              have hbyte : o.getD (i1 + q) 0 = (Lib.beBytes 8 x).getD q 0 := by
                rw [getD_drop, unhide P3]
                simp [List.getD, List.getElem?_append_left (show q < (Lib.beBytes 8 x).length by rw [be_len]; exact hq8)]
              rw [hbyte] at hcq
              have hlt8 := UInt8.toNat_lt ((Lib.beBytes 8 x).getD q 0)
              have hle8 : topk x (q + 1) ≤ x := by unfold topk; exact Nat.div_le_self _ _
              generalize ((Lib.beBytes 8 x).getD q 0).toNat = bq at *
              have hor := or8 (topk x q) bq (by omega) (by omega)
              have HST := hide hst
              clear hst hbyte hle8
              go_wp2
              go_round
              case rel => exact ⟨q + 1, by omega, by go_num, by rw [unhide HST]; go_num⟩
              case measure => simp [intOf]; omega
            · obtain rfl : q = 8 := by omega
              rw [topk8]
              go_wp2_with fail
              refine (uvarint_at g N cap (i1 + 8) i3 k _ o (encCmds D k) _ (unhide HN) hq4 (by omega) (by omega) (unhide HI3) (unhide P4) (unhide HC)).mono ?_
              rintro e w4 ⟨rfl, rfl⟩
              go_wp2
              go_loopw [16, 22] (fun vi vq wr => ∃ q nq : Nat, q ≤ k ∧ vq = .int .i64 q ∧ vi = .int .i64 ((i3 + (encCmds D q).length : Nat) : Int) ∧ wr = w4.drewN nq) (fun _ vq _ => k - (intOf vq).toNat)
              case atStart => exact ⟨0, 0, Nat.zero_le _, rfl, by simp [encCmds], rfl⟩
              case round =>
                obtain ⟨q, nq, hqk, rfl, rfl, hwr⟩ := hrel
                have HC' : Hid (∀ t, t < N → wr.cell? ⟨g, t, none⟩ = some (.int .u8 ((o.getD t 0).toNat : Int))) := by rw [hwr]; exact HC
                have HB' : Hid (Below w.heap.size w wr) := by rw [hwr]; exact belowN (unhide HB) _
                have HW := hide hwr
                clear hwr
                by_cases hlq : q < k
                · obtain ⟨bc, oc, rfl, hcm⟩ := (unhide H).cmd q hlq
                  obtain ⟨hcq, hbs⟩ := hcm wr (unhide HB')
                  have hLq := ((unhide H).len q hlq).1
                  have hL4 := unhide HA q hlq
                  obtain ⟨R3, hR3⟩ := at_cmd D o (l0 ++ encHead r x k) k q (unhide HO) hlq
                  rw [unhide P5] at hR3
                  obtain ⟨j1, hj1⟩ : ∃ j1, j1 = i3 + (encCmds D q).length := ⟨_, rfl⟩
                  obtain ⟨j2, hj2⟩ : ∃ j2, j1 + (Lib.uvarint (L q)).length = j2 := ⟨_, rfl⟩
                  rw [← hj1] at hR3
                  have hd2 : o.drop j2 = D q ++ R3 := by rw [← hj2, ← List.drop_drop, hR3, hLq]; simp
                  have hd1 : o.drop j1 = Lib.uvarint (L q) ++ (D q ++ R3) := by rw [hR3, hLq]
                  have hj2N : j2 + L q ≤ N := by
                    have e1 := congrArg List.length hd2
                    rw [List.length_drop, List.length_append, unhide HN] at e1
                    have e2 := congrArg List.length hd1
                    rw [List.length_drop, List.length_append, unhide HN] at e2
                    have := Lib.uvarint_pos (L q)
                    have e3 : (encCmds D q).length ≤ q * 1034 := encCmds_len D q (fun i hi => by rw [← ((unhide H).len i (by omega)).1]; exact unhide HA i (by omega))
                    omega
                  have hnext : i3 + (encCmds D (q + 1)).length = j2 + L q := by
                    rw [encCmds_succ, List.length_append, List.length_append, ← hLq]; omega
                  rw [← hj1]
                  have HD1 := hide hd1
                  have HD2 := hide hd2
                  have HJ2 := hide hj2
                  have HNX := hide hnext
                  have HBS := hide hbs
                  have HLQ := hide hLq
                  clear hcm hbs hLq hR3 hj1 hj2 hd1 hd2 hnext
                  have hb3 : j2 ≤ cap := by omega
                  have hb4 : j2 + L q ≤ cap := by omega
                  go_wp2_with fail
                  refine (uvarint_at g N cap j1 j2 (L q) _ o (D q ++ R3) _ (unhide HN) hq4 (by omega) rfl (unhide HJ2) (unhide HD1) (unhide HC')).mono ?_
                  rintro e w5 ⟨rfl, rfl⟩
                  go_wp2
                  by_cases hcj : cap = j2
                  · have hL0 : L q = 0 := by omega
                    have HL00 := hide hL0
                    clear hL0
                    go_quiet ((go_at_call 6; exact Calls.quiet_of_same (equal_any _ _ _ _ _ _ (D q) (D q) _ (bs_of_row (a := j2) (by exact unhide HC') (by omega) (unhide HLQ).symm (fun j hj => by rw [getD_drop, unhide HD2]; simp [List.getD, List.getElem?_append_left (show j < (D q).length by have := unhide HLQ; omega)]) _ (.inr ⟨unhide HL00, by simp⟩)) (Bs.drewN (unhide HBS) _))))
                    go_wp2
                    go_roundw
                    case rel => exact ⟨q + 1, _, by omega, by go_num, by rw [unhide HNX]; go_num, by rw [unhide HW, World.drewN_drewN]⟩
                    case measure => simp [intOf]; omega
                  · go_quiet ((go_at_call 6; exact Calls.quiet_of_same (equal_any _ _ _ _ _ _ (D q) (D q) _ (bs_of_row (a := j2) (by exact unhide HC') (by omega) (unhide HLQ).symm (fun j hj => by rw [getD_drop, unhide HD2]; simp [List.getD, List.getElem?_append_left (show j < (D q).length by have := unhide HLQ; omega)]) _ (.inl rfl)) (Bs.drewN (unhide HBS) _))))
                    go_wp2
                    go_roundw
                    case rel => exact ⟨q + 1, _, by omega, by go_num, by rw [unhide HNX]; go_num, by rw [unhide HW, World.drewN_drewN]⟩
                    case measure => simp [intOf]; omega
                · obtain rfl : q = k := by omega
                  have h6 := unhide P6
                  rw [← h6]
                  go_wp2
                  go_ret
                  exact ⟨rfl, unhide HB'⟩
    · have hg1 : decide ((1024 : Int) < (len0 : Int)) = false := by simp; omega
      go_enter Yba.func3, Yba.ntmps3
      go_wp2
      go_ret
      exact ⟨rfl, Below.refl _ _⟩
  · have hg1 : decide ((1024 : Int) < (len0 : Int)) = true := by simp; omega
    go_enter Yba.func3, Yba.ntmps3
    go_wp2
    go_ret
    exact ⟨rfl, Below.refl _ _⟩

end Go.Proofs.Ybulkaqre
