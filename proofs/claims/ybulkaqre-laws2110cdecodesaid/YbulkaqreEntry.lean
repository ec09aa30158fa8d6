import Derived.Test.YbulkaqreAppend
import Derived.Deep.RegionWith
import Derived.Deep.RegionLaw
import Derived.Deep.Draws
import Derived.BigQuiet
import Derived.Deep.QuietTactic
namespace Go.Proofs.Ybulkaqre
open Go.RowKit

theorem Grew.drewN {B n : Nat} {v : Value} {l : List UInt8} {w0 w : World} (h : Grew B v n l w0 w) (q : Nat) : Grew B v n l w0 (w.drewN q) :=
  ⟨h.own, h.below.trans (Below.mk rfl rfl rfl (Nat.le_refl _) (fun _ _ => rfl)), h.odd⟩
theorem Grew.drew {B n : Nat} {v : Value} {l : List UInt8} {w0 w : World} (h : Grew B v n l w0 w) : Grew B v n l w0 w.drew := h.drewN 1

/-- One more append: what the law on append leaves, put together. -/
theorem Grew.app {B n m : Nat} {v v' : Value} {l k : List UInt8} {w0 w w1 : World} {o : Obj} (h : Grew B v n l w0 w) (hBw : B ≤ w0.heap.size) (hown : w1.ownsRow B 5 1 v' (n + m) (Lib.byteCells l ++ Lib.byteCells k)) (hg : (w.alloc o).grownBy w1 v.ownBlock) :
    Grew B v' (n + m) (l ++ k) w0 w1 where
  own := by rw [byteCells_append]; exact hown
  below := (h.below.alloc (by have := h.below.size; omega) _).grown hg (by have := h.below.size; simp; omega) (fun k hk => (h.own.lt k hk).1)
  odd := (h.odd.alloc _).grown (h.own.alloc _) hg

theorem Grew.app0 {B n m : Nat} {v v' : Value} {l k : List UInt8} {w0 w w1 : World} (h : Grew B v n l w0 w) (hBw : B ≤ w0.heap.size) (hown : w1.ownsRow B 5 1 v' (n + m) (Lib.byteCells l ++ Lib.byteCells k)) (hg : w.grownBy w1 v.ownBlock) :
    Grew B v' (n + m) (l ++ k) w0 w1 where
  own := by rw [byteCells_append]; exact hown
  below := h.below.grown hg (by have := h.below.size; omega) (fun k hk => (h.own.lt k hk).1)
  odd := h.odd.grown h.own hg

theorem bytes_oneCell (l : List UInt8) : ∀ u ∈ Lib.byteCells l, u.oneCell' = true := by
  intro u hu
  obtain ⟨_, _, rfl⟩ := List.mem_map.1 hu
  rfl

set_option maxHeartbeats 1000000 in
theorem clone_any (a : Option Addr) (n c : Nat) (l : List UInt8) (w : World) (hn : n ≤ 1024) (hc : a = none → c = 0) (h : ∀ o, Bs (w.alloc o) a n l) :
    Calls Yba.prog 4 #[.slice a n c] w fun e w' => ∃ v, e = .returned v ∧ Grew w.heap.size v n l w w' := by
  obtain ⟨i0, hi, hz0, hz1, hz2⟩ := info_parts Yba.info5
  cases a with
  | none =>
    have h0 := (h (.cells #[] 5)).nil rfl
    have h1 := (h (.cells #[] 5)).len
    have h2 := hc rfl
    subst h0 h2
    obtain rfl : l = [] := List.eq_nil_of_length_eq_zero h1
    have hnil := fun wx => Lib.run_eql_slice_nil (P := Yba.prog) wx 22 5 none 0 0 0 0 Yba.underlying22
    clear h h1
    go_enter Yba.func4, Yba.ntmps4
    go_wp2
    go_ret
    exact ⟨_, rfl, World.ownsRow_nil _ _ _ _, Below.refl _ _, KeepOdd.refl _⟩
  | some x =>
    have hnil := fun wx => Lib.run_eql_slice_nil (P := Yba.prog) wx 22 5 (some x) n c 0 0 Yba.underlying22
    have hlen := (h (.cells #[] 5)).len
    have hL : Hid ((Lib.byteCells l).length = n * 1) := by rw [Lib.byteCells_length, Nat.mul_one]; exact hlen
    have HC := hide (fun o => (h o).cells x rfl)
    clear h hc
    go_enter Yba.func4, Yba.ntmps4
    go_wp2_with (at_builtin; refine wpList_append_own _ rfl _ _ 22 rfl w.heap.size 5 i0 (.int .u8 0) 1 1 Yba.underlying22 hi hz0 hz1 hz2 rfl (by decide) _ 0 [] rfl (World.ownsRow_lit w #[] 0 (Nat.le_refl _) (by decide) rfl) x n c (Lib.byteCells l) rfl (unhide hL) (unhide HC _) (bytes_oneCell l) (by unfold maxLen; omega) (by omega) (by simp) ?_)
    intro v' w1 hown hgrow _
    have hB : Below w.heap.size w w1 := ((Below.refl _ _).alloc (Nat.le_refl _) _).grown hgrow (by simp) (by intro k hk; simp [Value.ownBlock] at hk; omega)
    have hO : KeepOdd w w1 := ((KeepOdd.refl w).alloc _).grown (B := w.heap.size) (n := 0) (xs := []) (World.ownsRow_lit w #[] 0 (Nat.le_refl _) (by decide) rfl) hgrow
    have hW : w1.ownsRow w.heap.size 5 1 v' n (Lib.byteCells l) := by simpa using hown
    have H1 := hide hB
    have H2 := hide hO
    have H3 := hide hW
    clear hB hO hW hown hgrow
    go_wp2
    go_ret
    exact ⟨v', rfl, unhide H3, unhide H1, unhide H2⟩

set_option maxHeartbeats 1000000 in
theorem entry_nil (B n : Nat) (v : Value) (l : List UInt8) (w0 w : World) (h : Grew B v n l w0 w) (hBw : B ≤ w0.heap.size) (hlim : n ≤ 2000000) :
    Calls Yba.prog 5 #[v, .pointer none] w fun e w' => ∃ v', e = .returned v' ∧ Grew B v' (n + 1) (l ++ [0]) w0 w' := by
  obtain ⟨i0, hi, hz0, hz1, hz2⟩ := info_parts Yba.info5
  have hown := h.own
  have hsz := h.below.size
  have HG := hide h
  clear h
  go_enter Yba.func5, Yba.ntmps5
  go_wp2_with (at_builtin; refine wpList_append_own _ rfl _ _ 22 rfl B 5 i0 (.int .u8 0) 1 1 Yba.underlying22 hi hz0 hz1 hz2 rfl (by decide) _ _ _ rfl (hown.alloc _) ⟨w.heap.size, 0, none⟩ 1 1 [.int .u8 0] rfl rfl (cell_one_new _ _ _) (by intro u hu; simp at hu; subst hu; rfl) (by unfold maxLen; omega) (by omega) (by simp; omega) ?_)
  intro v' w1 hown' hgrow _
  have hG := (unhide HG).app (k := [0]) hBw hown' hgrow
  have H1 := hide hG
  clear hG hown' hgrow
  go_wp2
  go_ret
  exact ⟨v', rfl, unhide H1⟩

/-- The commands, each behind its length. -/
def encCmds (D : Nat → List UInt8) (k : Nat) : List UInt8 := (List.range k).flatMap fun i => Lib.uvarint (D i).length ++ D i
theorem encCmds_succ (D : Nat → List UInt8) (k : Nat) : encCmds D (k + 1) = encCmds D k ++ (Lib.uvarint (D k).length ++ D k) := by
  unfold encCmds
  rw [List.range_succ, List.flatMap_append]
  simp
theorem encCmds_len (D : Nat → List UInt8) (k : Nat) (h : ∀ i, i < k → (D i).length ≤ 1024) : (encCmds D k).length ≤ k * 1034 := by
  induction k with
  | zero => simp [encCmds]
  | succ k ih =>
    have h1 := ih (fun i hi => h i (by omega))
    have h2 := h k (by omega)
    have h3 := Lib.uvarint_length64 (x := (D k).length) (by omega)
    rw [encCmds_succ, List.length_append, List.length_append]
    omega

def encHead (r x k : Nat) : List UInt8 := [1] ++ Lib.uvarint r ++ Lib.beBytes 8 x ++ Lib.uvarint k

set_option maxHeartbeats 2000000 in
set_option maxRecDepth 100000 in
theorem entry_some (B n be : Nat) (v : Value) (l : List UInt8) (w : World) (rep : Int) (r x : Nat) (ac : Option Addr) (lc cc : Nat) (A : Nat → Option Addr) (L C : Nat → Nat) (D : Nat → List UInt8)
    (hown : w.ownsRow B 5 1 v n (Lib.byteCells l)) (hBw : B ≤ w.heap.size) (hlim : n ≤ 1024) (hlc : lc ≤ 256)
    (hr : IntKind.u64.wrap rep = (r : Int)) (hr1 : r < 18446744073709551616) (hx : x < 18446744073709551616)
    (hbe : w.heap[be]? = some (.cells #[.int .i64 rep, .int .u64 x, .slice ac lc cc] 30 (0, 0)))
    (hD : ∀ i, i < lc → L i = (D i).length ∧ (D i).length ≤ 1024 ∧ (A i = none → C i = 0))
    (hcmd : ∀ i, i < lc → ∃ bc oc, ac = some ⟨bc, oc, none⟩ ∧ ∀ wx, Below B w wx → wx.cell? ⟨bc, oc + i, none⟩ = some (.slice (A i) (L i) (C i)) ∧ Bs wx (A i) (L i) (D i)) :
    Calls Yba.prog 5 #[v, .pointer (some ⟨be, 0, none⟩)] w fun e w' => ∃ v', e = .returned v' ∧ Grew B v' (l ++ encHead r x lc ++ encCmds D lc).length (l ++ encHead r x lc ++ encCmds D lc) w w' := by
  obtain ⟨i0, hi, hz0, hz1, hz2⟩ := info_parts Yba.info5
  have hln : l.length = n := by have := hown.1; rw [Lib.byteCells_length, Nat.mul_one] at this; exact this
  have hcell : ∀ wx, KeepOdd w wx → wx.cell? ⟨be, 0, none⟩ = some (.int .i64 rep) ∧ wx.cell? ⟨be, 1, none⟩ = some (.int .u64 x) ∧ wx.cell? ⟨be, 2, none⟩ = some (.slice ac lc cc) := by
    intro wx hk
    have h1 := hk be _ 30 (by decide) hbe
    simp [World.cell?, h1]
  have hG0 : Grew B v n l w w := ⟨hown, Below.refl _ _, KeepOdd.refl _⟩
  have hl8 := Lib.uvarint_length64 hr1
  have hl9 := Lib.uvarint_length64 (x := lc) (by omega)
  have HCELL := hide hcell
  have HG0 := hide hG0
  have HCMD := hide hcmd
  have HD := hide hD
  have HLN := hide hln
  clear hcell hG0 hbe hcmd hD hln
  go_enter Yba.func5, Yba.ntmps5
  go_wp2_with (at_builtin; refine wpList_append_own _ rfl (.tmp 12) (.tmp 13) 22 rfl B 5 i0 (.int .u8 0) 1 1 Yba.underlying22 hi hz0 hz1 hz2 rfl (by decide) _ _ _ rfl (hown.alloc _) ⟨w.heap.size, 0, none⟩ 1 1 [.int .u8 1] rfl rfl (cell_one_new _ _ _) (by intro u hu; simp at hu; subst hu; rfl) (by unfold maxLen; omega) (by omega) (by simp; omega) ?_)
  intro v1 w1 hown1 hgrow1 _
  have hG1 := (unhide HG0).app (k := [1]) hBw hown1 hgrow1
  have hc1 := (unhide HCELL w1 hG1.odd).1
  have HG1 := hide hG1
  clear hG1 hown1 hgrow1 hown
  go_wp2_with fail
  refine (appendUvarint_any B (n + 1) r hr1 v1 (l ++ [1]) w _ (unhide HG1) hBw (by omega)).mono ?_
  rintro e w2 ⟨v2, rfl, hG2⟩
  have hc2 := (unhide HCELL w2 hG2.odd).2.1
  have HG2 := hide hG2
  clear hG2 hc1
  go_wp2_with fail
  go_region_with (go_at_call 9; refine (appendUint64_any B _ x hx v2 _ w _ (by exact (unhide HG2).drew) hBw (by omega)).mono ?_; rintro e w3 ⟨v3, rfl, hG3⟩)
  all_goals
    have hc3 := (unhide HCELL w3 hG3.odd).2.2
    have HG3 := hide hG3
    clear hG3 hc2
    go_wp2_with fail
    refine (appendUvarint_any B _ lc (by omega) v3 _ w _ (unhide HG3) hBw (by omega)).mono ?_
    rintro e w4 ⟨v4, rfl, hG4⟩
    have hc4 := (unhide HCELL w4 hG4.odd).2.2
    have e1 : l ++ [1] ++ Lib.uvarint r ++ Lib.beBytes 8 x ++ Lib.uvarint lc = l ++ encHead r x lc := by simp [encHead]
    have e2 : n + 1 + (Lib.uvarint r).length + 8 + (Lib.uvarint lc).length = (l ++ encHead r x lc).length := by
      simp [encHead, Lib.beBytes, Lib.leBytes_length, unhide HLN]; omega
    have hl10 : (l ++ encHead r x lc).length ≤ 1024 + 40 := by rw [← e2]; omega
    rw [e1, e2] at hG4
    have HG4 := hide hG4
    clear hG4 hc3 e1 e2
    go_wp2
    go_loopw [0, 44] (fun vb i wr => ∃ k : Nat, k ≤ lc ∧ i = .int .i64 k ∧ Grew B vb (l ++ encHead r x lc ++ encCmds D k).length (l ++ encHead r x lc ++ encCmds D k) w wr) (fun _ i _ => lc - (intOf i).toNat)
    case atStart => exact ⟨0, Nat.zero_le _, rfl, by simpa [encCmds] using unhide HG4⟩
    case round =>
      obtain ⟨k, hk, rfl, hG⟩ := hrel
      by_cases hlt : k < lc
      · obtain ⟨bc, oc, rfl, hcm⟩ := unhide HCMD k hlt
        obtain ⟨hck, hbs⟩ := hcm _ hG.below
        obtain ⟨hLk, hDk, hCk⟩ := unhide HD k hlt
        have hen := encCmds_len D k (fun i hi => (unhide HD i (by omega)).2.1)
        have hLk1 : L k ≤ 1024 := by omega
        have HG := hide hG
        have HCM := hide hcm
        have HLK := hide hLk
        have hu := Lib.uvarint_length64 (x := L k) (by omega)
        have hsucc : l ++ encHead r x lc ++ encCmds D (k + 1) = l ++ encHead r x lc ++ encCmds D k ++ Lib.uvarint (L k) ++ D k := by rw [encCmds_succ, hLk]; simp
        have hlim2 : (l ++ encHead r x lc ++ encCmds D k).length + 10 ≤ 140737488355328 := by rw [List.length_append]; omega
        have hlim3 : (l ++ encHead r x lc ++ encCmds D k).length ≤ 1000000 := by rw [List.length_append]; omega
        have HSU := hide hsucc
        clear hsucc
        obtain hAk | ⟨xk, hAk⟩ : A k = none ∨ ∃ xk, A k = some xk := by cases A k with | none => exact .inl rfl | some y => exact .inr ⟨y, rfl⟩
        · have hL0 : L k = 0 := hbs.nil hAk
          have hC0 := hCk hAk
          have hDnil : D k = [] := List.eq_nil_of_length_eq_zero (by omega)
          rw [hAk, hL0, hC0] at hck
          rw [hL0, hDnil, List.append_nil] at HSU
          have hu0 : (Lib.uvarint 0).length ≤ 10 := by rw [hL0] at hu; exact hu
          clear hG hcm hbs hLk hAk hL0 hC0 hCk hDnil hu
          go_wp2_with fail
          refine (appendUvarint_any B _ 0 (by omega) _ _ w _ (unhide HG) hBw hlim2).mono ?_
          rintro e w5 ⟨v5, rfl, hG5⟩
          have hown5 := hG5.own
          have HG5 := hide hG5
          clear hG5 hck
          go_wp2_with (at_builtin; refine wpList_append_own_none rfl (.tmp 53) (.tmp 54) 22 rfl B 5 i0 1 Yba.underlying22 hi v5 _ _ rfl hown5 rfl ?_)
          go_roundw
          case rel =>
            refine ⟨k + 1, by omega, by go_num, ?_⟩
            rw [unhide HSU, List.length_append]
            exact unhide HG5
          case measure => simp [intOf]; omega
        · rw [hAk] at hck
          have HAK := hide hAk
          clear hG hbs hCk hLk hAk hcm
          go_wp2_with fail
          refine (appendUvarint_any B _ (L k) (by omega) _ _ w _ (unhide HG) hBw hlim2).mono ?_
          rintro e w5 ⟨v5, rfl, hG5⟩
          obtain ⟨n5, hn5⟩ : ∃ n5, n5 = (l ++ encHead r x lc ++ encCmds D k).length + (Lib.uvarint (L k)).length := ⟨_, rfl⟩
          obtain ⟨l5, hl5⟩ : ∃ l5, l5 = l ++ encHead r x lc ++ encCmds D k ++ Lib.uvarint (L k) := ⟨_, rfl⟩
          rw [← hn5, ← hl5] at hG5
          have hn5b : n5 ≤ 1000010 := by omega
          have HN5 := hide hn5
          have HL5 := hide hl5
          clear hn5 hl5
          have hown5 := hG5.own
          have hbs5 := (unhide HCM _ hG5.below).2
          have hsz5 := hG5.below.size
          have HN : Hid ((Lib.byteCells (D k)).length = L k * 1) := by rw [Lib.byteCells_length, Nat.mul_one]; exact hbs5.len
          have HX := hide (hbs5.cells xk (unhide HAK))
          have HG5 := hide hG5
          clear hG5 hck hbs5
          go_wp2_with (at_builtin; refine wpList_append_own _ rfl (.tmp 53) (.tmp 54) 22 rfl B 5 i0 (.int .u8 0) 1 1 Yba.underlying22 hi hz0 hz1 hz2 rfl (by decide) _ _ _ rfl hown5 xk (L k) (C k) (Lib.byteCells (D k)) rfl (unhide HN) (unhide HX) (bytes_oneCell _) (by unfold maxLen; omega) (by omega) (by omega) ?_)
          intro v6 w6 hown6 hgrow6 _
          have hG6 := (unhide HG5).app0 (k := D k) hBw hown6 hgrow6
          have HG6 := hide hG6
          clear hG6 hown6 hgrow6 hown5
          go_wp2
          go_roundw
          case rel =>
            refine ⟨k + 1, by omega, by go_num, ?_⟩
            have e3 : (l ++ encHead r x lc ++ encCmds D k ++ Lib.uvarint (L k) ++ D k).length = (l ++ encHead r x lc ++ encCmds D k).length + (Lib.uvarint (L k)).length + L k := by
              rw [List.length_append, List.length_append, unhide HLK]
            rw [unhide HSU, e3, ← unhide HN5, ← unhide HL5]
            exact unhide HG6
          case measure => simp [intOf]; omega
      · obtain rfl : k = lc := by omega
        have HG := hide hG
        clear hG
        go_wp2
        go_ret
        exact ⟨_, rfl, unhide HG⟩

end Go.Proofs.Ybulkaqre
