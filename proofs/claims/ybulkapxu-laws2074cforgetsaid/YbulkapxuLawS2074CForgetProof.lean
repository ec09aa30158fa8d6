/-
  A proof of 'Rows.LawS2074CForgetSaid'. The frame is the seat's shell; the walk is ours.
-/
import Derived.Test.YbulkapxuRows
import Derived.WalkKit
import Derived.ProofKit
import Derived.OpenShut
import Derived.ShutString
import Derived.ChangeOld
import Derived.Below
import Derived.BigQuiet
import Derived.Deep.QuietTactic
import Derived.Test.YbulkapxuClone
import Derived.Test.YbulkapxuBuild
namespace Go.Proofs.Ybulkapxu.lawS2074CForget
open Go.ChangeShapes Go.WideShapes Go.ChangeAt Go.RowKit
open Go.ChangeMaps (open_string shut_string)
set_option linter.unusedVariables false

theorem own : ownKnob Yba.prog.godebug = none := by kernel_rfl
theorem laidOut : laidOutB Yba.prog = true := by kernel_rfl

/-- WHAT THE WALK IS TOLD OF A SLICE OF INTEGERS THAT CAME IN: it is nil; or it leads to a row of 'cap' cells, the numbers 'zs' (the first 'len' are its elements, the rest its spare room), each fitting its kind. -/
def IsRow (k : IntKind) (w : World) (a : Option Addr) (len cap : Nat) (zs : List Int) : Prop :=
  (a = none ∧ len = 0 ∧ cap = 0 ∧ zs = []) ∨
  ∃ x, a = some x ∧ len ≤ cap ∧ cap ≤ maxLen ∧ zs.length = cap ∧ (∀ i, i < zs.length → w.cell? (x.add i) = some (.int k (zs.getD i 0))) ∧ ∀ n ∈ zs, (Lit.int k n).wf = true

theorem row_cells {w : World} {a0 : Option Addr} {len0 cap0 : Nat} {z0 : List Int} (w0 : IsRow .u8 w a0 len0 cap0 z0) :
    ∀ i, i < len0 → ∃ b o, a0 = some ⟨b, o, none⟩ ∧ b < w.heap.size ∧ w.cell? ⟨b, o + i, none⟩ = some (.int .u8 (z0.getD i 0)) ∧ 0 ≤ z0.getD i 0 ∧ z0.getD i 0 ≤ 255 := by
  intro i hi
  rcases w0 with ⟨_, h, _⟩ | ⟨x, rfl, hlc, _, hzl, hc, hwf⟩
  · omega
  · obtain ⟨b, off, rfl, hc'⟩ := ints_at hc (by omega)
    have hci := hc' i (by omega)
    have hb := range_u8 hwf i
    simp only [← List.getD_eq_getElem?_getD] at hb
    exact ⟨b, off, rfl, World.block_lt_of_cell? _ _ hci, hci, hb.1, hb.2⟩

theorem built_facts {B m n : Nat} {f : Nat → Option Addr} {w : World} (h : Built B m n f w) (o : Obj) (pe : Option Addr) (hpe : pe = none ∨ ∃ j, j < m ∧ pe = some ⟨B + 1 + j, 0, none⟩) :
    (∀ i, i < n → (w.alloc o).cell? ⟨B + 1 + m, i, none⟩ = some (.pointer (f i))) ∧ (∀ i, i < n → PtrOk (w.alloc o) (f i)) ∧ PtrOk (w.alloc o) pe := by
  have key : ∀ p : Option Addr, (p = none ∨ ∃ j, j < m ∧ p = some ⟨B + 1 + j, 0, none⟩) → PtrOk (w.alloc o) p := by
    intro p hp a ha
    rcases hp with hp | ⟨j, hj, hp⟩
    · rw [hp] at ha; cases ha
    · rw [hp] at ha
      obtain rfl := Option.some.inj ha
      have hs := h.size
      exact ⟨_, _, (Below.heap_alloc _ _ _ (by simp; omega)).trans (h.entry j hj)⟩
  exact ⟨fun i hi => (h.act.alloc o).cell hi, fun i hi => key _ (h.each i hi), key _ hpe⟩

theorem neq_same (w : World) (p : Option Addr) : (binOp .neq 40 (.pointer p) (.pointer p)).run Yba.prog w = .ok (.bool false) w := by
  have h := eql_yes w p
  simp only [binOp] at h ⊢
  cases hq : (Op.equal 40 (.pointer p) (.pointer p)).run Yba.prog w with
  | ok b w1 => simp [hq] at h ⊢; exact h
  | halt x w1 => simp [hq] at h

/-- How many of the first k places are kept. -/
def cnt (L : Int) (k : Nat) : Nat := if 0 ≤ L ∧ L < k then k - 1 else k

theorem cnt_le (L : Int) (k : Nat) : cnt L k ≤ k := by unfold cnt; split <;> omega
theorem cnt_hit (L : Int) (k : Nat) (h : (k : Int) = L) : cnt L (k + 1) = cnt L k := by
  unfold cnt; rw [if_pos (by omega), if_neg (by omega)]; omega
theorem cnt_miss (L : Int) (k : Nat) (h : (k : Int) ≠ L) : cnt L (k + 1) = cnt L k + 1 := by
  unfold cnt
  by_cases hc : 0 ≤ L ∧ L < k
  · rw [if_pos (by omega), if_pos hc]; omega
  · rw [if_neg (by omega), if_neg hc]
theorem forgot_cnt (f : Nat → Option Addr) (L : Int) (k : Nat) (hL : -1 ≤ L) (h : (k : Int) ≠ L) : forgot f L (cnt L k) = f k := by
  unfold forgot cnt
  by_cases hc : 0 ≤ L ∧ L < k
  · rw [if_pos hc, if_neg (by omega)]; congr 1; omega
  · rw [if_neg hc, if_pos (by omega)]
theorem cnt_forgotLen (L : Int) (n : Nat) (h : L < n) : cnt L n = forgotLen n L := by
  unfold cnt forgotLen
  by_cases hc : 0 ≤ L
  · rw [if_pos (by omega), if_pos hc]
  · rw [if_neg (by omega), if_neg hc]

def kept (f : Nat → Option Addr) (L : Int) (k : Nat) : List Value := (List.range (cnt L k)).map (fun t => .pointer (forgot f L t))
theorem kept_hit (f : Nat → Option Addr) (L : Int) (k : Nat) (h : (k : Int) = L) : kept f L (k + 1) = kept f L k := by unfold kept; rw [cnt_hit L k h]
theorem kept_miss (f : Nat → Option Addr) (L : Int) (k : Nat) (hL : -1 ≤ L) (h : (k : Int) ≠ L) : kept f L (k + 1) = kept f L k ++ [.pointer (f k)] := by
  unfold kept
  rw [cnt_miss L k h, List.range_succ, List.map_append, List.map_singleton, forgot_cnt f L k hL h]
theorem kept_get (f : Nat → Option Addr) (L : Int) (k t : Nat) (h : t < cnt L k) : (kept f L k)[t]? = some (.pointer (forgot f L t)) := by
  unfold kept
  rw [List.getElem?_map, List.getElem?_range h]
  rfl

/-! ### STEP 1: THE WALK: the Go text returns true, AND WRITES NOTHING THAT WAS THERE: 'Below w.heap.size w w'' (Derived/Below.lean: '.refl', '.alloc', '.drew', '.setCell' at a new block, '.trans'). Open each 'IsRow' by 'rcases' AHEAD of 'go_enter'; part every test ahead of the walk. -/
theorem walk (a0 : Option Addr) (len0 cap0 : Nat) (z0 : List Int) (a1 : Int) (a2 : Int) (w : World) (w0 : IsRow .u8 w a0 len0 cap0 z0) (w1 : (Lit.int .u8 a1).wf = true) (w2 : (Lit.int .u8 a2).wf = true) :
    Calls Yba.prog 5 #[.slice a0 len0 cap0, .int .u8 a1, .int .u8 a2] w fun e w' => e = .returned (.bool true) ∧ Below w.heap.size w w' := by
  have hb1 := bounds_u8 w1
  have hb2 := bounds_u8 w2
  obtain ⟨i0, hi0, hz0, hz1, hz2⟩ := info_parts Yba.info40
  by_cases hlen : len0 ≤ 1024
  · have hz := row_cells w0
    go_enter Yba.func5, Yba.ntmps5
    go_wp2_with fail
    refine (build_any a0 len0 cap0 z0 a1 w hb1.1 hb1.2 hlen hz).mono ?_
    rintro e w1' ⟨m, f, hm1, hm5, rfl, hB, hbel⟩
    clear hz w0
    obtain ⟨j, hj⟩ : ∃ j : Nat, a2 % (m : Int) = (j : Int) := ⟨(a2 % (m : Int)).toNat, by have := Int.emod_nonneg a2 (show (m : Int) ≠ 0 by omega); omega⟩
    have hjm : j < m := by have := Int.emod_lt_of_pos a2 (show (0:Int) < (m : Int) by omega); omega
    have hcp := hB.pool.cell hjm
    go_wp2_with fail
    refine (clone_any (w.heap.size + 1 + m) len0 len0 f _ hlen hB.act).mono ?_
    rintro e w2' ⟨gb, cb, rfl, hgb1, hgb2, hcl, hbel2⟩
    clear hcp
    -- the entry, in the world behind the clone
    obtain ⟨be, hbe⟩ : ∃ be, be = w.heap.size + 1 + j := ⟨_, rfl⟩
    have hat2 : w2'.heap[be]? = some (.cells entryCells 44 (0, 0)) := by
      rw [hbel2.block be (by have := hB.size; omega), hbe]; exact hB.entry j hjm
    have hpe : PtrOk w2' (some ⟨be, 0, none⟩) := fun a ha => by obtain rfl := Option.some.inj ha; exact ⟨_, _, hat2⟩
    have hpf : ∀ i, i < len0 → PtrOk w2' (f i) := by
      intro i hi a ha
      rcases hB.each i hi with h | ⟨q, hq, h⟩
      · rw [h] at ha; cases ha
      · rw [h] at ha
        obtain rfl := Option.some.inj ha
        exact ⟨_, _, (hbel2.block _ (by have := hB.size; simp; omega)).trans (hB.entry q hq)⟩
    rw [← hbe]
    obtain ⟨L, hL⟩ : ∃ L, L = lastIdx f (some ⟨be, 0, none⟩) len0 := ⟨_, rfl⟩
    have hLb := lastIdx_bd f (some ⟨be, 0, none⟩) len0
    rw [← hL] at hLb
    have HL := hide hL
    have HBE := hide hbe
    have HCL := hide hcl
    have HPF := hide hpf
    have HPE := hide hpe
    have HAT := hide hat2
    clear hL hbe hcl hpf hpe hat2
    go_wp2
    go_loop [11, 12] (fun v i => ∃ k : Nat, k ≤ len0 ∧ i = .int .i64 k ∧ v = .int .i64 (lastIdx f (some ⟨be, 0, none⟩) k)) (fun _ i => len0 - (intOf i).toNat)
    case atStart => exact ⟨0, Nat.zero_le _, rfl, rfl⟩
    case round =>
      obtain ⟨k, hk, rfl, rfl⟩ := hrel
      by_cases hkl : k < len0
      · have hck := unhide HCL k hkl
        by_cases hp : f k = some ⟨be, 0, none⟩
        · have heq := fun wq => eql_yes wq (some ⟨be, 0, none⟩)
          rw [hp] at hck
          have HP := hide hp
          clear hp
          go_wp2
          go_round
          case rel => exact ⟨k + 1, hkl, by go_num, by rw [lastIdx_yes (unhide HP)]⟩
          case measure => simp [intOf]; omega
        · have heq := eql_no _ _ _ (unhide HPF k hkl) (unhide HPE) hp
          have HP := hide hp
          clear hp
          go_wp2
          go_round
          case rel => exact ⟨k + 1, hkl, by go_num, by rw [lastIdx_no (unhide HP)]⟩
          case measure => simp [intOf]; omega
      · obtain rfl : k = len0 := by omega
        rw [← unhide HL]
        go_wp2_with (at_make; refine wpList_make_own _ rfl _ _ 27 rfl w2'.heap.size 40 i0 (.pointer none) 1 Yba.underlying27 hi0 hz0 hz1 _ _ _ k rfl rfl rfl (by rw [hz2]; omega) (by unfold maxLen; omega) (Nat.le_refl _) ?_)
        intro w3 hown hgrow
        have hbel3 : Below w2'.heap.size w2' w3 := (Below.refl _ _).grown hgrow (Nat.le_refl _) (fun _ h => by cases h)
        clear hgrow
        go_wp2
        go_loopw [13, 14] (fun v i wr => ∃ q : Nat, q ≤ k ∧ i = .int .i64 q ∧ v = .slice (some ⟨w2'.heap.size, 0, none⟩) (cnt L q) k ∧
            wr.ownsRow w2'.heap.size 40 1 (.slice (some ⟨w2'.heap.size, 0, none⟩) (cnt L q) k) (cnt L q) (kept f L q) ∧ Below w2'.heap.size w2' wr) (fun _ i _ => k - (intOf i).toNat)
        case atStart =>
          have e0 : cnt L 0 = 0 := by have := cnt_le L 0; omega
          have e1 : kept f L 0 = [] := by unfold kept; rw [e0]; rfl
          exact ⟨0, Nat.zero_le _, rfl, by rw [e0], by rw [e0, e1]; exact hown, hbel3⟩
        case round =>
          obtain ⟨q, hq, rfl, rfl, hown2, hbel4⟩ := hrel
          clear hown hbel3
          have hsz := hbel4.size
          by_cases hqk : q < k
          · by_cases hqL : (q : Int) = L
            · have e1 := cnt_hit L q hqL
              have e2 := kept_hit f L q hqL
              have hb : ((q : Int) != L) = false := by simp [hqL]
              rw [← e1, ← e2] at hown2
              have HO := hide hown2
              have E1 := hide e1
              clear hown2 e1 e2 hqL
              go_wp2
              go_roundw
              case rel => exact ⟨q + 1, hqk, by go_num, by rw [unhide E1], unhide HO, hbel4⟩
              case measure => simp [intOf]; omega
            · have e1 := cnt_miss L q hqL
              have e2 := kept_miss f L q hLb.1 hqL
              have hb : ((q : Int) != L) = true := by rw [bne_iff_ne]; exact hqL
              have hcq := (hbel4.cell (p := ⟨gb, q, none⟩) hgb2).trans (unhide HCL q hqk)
              have hc1 := cnt_le L (q + 1)
              have E1 := hide e1
              have E2 := hide e2
              have hc2 : cnt L q + 1 ≤ k := by omega
              clear e1 e2 hqL
              go_wp2_with (at_builtin; refine wpList_append_fits _ rfl (.tmp 61) (.tmp 66) 27 rfl w2'.heap.size 40 i0 1 Yba.underlying27 hi0 hz1 w2'.heap.size (cnt L q) k _ rfl (hown2.alloc _) ⟨wr.heap.size, 0, none⟩ 1 1 [.pointer (f q)] rfl rfl (cell_one_new _ _ _) (by intro u hu; simp at hu; subst hu; rfl) hc2 ?_)
              intro w4 hown4 hgrow4
              have hb4 : Below w2'.heap.size w2' w4 := (hbel4.alloc hsz _).grown hgrow4 (by simp; omega) (by intro r hr; simp at hr; omega)
              rw [← unhide E2] at hown4
              rw [← unhide E1] at hown4
              rw [← unhide E1]
              have HO := hide hown4
              have HB4 := hide hb4
              clear hown4 hgrow4 hown2 hcq hb4
              go_wp2
              go_roundw
              case rel => exact ⟨q + 1, hqk, by go_num, rfl, unhide HO, unhide HB4⟩
              case measure => simp [intOf]; omega
          · obtain rfl : q = k := by omega
            rw [cnt_forgotLen L q hLb.2] at *
            have hs1 := hB.size
            have hbe' := unhide HBE
            have hz2' := hbel2.size
            have hactr : wr.rowIs (w.heap.size + 1 + m) 40 q (fun t => .pointer (f t)) := (hB.act.of_block (hbel2.block _ (by omega))).of_block (hbel4.block _ (by omega))
            have hptr : ∀ o p, PtrOk w2' p → PtrOk (wr.alloc o) p := fun o p hp => hp.of_same (fun a ha => by
              obtain ⟨c, t, hc⟩ := hp a ha
              have hlt := lt_of_block hc
              rw [Below.heap_alloc _ _ _ (by omega), hbel4.block _ hlt])
            have hber : wr.heap[be]? = some (.cells entryCells 44 (0, 0)) := (hbel4.block be (by omega)).trans (unhide HAT)
            have hbl : be < wr.heap.size := lt_of_block hber
            have HACT := hide hactr
            have HPTR := hide hptr
            have HBER := hide hber
            clear hactr hptr hber hbe'
            have HOWN := hide hown2
            clear hown2
            go_wp2_with fail
            refine (forget_any wr.heap.size (w.heap.size + 1 + m) q be f _ hlen (by omega) (by simp) (by simp) ((unhide HACT).alloc _) (fun i hi => unhide HPTR _ _ (unhide HPF i hi)) (unhide HPTR _ _ (unhide HPE)) (by
              rw [World.cell?_alloc_past _ _ _ hbl]; simp [World.cell?, unhide HBER, entryCells])).mono ?_
            rintro e w5 ⟨rfl, hr1, hr2, hr3⟩
            rw [← unhide HL] at hr1 hr2
            have hG : ∀ t, t < forgotLen q L → w5.cell? ⟨w2'.heap.size, t, none⟩ = some (.pointer (forgot f L t)) := by
              intro t ht
              rw [World.cell?_of_block (w := wr.alloc _) (hr3.block w2'.heap.size (by have := (unhide HOWN).lt _ rfl; omega) (by omega)), World.cell?_alloc_past _ _ _ (by have := (unhide HOWN).lt _ rfl; omega), (unhide HOWN).cellAt t (by omega)]
              exact kept_get f L q t (by rw [cnt_forgotLen L q hLb.2]; exact ht)
            have hat5 : w5.cell? ⟨be, 3, none⟩ = some (.int .i64 (-1)) := by
              rw [World.cell?_of_block (w := wr.alloc _) (hr3.block be (by omega) (by have := unhide HBE; omega)), World.cell?_alloc_past _ _ _ hbl]
              simp [World.cell?, unhide HBER, entryCells]
            have hbel5 : Below w.heap.size w w5 := by
              refine (((hbel.trans (hbel2.mono hbel.size)).trans (hbel4.mono (by omega))).alloc (by omega) _).trans (Below.mk hr3.os hr3.tape hr3.output (Nat.le_of_eq hr3.size.symm) (fun k hk => hr3.block k (by omega) (by omega)))
            have hfl : forgotLen q L ≤ 1024 := by have := cnt_le L q; rw [cnt_forgotLen L q hLb.2] at this; omega
            have HR2 := hide hr2
            have HG := hide hG
            have HB5 := hide hbel5
            clear hr2 hr3 hG hbel5
            go_wp2
            go_loopw [16] (fun i wx => ∃ t nq : Nat, t ≤ forgotLen q L ∧ i = .int .i64 t ∧ wx = w5.drewN nq) (fun i _ => forgotLen q L - (intOf i).toNat)
            case atStart => exact ⟨0, 0, Nat.zero_le _, rfl, rfl⟩
            case round =>
              obtain ⟨t, nq, ht, rfl, rfl⟩ := hrel
              by_cases htl : t < forgotLen q L
              · have h1 := unhide HR2 t htl
                have h2 := unhide HG t htl
                have h3 := fun wq => neq_same wq (forgot f L t)
                go_wp2
                go_quiet (fail)
                go_wp2
                go_roundw
                case rel => exact ⟨t + 1, _, htl, by go_num, rfl⟩
                case measure => simp [intOf]; omega
              · go_wp2
                go_ret
                exact ⟨rfl, (unhide HB5).trans (Below.mk rfl rfl rfl (Nat.le_refl _) (fun _ _ => rfl))⟩
  · go_enter Yba.func5, Yba.ntmps5
    go_wp2
    go_ret
    exact ⟨rfl, Below.refl _ _⟩

/-! ### THE ROW's STEP: WRITTEN OUT: LEAVE IT -/
set_option maxRecDepth 100000 in
theorem lifted (os : Os) (started : os.Started) (H : Type) (enc : TypeId × Value → H) :
    ReturnsInHanded {} Yba.checked os 5 .any (Rows.lawS2074CForgetSpec.pre6 enc Yba.prog Yba.f5 Rows.lawS2074CForgetRow.domain false) (Rows.lawS2074CForgetSpec.post enc Yba.prog Yba.f5 false true false false) := by
  refine returnsInHanded_of_change (C := Yba.checked) own started (by kernel_rfl) Yba.func5
    (ChangeSpec.witness6 (enc := enc) (C := Yba.checked) false ⟨#[], #[.slice none 0 0, .int .u8 0, .int .u8 0], []⟩ 8 (by kernel_rfl) (by kernel_rfl) (by kernel_rfl) (by kernel_rfl)) ?_
  intro W base args ds gs before hval0 hW hcnd _
  have hval : ∀ (j : Nat) t v, Yba.f5.params[j]? = some t → args[j]? = some v → Value.okWide Yba.prog W .any base t v := hval0
  have hW' := hW
  obtain ⟨p, q, hA0, hV, rfl, hfz, hnd⟩ := hW
  have hA : DataW.TrodAll enc Yba.prog W 0 (fun _ => true) true Yba.f5.params.toList args.toList ds p := hA0
  rw [Yba.params5] at hA hval
  obtain ⟨v0, vs0, d0, ds0, p0, q0, hargs, rfl, rfl, h0, r0⟩ := trodAll_cons hA
  obtain ⟨v1, vs1, d1, ds1, p1, q1, rfl, rfl, rfl, h1, r1⟩ := trodAll_cons r0
  obtain ⟨v2, vs2, d2, ds2, p2, q2, rfl, rfl, rfl, h2, r2⟩ := trodAll_cons r1
  obtain ⟨rfl, rfl, rfl⟩ := trodAll_nil r2
  obtain rfl : args = #[v0, v1, v2] := by cases args; simp_all
  obtain ⟨rfl, rfl⟩ := trodVars_none hV
  obtain ⟨a0, len0, cap0, rfl⟩ := okWide_slice Yba.underlying22 (hval 0 22 v0 rfl rfl)
  have k0 := h0
  have lt0 : ∀ x ∈ p0, x.block < W.heap.size := by obtain ⟨m, hm⟩ := k0; exact DataW.trod_lt m _ _ _ hm
  obtain ⟨z0, w0⟩ : ∃ zs, IsRow .u8 W a0 len0 cap0 zs := by
    obtain ⟨fuel, hf⟩ := h0
    rcases open_ints Yba.underlying22 Yba.underlying5 (by kernel_rfl) hf with ⟨hcs, _⟩ | ⟨x, l, c, zs, hcs, _, hl, hm, hz, _, hcell, hwz⟩
    · simp [Value.cells] at hcs
      obtain ⟨rfl, rfl, rfl⟩ := hcs
      exact ⟨[], .inl ⟨rfl, rfl, rfl, rfl⟩⟩
    · simp [Value.cells] at hcs
      obtain ⟨rfl, rfl, rfl⟩ := hcs
      exact ⟨zs, .inr ⟨_, rfl, hl, hm, by simpa using hz, hcell, hwz⟩⟩
  obtain ⟨a1, rfl, rfl, rfl, w1⟩ := open_int Yba.underlying5 (hval 1 5 v1 rfl rfl) h1
  obtain ⟨a2, rfl, rfl, rfl, w2⟩ := open_int Yba.underlying5 (hval 2 5 v2 rfl rfl) h2
  clear hA0 hval0
  refine (walk a0 len0 cap0 z0 a1 a2 W w0 w1 w2).mono fun e W' ⟨he, bel⟩ => ?_
  subst he
  exact ⟨_, rfl, _, _, _, [], _, [], hW', trodAll_mk1 (shut_bool Yba.underlying4 _), (trodAll_cons_mk (Below.trod laidOut (by kernel_rfl) (of_decide_eq_true (by kernel_rfl)) k0 bel lt0) (trodAll_cons_mk (shut_int Yba.underlying5 w1) (trodAll_cons_mk (shut_int Yba.underlying5 w2) trodAll_mk0))), rfl, bel.frame _, fun h => by cases h⟩

theorem over : Rows.lawS2074CForgetRow.holds Yba.pinned (OpenSpec.ofChange Rows.lawS2074CForgetSpec) :=
  OpenClaim.holds_of_wide 5 Yba.f5 rfl rfl rfl rfl rfl rfl rfl ⟨rfl, rfl, rfl, rfl, rfl⟩ rfl rfl rfl rfl rfl (by kernel_rfl) Yba.func5 (by kernel_rfl)
    (of_decide_eq_true (by kernel_rfl)) (by unfold Func.isWrapper; first | (rw [if_pos (by decide +kernel)]; kernel_rfl) | (rw [if_neg (by decide +kernel)]; exact ⟨rfl, rfl⟩))
    (fun os started H enc _ => lifted os started H enc)

/-- ████ THE STATEMENT ████ -/
theorem proved : Rows.LawS2074CForgetSaid := over
#print axioms proved
end Go.Proofs.Ybulkapxu.lawS2074CForget
