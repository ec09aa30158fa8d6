import Derived.Test.YbulkapxuLawA
import Derived.Test.YbulkapxuNeq
namespace Go.Proofs.Ybulkapxu
open Go.RowKit

/-- Cells of a slice that came in. -/
def InRow (k : IntKind) (w : World) (a : Option Addr) (len : Nat) (x : Nat → Nat) : Prop := ∀ i, i < len → ∃ b o, a = some ⟨b, o, none⟩ ∧ b < w.heap.size ∧ w.cell? ⟨b, o + i, none⟩ = some (.int k (x i : Nat))

theorem tmod_nat (x m : Nat) : (x : Int).tmod (m : Int) = ((x % m : Nat) : Int) := by
  rw [Int.tmod_eq_emod_of_nonneg (by omega)]; omega
theorem tdiv_nat (x m : Nat) : (x : Int).tdiv (m : Int) = ((x / m : Nat) : Int) := by
  rw [Int.tdiv_eq_ediv_of_nonneg (by omega)]; omega

/-- Up to the first loop's end: the machine with the stack cs. -/
structure At (w wr : World) (N : Nat) (cs : St) (τ : Nat → Nat) : Prop where
  inv : Inv wr N (N + 1) cs τ
  tbl : wr.heap[N]? = some (.cells #[.string ⟨#[97]⟩, .string ⟨#[98]⟩, .string ⟨#[112]⟩] 24 (0, 0))
  tag : ∀ k, k ≤ N → τ k = 9
  below : Below N w wr
  size : N + 2 ≤ wr.heap.size

theorem At.step {w wr wy : World} {N : Nat} {cs cs' : St} {τ τ' : Nat → Nat} (h : At w wr N cs τ) (hi : Inv wy N (N + 1) cs' τ') (hc : Chg τ (fun t => t ≠ 9) wr wy) (ha : ∀ k, k < wr.heap.size → τ k = 9 → τ' k = 9) : At w wy N cs' τ' := by
  have hs := h.size
  have hk : ∀ k, k ≤ N → wy.heap[k]? = wr.heap[k]? := fun k hk => hc.block k (by omega) (by rw [h.tag k hk]; simp)
  exact ⟨hi, (hk N (Nat.le_refl _)).trans h.tbl, fun k hk => ha k (by omega) (h.tag k hk), h.below.trans ⟨hc.os, hc.tape, hc.output, hc.size, fun k hk' => hk k (by omega)⟩, Nat.le_trans hs hc.size⟩

theorem At.past {w wr wy : World} {N : Nat} {cs : St} {τ : Nat → Nat} (h : At w wr N cs τ) (hb : Below wr.heap.size wr wy) : At w wy N cs τ :=
  h.step (h.inv.past hb (fun _ _ => rfl)) (Chg.of_below hb _) (fun _ _ ht => ht)

/-- A cell that came in, read later. -/
theorem InRow.at {k : IntKind} {w wr : World} {a : Option Addr} {len N i : Nat} {x : Nat → Nat} (h : InRow k w a len x) (hb : Below N w wr) (hN : w.heap.size = N) (hi : i < len) : ∃ b o, a = some ⟨b, o, none⟩ ∧ wr.cell? ⟨b, o + i, none⟩ = some (.int k (x i : Nat)) := by
  obtain ⟨b, o, h1, h2, h3⟩ := h i hi
  exact ⟨b, o, h1, (hb.cell (p := ⟨b, o + i, none⟩) (by show b < N; omega)).trans h3⟩

def elOf (c kd en : Nat) : El := ⟨c % 3, c / 3 % 3, kd, en, c / 9 % 3⟩

theorem tbl_cell {w : World} {N m : Nat} (h : w.heap[N]? = some (.cells #[.string ⟨#[97]⟩, .string ⟨#[98]⟩, .string ⟨#[112]⟩] 24 (0, 0))) (hm : m < 3) : w.cell? ⟨N, m, none⟩ = some (.string (tblName m)) := by
  have hm' : m = 0 ∨ m = 1 ∨ m = 2 := by omega
  rcases hm' with rfl | rfl | rfl
  · exact cell_of h rfl
  · exact cell_of h rfl
  · exact cell_of h rfl

theorem At.entry {w wr : World} {N : Nat} {cs : St} {τ : Nat → Nat} (h : At w wr N cs τ) : At w (wr.alloc (.cells #[.string ⟨#[]⟩, .int .u16 0, .string ⟨#[]⟩, .int .i64 (-1)] 44)) N cs (fun k => if k < wr.heap.size then τ k else 5) := by
  have hb : Below wr.heap.size wr (wr.alloc (.cells #[.string ⟨#[]⟩, .int .u16 0, .string ⟨#[]⟩, .int .i64 (-1)] 44)) := (Below.refl _ _).alloc (Nat.le_refl _) _
  exact h.step (h.inv.past hb (fun k hk => if_pos hk)) (Chg.of_below hb _) (fun k hk ht => by rw [if_pos hk]; exact ht)

theorem At.past9 {w wr wy : World} {N : Nat} {cs : St} {τ : Nat → Nat} (h : At w wr N cs τ) (hb : Below wr.heap.size wr wy) : At w wy N cs (fun k => if k < wr.heap.size then τ k else 9) :=
  h.step (h.inv.past hb (fun k hk => if_pos hk)) (Chg.of_below hb _) (fun k hk ht => by show (if k < wr.heap.size then τ k else 9) = 9; rw [if_pos hk]; exact ht)

/-- Behind 'popTo': all that the law reads. -/
structure Fin (w w5 : World) (N m n i : Nat) (cs : St) (ba : Option Addr) (τ : Nat → Nat) : Prop where
  inv : Inv w5 N (N + 1) (cs.take m) τ
  len : cs.length = n
  lim : n ≤ 1024
  le : m ≤ i
  le2 : i ≤ n
  gap : ∀ q, m ≤ q → q < i → cs[q]? = some none
  last : m = 0 ∨ ∃ e : El, cs[m - 1]? = some (some e)
  shut : ∀ (q : Nat) (e : El), m ≤ q → cs[q]? = some (some e) → w5.cell? ⟨e.en, 3, none⟩ = some (.int .i64 (-1))
  bef : ∀ (q : Nat) (o : Option El), cs[q]? = some o → ∃ gb, ba = some ⟨gb, 0, none⟩ ∧ ∀ j, j < 8 → w5.cell? ⟨gb, q * 8 + j, none⟩ = (elCells o)[j]?
  tbl : w5.heap[N]? = some (.cells #[.string ⟨#[97]⟩, .string ⟨#[98]⟩, .string ⟨#[112]⟩] 24 (0, 0))
  below : Below N w w5

theorem bef_of {w4 w5 : World} {B n bc : Nat} {ba : Option Addr} {cs : St} (hr : w4.ownsRow B 47 8 (.slice ba n bc) n (flat cs)) (hn : cs.length = n) (hb : ∀ g, (Value.slice ba n bc).ownBlock = some g → w5.heap[g]? = w4.heap[g]?) : ∀ (q : Nat) (o : Option El), cs[q]? = some o → ∃ gb, ba = some ⟨gb, 0, none⟩ ∧ ∀ j, j < 8 → w5.cell? ⟨gb, q * 8 + j, none⟩ = (elCells o)[j]? := by
  intro q o ho
  have hq := (List.getElem?_eq_some_iff.1 ho).1
  rcases hr.2 with ⟨h, h0⟩ | ⟨g, c, cur, hv, _⟩
  · cases h; omega
  · cases hv
    refine ⟨g, rfl, fun j hj => ?_⟩
    rw [World.cell?_of_block (a := ⟨g, q * 8 + j, none⟩) (hb g rfl), hr.cellAt (q * 8 + j) (by omega), Nat.mul_comm q 8, flat_get cs q j o ho hj]

theorem Inv.draw {w : World} {N S : Nat} {cs : St} {τ : Nat → Nat} (h : Inv w N S cs τ) (q : Nat) : Inv (w.drewN q) N S cs τ := h.past ⟨rfl, rfl, rfl, Nat.le_refl _, fun _ _ => rfl⟩ (fun _ _ => rfl)
theorem Fin.draw {w w5 : World} {N m n i : Nat} {cs : St} {ba : Option Addr} {τ : Nat → Nat} (h : Fin w w5 N m n i cs ba τ) (q : Nat) : Fin w (w5.drewN q) N m n i cs ba τ :=
  ⟨h.inv.draw q, h.len, h.lim, h.le, h.le2, h.gap, h.last, h.shut, h.bef, h.tbl, h.below.trans ⟨rfl, rfl, rfl, Nat.le_refl _, fun _ _ => rfl⟩⟩

theorem NameOk.look {w : World} {N S a m : Nat} {L : Nat → List Nat} {τ : Nat → Nat} (h : NameOk w N S L τ a) (hm : m < 3) : ∃ mv v, w.cell? ⟨S, 2 + a, none⟩ = some mv ∧ Row w N v (L m) ∧ ∀ wx, Below w.heap.size w wx → (Instr.lookup 28 mv (.string (tblName m)) false).run Yba.prog wx = .ok v wx := by
  rcases h with ⟨h1, h2⟩ | ⟨r, es, ck, h1, h2, h3, h4⟩
  · exact ⟨_, .slice none 0 0, h1, by rw [h2 m hm]; exact World.ownsRow_nil _ _ _ _, fun wx _ => look_nil (P := Yba.prog) Yba.underlying28 Yba.underlying9 (str_key _) (Yba.zero30 wx)⟩
  · have lr := lt_of_block h3
    rcases h4 m hm with ⟨h5, h6⟩ | ⟨k, v, en, h5, h6, h7, h8, h9⟩
    · exact ⟨_, .slice none 0 0, h1, by rw [h6]; exact World.ownsRow_nil _ _ _ _, fun wx hb => look_miss (P := Yba.prog) Yba.underlying28 Yba.underlying9 (str_key _) (Yba.zero30 wx) ((hb.block r lr).trans h3) h5⟩
    · exact ⟨_, v, h1, h8, fun wx hb => look_hit (P := Yba.prog) Yba.underlying28 Yba.underlying9 (str_key _) ((hb.block r lr).trans h3) h5⟩

theorem opened_cells {w : World} {N S : Nat} {st : St} {τ : Nat → Nat} (h : Listed w N S st τ) : ∃ g c, w.cell? ⟨S, 22, none⟩ = some (.slice (some ⟨g, 0, none⟩) 2 c) ∧ w.cell? ⟨g, 0, none⟩ = some (.int .i64 (((pos (bP 1) st).length : Nat) : Int)) ∧ w.cell? ⟨g, 1, none⟩ = some (.int .i64 (((pos (bP 2) st).length : Nat) : Int)) := by
  obtain ⟨v, h1, h2, _⟩ := h.opened
  rcases h2.2 with ⟨_, h0⟩ | ⟨g, c, cur, hv, _⟩
  · omega
  · cases hv
    exact ⟨g, c, h1, h2.cellAt 0 (by omega), h2.cellAt 1 (by omega)⟩

def hitO (p : El → Bool) : Option El → Bool
  | some e => p e
  | none => false

theorem pos_take (p : El → Bool) (cs : St) (k : Nat) (o : Option El) (h : cs[k]? = some o) : pos p (cs.take (k + 1)) = pos p (cs.take k) ++ (if hitO p o = true then [k] else []) := by
  have hl := (List.getElem?_eq_some_iff.1 h).1
  have e1 : cs.take (k + 1) = cs.take k ++ [o] := by rw [List.take_add_one, h]; rfl
  rw [e1, pos_snoc, List.length_take, Nat.min_eq_left (by omega)]
  cases o <;> rfl

theorem ix0 (w : World) : (Instr.index 24 (.agg #[.string (tblName 0), .string (tblName 1), .string (tblName 2)]) (.int .i64 0)).run Yba.prog w = .ok (.string (tblName 0)) w := by kernel_rfl
theorem ix1 (w : World) : (Instr.index 24 (.agg #[.string (tblName 0), .string (tblName 1), .string (tblName 2)]) (.int .i64 1)).run Yba.prog w = .ok (.string (tblName 1)) w := by kernel_rfl
theorem ix2 (w : World) : (Instr.index 24 (.agg #[.string (tblName 0), .string (tblName 1), .string (tblName 2)]) (.int .i64 2)).run Yba.prog w = .ok (.string (tblName 2)) w := by kernel_rfl

/-- The list that the law builds: so far. -/
structure Want (w6 wx : World) (v : Value) (l : List Nat) : Prop where
  row : ∃ a c, v = .slice a l.length c
  own : wx.ownsRow w6.heap.size 3 1 v l.length (ints l)
  below : Below w6.heap.size w6 wx

theorem Want.start {w6 wx : World} (h : Below w6.heap.size w6 wx) : Want w6 wx (.slice none 0 0) [] := ⟨⟨none, 0, rfl⟩, World.ownsRow_nil _ _ _ _, h⟩
theorem Want.alloc {w6 wx : World} {v : Value} {l : List Nat} (h : Want w6 wx v l) (o : Obj) : Want w6 (wx.alloc o) v l := ⟨h.row, h.own.alloc o, h.below.alloc h.below.size o⟩
theorem Want.draw {w6 wx : World} {v : Value} {l : List Nat} (h : Want w6 wx v l) (q : Nat) : Want w6 (wx.drewN q) v l := ⟨h.row, h.own, h.below.trans ⟨rfl, rfl, rfl, Nat.le_refl _, fun _ _ => rfl⟩⟩
theorem Want.snoc {w6 wx w' : World} {v v' : Value} {l : List Nat} {k : Nat} (h : Want w6 wx v l) (hown : w'.ownsRow w6.heap.size 3 1 v' (l.length + 1) (ints l ++ [.int .i64 (k : Int)])) (hgrow : wx.grownBy w' v.ownBlock) (hv : ∃ a c, v' = .slice a (l.length + 1) c) : Want w6 w' v' (l ++ [k]) := by
  refine ⟨by rw [List.length_append]; exact hv, ?_, h.below.grown hgrow h.below.size (fun q hq => (h.own.lt q hq).1)⟩
  have e : ints (l ++ [k]) = ints l ++ [.int .i64 (k : Int)] := by simp [ints]
  rw [e, List.length_append, List.length_singleton]
  exact hown

theorem cell_one_new2 (w : World) (o : Obj) (x : Value) (t : TypeId) : ∀ j u, [x][j]? = some u → ((w.alloc o).alloc (.cells #[x] t)).cell? ((⟨w.heap.size + 1, 0, none⟩ : Addr).add j) = some u := by
  intro j u hu
  have h := cell_one_new (w.alloc o) x t j u hu
  rw [World.size_alloc] at h
  exact h

theorem Want.two {w6 wx : World} {v : Value} {l : List Nat} (h : Want w6 wx v l) (o o2 : Obj) : ((wx.alloc o).alloc o2).ownsRow w6.heap.size 3 1 v l.length (ints l) := (h.own.alloc o).alloc o2

theorem form_slice {w : World} {N n : Nat} {v : Value} {xs : List Value} (h : w.ownsRow N 3 1 v n xs) : ∃ a c, v = .slice a n c := by
  rcases h.2 with ⟨h, h2⟩ | ⟨gb, cb, cur, h, _⟩
  · exact ⟨none, 0, by rw [h, h2]⟩
  · exact ⟨_, cb, h⟩


set_option maxRecDepth 20000 in
set_option maxHeartbeats 4000000 in
theorem popLaw (a0 : Option Addr) (len0 cap0 : Nat) (x0 : Nat → Nat) (a1 : Option Addr) (len1 cap1 : Nat) (x1 : Nat → Nat) (a2 : Option Addr) (len2 cap2 : Nat) (x2 : Nat → Nat) (a3 : Nat) (w : World) (r0 : InRow .u8 w a0 len0 x0) (b0 : ∀ i, x0 i ≤ 255) (r1 : InRow .u16 w a1 len1 x1) (r2 : InRow .u8 w a2 len2 x2) (b2 : ∀ i, x2 i ≤ 255) (h3 : a3 ≤ 255) (hl0 : len0 ≤ 1024) (hl2 : len2 ≤ 1024) :
    Calls Yba.prog 3 #[.slice a0 len0 cap0, .slice a1 len1 cap1, .slice a2 len2 cap2, .int .u8 a3] w fun e w' => e = .returned (.bool true) ∧ Below w.heap.size w w' := by
  obtain ⟨N, hN⟩ : ∃ N, w.heap.size = N := ⟨_, rfl⟩
  have HR0 := hide r0
  have HR1 := hide r1
  have HR2 := hide r2
  have HB0 := hide b0
  have HB2 := hide b2
  clear r0 r1 r2 b0 b2
  go_enter Yba.func3, Yba.ntmps3
  go_wp2_with fail
  obtain ⟨w1, hw1⟩ : ∃ w1, w1 = (w.alloc (.cells #[.string ⟨#[97]⟩, .string ⟨#[98]⟩, .string ⟨#[112]⟩] 24)).alloc (.cells sCells 33) := ⟨_, rfl⟩
  have hw1' := hw1
  unfold sCells at hw1'
  rw [← hw1']
  clear hw1'
  have hS1 : w1.heap[N + 1]? = some (.cells sCells 33 (0, 0)) := by
    have h := heap_alloc_new (w.alloc (.cells #[.string ⟨#[97]⟩, .string ⟨#[98]⟩, .string ⟨#[112]⟩] 24)) (.cells sCells 33)
    rw [← hw1] at h
    simp [hN] at h
    exact h
  have hT1 : w1.heap[N]? = some (.cells #[.string ⟨#[97]⟩, .string ⟨#[98]⟩, .string ⟨#[112]⟩] 24 (0, 0)) := by
    rw [hw1, Below.heap_alloc _ _ _ (by simp [hN]), ← hN]
    exact heap_alloc_new w _
  have hz1 : w1.heap.size = N + 2 := by rw [hw1]; simp [hN]
  have hb1 : Below N w w1 := by rw [hw1]; exact ((Below.refl _ _).alloc (by omega) _).alloc (by simp; omega) _
  refine (begin_any (N + 1) (N + 1) 0 0 none [] w1 (cell_of hS1 rfl) (fun i => frozen_of hS1) (World.ownsRow_nil _ _ _ _) (by omega) (by omega) (by simp [Value.ownBlock])).mono ?_
  rintro e w2 ⟨⟨v, rfl⟩, h2⟩
  obtain ⟨g2, c2, k1, k2, k3⟩ := h2.row
  have hg2 : N + 2 ≤ g2 := by
    rcases k3 with h | h
    · simp [Value.ownBlock] at h
    · omega
  have H2 := hide h2
  have HK2 := hide k2
  have HS1 := hide hS1
  have HT1 := hide hT1
  have HZ1 := hide hz1
  have HB1 := hide hb1
  clear h2 k2 k3 hS1 hT1 hz1 hb1 hw1
  go_wp2_with fail
  refine (begin_any (N + 1) (N + 1) 1 c2 (some ⟨g2, 0, none⟩) [.int .i64 0] w2 k1 (fun i => by rw [(unhide H2).fz]; exact frozen_of (unhide HS1)) (unhide HK2) (by have := (unhide H2).size; have := unhide HZ1; omega) (by omega) (by simp [Value.ownBlock]; omega)).mono ?_
  rintro e w3 ⟨⟨v2, rfl⟩, h3'⟩
  obtain ⟨τ0, hI0, hF0⟩ := init_inv (unhide HS1) (unhide HZ1) (unhide H2) h3' (fun g hg => by simp [Value.ownBlock] at hg; omega)
  have hA0 : At w w3 N [] τ0 := ⟨hI0, (hF0.block N (Nat.le_refl _)).trans (unhide HT1), hF0.tag, (unhide HB1).trans ⟨hF0.os, hF0.tape, hF0.output, by have h5 := h3'.size; have h6 := (unhide H2).size; omega, fun k hk => hF0.block k (by omega)⟩, by have h5 := h3'.size; have h6 := (unhide H2).size; have := unhide HZ1; omega⟩
  have HA0 := hide hA0
  clear hI0 hF0 hA0 h3' k1 H2 HK2 HS1 HT1 HZ1 HB1 hg2
  go_wp2
  go_loopw [51] (fun i wr => ∃ j cs τ, j ≤ len0 ∧ i = .int .i64 (j : Nat) ∧ cs.length = j ∧ At w wr N cs τ) (fun i _ => len0 - (intOf i).toNat)
  case atStart => exact ⟨0, [], τ0, Nat.zero_le _, rfl, rfl, unhide HA0⟩
  case round =>
  obtain ⟨j, cs, τ, hj, rfl, hcs, hA⟩ := hrel
  by_cases hjl : j < len0
  · as_aux_lemma =>
      obtain ⟨b, o, rfl, hc0⟩ := (unhide HR0).at hA.below hN hjl
      have hx0 := unhide HB0 j
      obtain ⟨kd, hkd⟩ : ∃ kd, kd = if j < len1 then x1 j else 0 := ⟨_, rfl⟩
      generalize hx : x0 j = x at *
      have HA := hide hA
      have HKD := hide hkd
      have HX := hide hx
      have HCS := hide hcs
      clear hA hkd hx hcs
      go_upto_if 59 with fail
      go_cut [13] from 60 to 63 (fun s13 wx => s13 = .int .u16 kd ∧ wx = wr)
      case first =>
        by_cases hj1 : j < len1
        · as_aux_lemma =>
            obtain ⟨b1, o1, rfl, hc1⟩ := (unhide HR1).at (unhide HA).below hN hj1
            go_wp2
            go_meet
            case rel => exact ⟨by rw [unhide HKD, if_pos hj1], rfl⟩
        · go_wp2
          go_meet
          case rel => exact ⟨by rw [unhide HKD, if_neg hj1]; rfl, rfl⟩
      case rest =>
      obtain ⟨rfl, rfl⟩ := hcut
      generalize wc = wr at *
      obtain ⟨ns, hns⟩ : ∃ ns, ns = x % 3 := ⟨_, rfl⟩
      obtain ⟨q3, hq3⟩ : ∃ q3, q3 = x / 3 := ⟨_, rfl⟩
      obtain ⟨nm, hnm⟩ : ∃ nm, nm = q3 % 3 := ⟨_, rfl⟩
      obtain ⟨q9, hq9⟩ : ∃ q9, q9 = x / 9 := ⟨_, rfl⟩
      obtain ⟨bk, hbk⟩ : ∃ bk, bk = q9 % 3 := ⟨_, rfl⟩
      have t1 : (x : Int).tmod 3 = (ns : Int) := by rw [hns]; exact tmod_nat x 3
      have t2 : (x : Int).tdiv 3 = (q3 : Int) := by rw [hq3]; exact tdiv_nat x 3
      have t3 : (q3 : Int).tmod 3 = (nm : Int) := by rw [hnm]; exact tmod_nat q3 3
      have t4 : (x : Int).tdiv 9 = (q9 : Int) := by rw [hq9]; exact tdiv_nat x 9
      have t5 : (q9 : Int).tmod 3 = (bk : Int) := by rw [hbk]; exact tmod_nat q9 3
      have ns3 : ns < 3 := by omega
      have nm3 : nm < 3 := by omega
      have bk3 : bk < 3 := by omega
      have q3b : q3 ≤ 255 := by omega
      have q9b : q9 ≤ 255 := by omega
      have nma : (0 : Int) ≤ (nm : Int) := by omega
      have nmb : (nm : Int) < 3 := by omega
      have ctb := tbl_cell (unhide HA).tbl nm3
      have hAe := (unhide HA).entry
      obtain ⟨wE, hwE⟩ : ∃ wE, wE = wr.alloc (.cells #[.string ⟨#[]⟩, .int .u16 0, .string ⟨#[]⟩, .int .i64 (-1)] 44) := ⟨_, rfl⟩
      rw [← hwE] at hAe
      have hEn : wE.heap[wr.heap.size]? = some (.cells #[.string ⟨#[]⟩, .int .u16 0, .string ⟨#[]⟩, .int .i64 (-1)] 44 (0, 0)) := by rw [hwE]; exact heap_alloc_new wr _
      have hpush := push_inv hAe.inv ns nm kd wr.heap.size bk ns3 nm3 bk3 (by rw [unhide HCS]; omega) _ (cell_of (i := 3) hEn rfl) (frozen_of hEn) (by simp)
      have HAE := hide hAe
      have HPU := hide hpush
      have HWE := hide hwE
      clear hAe hpush hwE hEn hns hq3 hnm hq9 hbk
      go_wp2_with fail
      rw [← unhide HWE]
      refine (unhide HPU).mono ?_
      rintro e wy ⟨⟨v3, rfl⟩, τ', hI', ha', hc', _⟩
      have hA' := (unhide HAE).step hI' hc' ha'
      have HA' := hide hA'
      clear hI' ha' hc' hA' HAE HPU HWE t1 t2 t3 t4 t5 ctb HA
      go_wp2
      go_roundw
      case rel => exact ⟨j + 1, _, τ', hjl, by go_num, by rw [List.length_append, unhide HCS]; rfl, unhide HA'⟩
      case measure => simp [intOf]; omega
  as_aux_lemma =>
    obtain rfl : j = len0 := by omega
    have HA := hide hA
    clear hA hjl hj HA0 HR0 HR1 HB0 hcs
    go_wp2
    go_loopw [86] (fun i wr => ∃ q cs τ, q ≤ len2 ∧ i = .int .i64 (q : Nat) ∧ At w wr N cs τ) (fun i _ => len2 - (intOf i).toNat)
    case atStart => exact ⟨0, cs, τ, Nat.zero_le _, rfl, unhide HA⟩
    case round =>
    obtain ⟨q, cs2, τ2, hq, rfl, hA2⟩ := hrel
    obtain ⟨sa, sc, s1, s2⟩ := hA2.inv.slice
    by_cases hql : q < len2
    · as_aux_lemma =>
        obtain ⟨b, o, rfl, hc0⟩ := (unhide HR2).at hA2.below hN hql
        have hx2 := unhide HB2 q
        generalize hx : x2 q = x at *
        have hlen := hA2.inv.len
        by_cases hz : cs2.length = 0
        · as_aux_lemma =>
            rw [hz] at s1
            have HA2 := hide hA2
            clear hA2 s2 hx hz hlen
            go_wp2
            go_roundw
            case rel => exact ⟨q + 1, cs2, τ2, hql, by go_num, unhide HA2⟩
            case measure => simp [intOf]; omega
        · obtain ⟨n, hn⟩ : ∃ n, n = cs2.length := ⟨_, rfl⟩
          obtain ⟨r, hr⟩ : ∃ r, r = x % n := ⟨_, rfl⟩
          have hrm := remove_inv (i := r) hA2.inv (by rw [hr, hn]; exact Nat.mod_lt _ (by omega))
          have t1 : (x : Int).tmod (n : Int) = (r : Int) := by rw [hr]; exact tmod_nat x n
          rw [← hn] at s1 hz hlen
          have hn0 : 0 < n := by omega
          have hnne : (n : Int) ≠ 0 := by omega
          have HA2 := hide hA2
          have HRM := hide hrm
          clear hA2 s2 hx hn hr hrm hz
          go_wp2_with fail
          refine (unhide HRM).mono ?_
          rintro e wy ⟨⟨v3, rfl⟩, cs', hI', hc'⟩
          have hA' := (unhide HA2).step hI' hc' (fun _ _ ht => ht)
          have HA' := hide hA'
          clear hI' hc' hA' HRM HA2
          go_wp2
          go_roundw
          case rel => exact ⟨q + 1, cs', τ2, hql, by go_num, unhide HA'⟩
          case measure => simp [intOf]; omega
    as_aux_lemma =>
      obtain rfl : q = len2 := by omega
      have hlen := hA2.inv.len
      obtain ⟨n, hn⟩ : ∃ n, n = cs2.length := ⟨_, rfl⟩
      have hcl := clone_el N cs2.length sc sa cs2 wr hA2.inv.len s2
      rw [← hn] at hcl s1 hlen
      have HA2 := hide hA2
      have HN2 := hide hn
      have HCL := hide hcl
      clear hA2 hn hcl s2 hql hq HA HR2 HB2
      go_wp2_with fail
      refine (unhide HCL).mono ?_
      rintro e w4 ⟨ba, bc, rfl, hbr, hbb⟩
      have hA4 := (unhide HA2).past9 hbb
      obtain ⟨τ4, hτ4⟩ : ∃ τ4 : Nat → Nat, τ4 = fun k => if k < wr.heap.size then τ2 k else 9 := ⟨_, rfl⟩
      rw [← hτ4] at hA4
      have htb : ∀ g, (Value.slice ba n bc).ownBlock = some g → τ4 g = 9 ∧ g < w4.heap.size := fun g hg => ⟨by have := (hbr.lt g hg).1; rw [hτ4]; show (if g < wr.heap.size then τ2 g else 9) = 9; rw [if_neg (by omega)], (hbr.lt g hg).2⟩
      have HTB := hide htb
      clear htb hτ4
      have s4 : w4.cell? ⟨N + 1, 0, none⟩ = some (.slice sa n sc) := (hbb.cell (p := ⟨N + 1, 0, none⟩) (unhide HA2).inv.listed.ltS).trans s1
      obtain ⟨i, hi⟩ : ∃ i, i = a3 % (n + 1) := ⟨_, rfl⟩
      have hin : i ≤ n := by have := Nat.mod_lt a3 (show 0 < n + 1 by omega); omega
      have t1 : (a3 : Int).tmod ((n : Int) + 1) = (i : Int) := by rw [hi]; exact tmod_nat a3 (n + 1)
      have hpp := popTo_inv (i := i) hA4.inv (by rw [← unhide HN2]; exact hin)
      have HA4 := hide hA4
      have HPP := hide hpp
      have HBR := hide hbr
      have HLT : Hid (wr.heap.size ≤ w4.heap.size) := hide hbb.size
      have hnne : (n : Int) + 1 ≠ 0 := by omega
      clear hA4 hpp hbr hbb hi HCL HA2 s1
      go_wp2_with fail
      refine (unhide HPP).mono ?_
      rintro e w5 ⟨⟨v4, rfl⟩, m, hPo⟩
      have hbr := unhide HBR
      have hA5 := (unhide HA4).step hPo.inv hPo.chg (fun _ _ ht => ht)
      have hF : Fin w w5 N m n i cs2 ba τ4 := ⟨hPo.inv, (unhide HN2).symm, hlen, hPo.le, hin, hPo.gap, hPo.last, hPo.shut, bef_of hbr (unhide HN2).symm (fun g hg => hPo.chg.block g (unhide HTB g hg).2 (by rw [(unhide HTB g hg).1]; simp)), hA5.tbl, hA5.below⟩
      have HF := hide hF
      clear hPo hbr hA5 hF HBR HA4 HPP HLT HTB HN2 s4 hnne t1
      go_wp2
      go_loopw [18] (fun a wr => ∃ k : Nat, m ≤ k ∧ k ≤ i ∧ a = .int .i64 k ∧ wr = w5) (fun a _ => (intOf a).toNat)
      case atStart => exact ⟨i, (unhide HF).le, Nat.le_refl _, rfl, rfl⟩
      case round =>
      obtain ⟨k, hmk, hki, rfl, rfl⟩ := hrel
      by_cases hkm : m < k
      · as_aux_lemma =>
          obtain ⟨k, rfl⟩ : ∃ k', k = k' + 1 := ⟨k - 1, by omega⟩
          have hgap := (unhide HF).gap k (by omega) (by omega)
          obtain ⟨gb, rfl, hgb⟩ := (unhide HF).bef k none hgap
          have z5 : wr.cell? ⟨gb, k * 8 + 5, none⟩ = some (.bool true) := hgb 5 (by omega)
          clear hgap hgb
          go_wp2
          go_roundw
          case rel => exact ⟨k, by omega, by omega, by go_num, by first | rfl | trivial⟩
          case measure => simp [intOf]
      as_aux_lemma =>
        obtain rfl : k = m := by omega
        have hlast := (unhide HF).last
        obtain ⟨sa5, sc5, s5, row5⟩ := (unhide HF).inv.slice
        have hmn : k ≤ n := Nat.le_trans (unhide HF).le (unhide HF).le2
        have hlk : (cs2.take k).length = k := by rw [List.length_take, (unhide HF).len]; omega
        rw [hlk] at s5 row5
        have hst5 := bef_of (w5 := wr) row5 hlk (fun _ _ => rfl)
        have HST5 := hide hst5
        clear row5 hst5
        go_upto_region 25 with fail
        go_cut [134] from 125 to 133 (fun s134 wx => s134 = .bool false ∧ wx = wr)
        case first =>
          rcases hlast with rfl | ⟨el, hel⟩
          · go_wp2
            go_meet
            case rel => exact ⟨rfl, rfl⟩
          · cases k with
            | zero =>
              go_wp2
              go_meet
              case rel => exact ⟨rfl, rfl⟩
            | succ k =>
              obtain ⟨gb, rfl, hgb⟩ := (unhide HF).bef k (some el) hel
              have z5 : wr.cell? ⟨gb, k * 8 + 5, none⟩ = some (.bool false) := hgb 5 (by omega)
              have hkn' : k < n := by omega
              clear hgb hel
              go_wp2
              go_meet
              case rel => exact ⟨rfl, rfl⟩
        case rest =>
        obtain ⟨rfl, rfl⟩ := hcut
        generalize wc = w5 at *
        generalize k = m at *
        clear hlast hlk hmk hkm hki
        go_wp2
        go_loopw [19] (fun a wx => ∃ t nq : Nat, t ≤ m ∧ a = .int .i64 t ∧ wx = w5.drewN nq) (fun a _ => m - (intOf a).toNat)
        case atStart => exact ⟨0, 0, Nat.zero_le _, rfl, rfl⟩
        case round =>
        obtain ⟨t, nq, htm, rfl, rfl⟩ := hrel
        by_cases htl : t < m
        · as_aux_lemma =>
            obtain ⟨o, ho⟩ : ∃ o, cs2[t]? = some o := ⟨_, List.getElem?_eq_getElem (by rw [(unhide HF).len]; omega)⟩
            have ho' : (cs2.take m)[t]? = some o := by rw [List.getElem?_take, if_pos htl]; exact ho
            obtain ⟨gb, rfl, hgb⟩ := (unhide HF).bef t o ho
            obtain ⟨gs, rfl, hgs⟩ := unhide HST5 t o ho'
            have htn : t < n := by omega
            cases o with
            | some el =>
              have y0 : w5.cell? ⟨gb, t * 8, none⟩ = some (.int .u8 el.ns) := hgb 0 (by omega)
              have y1 : w5.cell? ⟨gb, t * 8 + 1, none⟩ = some (.string (tblName el.nm)) := hgb 1 (by omega)
              have y2 : w5.cell? ⟨gb, t * 8 + 2, none⟩ = some (.int .u8 0) := hgb 2 (by omega)
              have y3 : w5.cell? ⟨gb, t * 8 + 3, none⟩ = some (.int .u16 el.kd) := hgb 3 (by omega)
              have y4 : w5.cell? ⟨gb, t * 8 + 4, none⟩ = some (.pointer (some ⟨el.en, 0, none⟩)) := hgb 4 (by omega)
              have y5 : w5.cell? ⟨gb, t * 8 + 5, none⟩ = some (.bool false) := hgb 5 (by omega)
              have y6 : w5.cell? ⟨gb, t * 8 + 6, none⟩ = some (.string ⟨#[]⟩) := hgb 6 (by omega)
              have y7 : w5.cell? ⟨gb, t * 8 + 7, none⟩ = some (.int .i64 el.bk) := hgb 7 (by omega)
              have z0 : w5.cell? ⟨gs, t * 8, none⟩ = some (.int .u8 el.ns) := hgs 0 (by omega)
              have z1 : w5.cell? ⟨gs, t * 8 + 1, none⟩ = some (.string (tblName el.nm)) := hgs 1 (by omega)
              have z2 : w5.cell? ⟨gs, t * 8 + 2, none⟩ = some (.int .u8 0) := hgs 2 (by omega)
              have z3 : w5.cell? ⟨gs, t * 8 + 3, none⟩ = some (.int .u16 el.kd) := hgs 3 (by omega)
              have z4 : w5.cell? ⟨gs, t * 8 + 4, none⟩ = some (.pointer (some ⟨el.en, 0, none⟩)) := hgs 4 (by omega)
              have z5 : w5.cell? ⟨gs, t * 8 + 5, none⟩ = some (.bool false) := hgs 5 (by omega)
              have z6 : w5.cell? ⟨gs, t * 8 + 6, none⟩ = some (.string ⟨#[]⟩) := hgs 6 (by omega)
              have z7 : w5.cell? ⟨gs, t * 8 + 7, none⟩ = some (.int .i64 el.bk) := hgs 7 (by omega)
              have e3 := ((unhide HF).inv.ents t el ho').1
              have hq := neq47 el.ns (tblName el.nm) el.kd (some ⟨el.en, 0, none⟩) false el.bk
              clear hgb hgs ho ho'
              go_wp2
              go_quiet (fail)
              go_wp2
              go_roundw
              case rel => exact ⟨t + 1, _, htl, by go_num, rfl⟩
              case measure => simp [intOf]; omega
            | none =>
              have y0 : w5.cell? ⟨gb, t * 8, none⟩ = some (.int .u8 0) := hgb 0 (by omega)
              have y1 : w5.cell? ⟨gb, t * 8 + 1, none⟩ = some (.string ⟨#[]⟩) := hgb 1 (by omega)
              have y2 : w5.cell? ⟨gb, t * 8 + 2, none⟩ = some (.int .u8 0) := hgb 2 (by omega)
              have y3 : w5.cell? ⟨gb, t * 8 + 3, none⟩ = some (.int .u16 0) := hgb 3 (by omega)
              have y4 : w5.cell? ⟨gb, t * 8 + 4, none⟩ = some (.pointer none) := hgb 4 (by omega)
              have y5 : w5.cell? ⟨gb, t * 8 + 5, none⟩ = some (.bool true) := hgb 5 (by omega)
              have y6 : w5.cell? ⟨gb, t * 8 + 6, none⟩ = some (.string ⟨#[]⟩) := hgb 6 (by omega)
              have y7 : w5.cell? ⟨gb, t * 8 + 7, none⟩ = some (.int .i64 0) := hgb 7 (by omega)
              have z0 : w5.cell? ⟨gs, t * 8, none⟩ = some (.int .u8 0) := hgs 0 (by omega)
              have z1 : w5.cell? ⟨gs, t * 8 + 1, none⟩ = some (.string ⟨#[]⟩) := hgs 1 (by omega)
              have z2 : w5.cell? ⟨gs, t * 8 + 2, none⟩ = some (.int .u8 0) := hgs 2 (by omega)
              have z3 : w5.cell? ⟨gs, t * 8 + 3, none⟩ = some (.int .u16 0) := hgs 3 (by omega)
              have z4 : w5.cell? ⟨gs, t * 8 + 4, none⟩ = some (.pointer none) := hgs 4 (by omega)
              have z5 : w5.cell? ⟨gs, t * 8 + 5, none⟩ = some (.bool true) := hgs 5 (by omega)
              have z6 : w5.cell? ⟨gs, t * 8 + 6, none⟩ = some (.string ⟨#[]⟩) := hgs 6 (by omega)
              have z7 : w5.cell? ⟨gs, t * 8 + 7, none⟩ = some (.int .i64 0) := hgs 7 (by omega)
              have hq := neq47 0 ⟨#[]⟩ 0 none true 0
              clear hgb hgs ho ho'
              go_wp2
              go_quiet (fail)
              go_wp2
              go_roundw
              case rel => exact ⟨t + 1, _, htl, by go_num, rfl⟩
              case measure => simp [intOf]; omega
        as_aux_lemma =>
          obtain rfl : t = m := by omega
          clear htl htm
          go_wp2
          obtain ⟨w6, hw6⟩ : ∃ w6, w6 = w5.drewN nq := ⟨_, rfl⟩
          rw [← hw6]
          have HF6 : Hid (Fin w w6 N t n i cs2 ba τ4) := hide (by rw [hw6]; exact (unhide HF).draw nq)
          have s6 : w6.cell? ⟨N + 1, 0, none⟩ = some (.slice sa5 t sc5) := by rw [hw6]; exact s5
          clear hw6 HF s5 HST5
          go_loopw [20] (fun a wx => ∃ k : Nat, t ≤ k ∧ k ≤ n ∧ a = .int .i64 k ∧ wx = w6) (fun a _ => n - (intOf a).toNat)
          case atStart => exact ⟨t, Nat.le_refl _, hmn, rfl, rfl⟩
          case round =>
          obtain ⟨k, htk, hkn, rfl, hwx⟩ := hrel
          rw [hwx]
          by_cases hkl : k < n
          · as_aux_lemma =>
              obtain ⟨o, ho⟩ : ∃ o, cs2[k]? = some o := ⟨_, List.getElem?_eq_getElem (by rw [(unhide HF6).len]; omega)⟩
              obtain ⟨gb, rfl, hgb⟩ := (unhide HF6).bef k o ho
              cases o with
              | some el =>
                have y4 : w6.cell? ⟨gb, k * 8 + 4, none⟩ = some (.pointer (some ⟨el.en, 0, none⟩)) := hgb 4 (by omega)
                have y5 : w6.cell? ⟨gb, k * 8 + 5, none⟩ = some (.bool false) := hgb 5 (by omega)
                have y3 := (unhide HF6).shut k el htk ho
                clear hgb ho
                go_wp2
                go_roundw
                case rel => exact ⟨k + 1, by omega, hkl, by go_num, by first | rfl | trivial⟩
                case measure => simp [intOf]; omega
              | none =>
                have y5 : w6.cell? ⟨gb, k * 8 + 5, none⟩ = some (.bool true) := hgb 5 (by omega)
                clear hgb ho
                go_wp2
                go_roundw
                case rel => exact ⟨k + 1, by omega, hkl, by go_num, by first | rfl | trivial⟩
                case measure => simp [intOf]; omega
          as_aux_lemma =>
            obtain rfl : k = n := by omega
            clear hkl hkn htk hwx
            go_wp2
            go_loopw [21] (fun a wx => ∃ s : Nat, s ≤ 3 ∧ a = .int .i64 s ∧ Below w6.heap.size w6 wx) (fun a _ => 3 - (intOf a).toNat)
            case atStart => exact ⟨0, by omega, rfl, Below.refl _ _⟩
            case round =>
            obtain ⟨s, hs3, rfl, hb7⟩ := hrel
            by_cases hsl : s < 3
            · as_aux_lemma =>
                have hsa : (0 : Int) ≤ (s : Int) := by omega
                have hsb : (s : Int) < 3 := by omega
                have ct0 := (hb7.cell (p := ⟨N, 0, none⟩) (lt_of_block (unhide HF6).tbl)).trans (tbl_cell (unhide HF6).tbl (m := 0) (by omega))
                have ct1 := (hb7.cell (p := ⟨N, 1, none⟩) (lt_of_block (unhide HF6).tbl)).trans (tbl_cell (unhide HF6).tbl (m := 1) (by omega))
                have ct2 := (hb7.cell (p := ⟨N, 2, none⟩) (lt_of_block (unhide HF6).tbl)).trans (tbl_cell (unhide HF6).tbl (m := 2) (by omega))
                have HB7 := hide hb7
                clear hb7
                go_wp2
                clear ct0 ct1 ct2
                go_loopw [208] (fun a wx => ∃ r : Nat, r ≤ 3 ∧ a = .int .i64 r ∧ Below w6.heap.size w6 wx) (fun a _ => 3 - (intOf a).toNat)
                case atStart => exact ⟨0, by omega, rfl, unhide HB7⟩
                case round =>
                obtain ⟨r, hr3, rfl, hb8⟩ := hrel
                by_cases hrl : r < 3
                · as_aux_lemma =>
                    have hra : (0 : Int) ≤ (r : Int) := by omega
                    have hrb : (r : Int) < 3 := by omega
                    have HB8 := hide hb8
                    clear hb8
                    go_upto_region 46 with fail
                    go_cut [23] from 210 to 210 (fun s23 wx => s23 = .string (tblName r) ∧ wx = wr)
                    case first =>
                      have hr' : r = 0 ∨ r = 1 ∨ r = 2 := by omega
                      rcases hr' with rfl | rfl | rfl
                      · have ix := ix0
                        go_wp2
                        go_meet
                        case rel => exact ⟨rfl, rfl⟩
                      · have ix := ix1
                        go_wp2
                        go_meet
                        case rel => exact ⟨rfl, rfl⟩
                      · have ix := ix2
                        go_wp2
                        go_meet
                        case rel => exact ⟨rfl, rfl⟩
                    case rest =>
                    obtain ⟨rfl, rfl⟩ := hcut
                    generalize wc = w8 at *
                    go_wp2
                    go_loopw [24, 25] (fun v a wx => ∃ kk : Nat, kk ≤ t ∧ a = .int .i64 kk ∧ Want w6 wx v (pos (nP s r) (cs2.take kk))) (fun _ a _ => t - (intOf a).toNat)
                    case atStart => exact ⟨0, Nat.zero_le _, rfl, by rw [List.take_zero]; exact Want.start (unhide HB8)⟩
                    case round =>
                    obtain ⟨kk, hkt, rfl, hW⟩ := hrel
                    by_cases hkl : kk < t
                    · as_aux_lemma =>
                        obtain ⟨o, ho⟩ : ∃ o, cs2[kk]? = some o := ⟨_, List.getElem?_eq_getElem (by rw [(unhide HF6).len]; omega)⟩
                        obtain ⟨gb, rfl, hgb⟩ := (unhide HF6).bef kk o ho
                        have hkb : (kk : Int) < (t : Int) := by omega
                        have hpt := pos_take (nP s r) cs2 kk o ho
                        have hb8 := hW.below
                        have hkn : kk < k := by omega
                        obtain ⟨va, vc, rfl⟩ := hW.row
                        have HW := hide hW
                        have HPT := hide hpt
                        cases o with
                        | none =>
                          have y0 : wr.cell? ⟨gb, kk * 8, none⟩ = some (.int .u8 0) := (hb8.cell (p := ⟨gb, kk * 8, none⟩) (World.block_lt_of_cell? _ _ (hgb 0 (by omega)))).trans (hgb 0 (by omega))
                          have y1 : wr.cell? ⟨gb, kk * 8 + 1, none⟩ = some (.string ⟨#[]⟩) := (hb8.cell (p := ⟨gb, kk * 8 + 1, none⟩) (World.block_lt_of_cell? _ _ (hgb 1 (by omega)))).trans (hgb 1 (by omega))
                          have y2 : wr.cell? ⟨gb, kk * 8 + 2, none⟩ = some (.int .u8 0) := (hb8.cell (p := ⟨gb, kk * 8 + 2, none⟩) (World.block_lt_of_cell? _ _ (hgb 2 (by omega)))).trans (hgb 2 (by omega))
                          have y3 : wr.cell? ⟨gb, kk * 8 + 3, none⟩ = some (.int .u16 0) := (hb8.cell (p := ⟨gb, kk * 8 + 3, none⟩) (World.block_lt_of_cell? _ _ (hgb 3 (by omega)))).trans (hgb 3 (by omega))
                          have y4 : wr.cell? ⟨gb, kk * 8 + 4, none⟩ = some (.pointer none) := (hb8.cell (p := ⟨gb, kk * 8 + 4, none⟩) (World.block_lt_of_cell? _ _ (hgb 4 (by omega)))).trans (hgb 4 (by omega))
                          have y5 : wr.cell? ⟨gb, kk * 8 + 5, none⟩ = some (.bool true) := (hb8.cell (p := ⟨gb, kk * 8 + 5, none⟩) (World.block_lt_of_cell? _ _ (hgb 5 (by omega)))).trans (hgb 5 (by omega))
                          have y6 : wr.cell? ⟨gb, kk * 8 + 6, none⟩ = some (.string ⟨#[]⟩) := (hb8.cell (p := ⟨gb, kk * 8 + 6, none⟩) (World.block_lt_of_cell? _ _ (hgb 6 (by omega)))).trans (hgb 6 (by omega))
                          have y7 : wr.cell? ⟨gb, kk * 8 + 7, none⟩ = some (.int .i64 0) := (hb8.cell (p := ⟨gb, kk * 8 + 7, none⟩) (World.block_lt_of_cell? _ _ (hgb 7 (by omega)))).trans (hgb 7 (by omega))
                          clear hW hpt hb8 hgb ho
                          go_wp2
                          go_roundw
                          case rel =>
                            refine ⟨kk + 1, hkl, by go_num, ?_⟩
                            have h := unhide HPT
                            simp only [hitO, Bool.false_eq_true, if_false, List.append_nil] at h
                            rw [h]
                            exact (unhide HW).alloc _
                          case measure => simp [intOf]; omega
                        | some el =>
                          have y0 : wr.cell? ⟨gb, kk * 8, none⟩ = some (.int .u8 el.ns) := (hb8.cell (p := ⟨gb, kk * 8, none⟩) (World.block_lt_of_cell? _ _ (hgb 0 (by omega)))).trans (hgb 0 (by omega))
                          have y1 : wr.cell? ⟨gb, kk * 8 + 1, none⟩ = some (.string (tblName el.nm)) := (hb8.cell (p := ⟨gb, kk * 8 + 1, none⟩) (World.block_lt_of_cell? _ _ (hgb 1 (by omega)))).trans (hgb 1 (by omega))
                          have y2 : wr.cell? ⟨gb, kk * 8 + 2, none⟩ = some (.int .u8 0) := (hb8.cell (p := ⟨gb, kk * 8 + 2, none⟩) (World.block_lt_of_cell? _ _ (hgb 2 (by omega)))).trans (hgb 2 (by omega))
                          have y3 : wr.cell? ⟨gb, kk * 8 + 3, none⟩ = some (.int .u16 el.kd) := (hb8.cell (p := ⟨gb, kk * 8 + 3, none⟩) (World.block_lt_of_cell? _ _ (hgb 3 (by omega)))).trans (hgb 3 (by omega))
                          have y4 : wr.cell? ⟨gb, kk * 8 + 4, none⟩ = some (.pointer (some ⟨el.en, 0, none⟩)) := (hb8.cell (p := ⟨gb, kk * 8 + 4, none⟩) (World.block_lt_of_cell? _ _ (hgb 4 (by omega)))).trans (hgb 4 (by omega))
                          have y5 : wr.cell? ⟨gb, kk * 8 + 5, none⟩ = some (.bool false) := (hb8.cell (p := ⟨gb, kk * 8 + 5, none⟩) (World.block_lt_of_cell? _ _ (hgb 5 (by omega)))).trans (hgb 5 (by omega))
                          have y6 : wr.cell? ⟨gb, kk * 8 + 6, none⟩ = some (.string ⟨#[]⟩) := (hb8.cell (p := ⟨gb, kk * 8 + 6, none⟩) (World.block_lt_of_cell? _ _ (hgb 6 (by omega)))).trans (hgb 6 (by omega))
                          have y7 : wr.cell? ⟨gb, kk * 8 + 7, none⟩ = some (.int .i64 el.bk) := (hb8.cell (p := ⟨gb, kk * 8 + 7, none⟩) (World.block_lt_of_cell? _ _ (hgb 7 (by omega)))).trans (hgb 7 (by omega))
                          have hwf := (unhide HF6).inv.wf kk el (by rw [List.getElem?_take, if_pos hkl]; exact ho)
                          have hw3 : el.ns < 3 := hwf.1
                          clear hW hpt hb8 hgb ho
                          by_cases hns : el.ns = s
                          · have hb1 : ((el.ns : Int) == (s : Int)) = true := by rw [hns]; simp
                            by_cases hnm : el.nm = r
                            · have hb2 : ((tblName el.nm).toList == (tblName r).toList) = true := by rw [hnm]; simp
                              have hb3 : (tblName el.nm == tblName r) = true := by rw [hnm]; exact beq_same _
                              have HNS := hide hns
                              have HNM := hide hnm
                              clear hns hnm hwf
                              obtain ⟨i0, hi0, hz0, hz1, hz2⟩ := info_parts Yba.info3
                              have HOW := hide (unhide HW).two
                              have hDl := (unhide HW).below.size
                              have hlen8 : (pos (nP s r) (cs2.take kk)).length ≤ 1024 := Nat.le_trans (pos_len _ _) (by rw [List.length_take]; have := (unhide HF6).lim; have := (unhide HF6).len; omega)
                              go_wp2_with (at_builtin; refine wpList_append_own _ rfl _ _ 30 rfl w6.heap.size 3 i0 (.int .i64 0) 1 8 Yba.underlying30 hi0 hz0 hz1 hz2 rfl (by decide) _ _ _ rfl (unhide HOW _ _) ⟨wr.heap.size + 1, 0, none⟩ 1 1 [.int .i64 kk] rfl rfl (cell_one_new2 wr _ _ _) (one_int kk) (by unfold maxLen; omega) (by omega) (by simp; omega) ?_)
                              intro v' w9 hown hgrow hnz
                              obtain ⟨va', vc', rfl⟩ := form_slice hown
                              have hW9 := (((unhide HW).alloc _).alloc _).snoc hown hgrow ⟨va', vc', rfl⟩
                              have HW9 := hide hW9
                              clear hown hgrow hnz hW9 HOW
                              go_wp2
                              go_roundw
                              case rel =>
                                refine ⟨kk + 1, hkl, by go_num, ?_⟩
                                have h := unhide HPT
                                rw [show hitO _ (some el) = true from by show nP s r el = true; unfold nP; rw [unhide HNS, unhide HNM]; simp] at h
                                rw [if_pos rfl] at h
                                rw [h]
                                exact unhide HW9
                              case measure => simp [intOf]; omega
                            · have hb2 : ((tblName el.nm).toList == (tblName r).toList) = false := by rw [← beq_toListBytes]; exact beq_diff (tbl_ne hwf.2.1 hrl hnm)
                              have hb3 : (tblName el.nm == tblName r) = false := beq_diff (tbl_ne hwf.2.1 hrl hnm)
                              have HNM := hide hnm
                              clear hns hnm hwf
                              go_wp2
                              go_roundw
                              case rel =>
                                refine ⟨kk + 1, hkl, by go_num, ?_⟩
                                have h := unhide HPT
                                rw [show hitO _ (some el) = false from by show nP s r el = false; unfold nP; simp; intro _; exact unhide HNM] at h
                                simp only [Bool.false_eq_true, if_false, List.append_nil] at h
                                rw [h]
                                exact (unhide HW).alloc _
                              case measure => simp [intOf]; omega
                          · have hb1 : ((el.ns : Int) == (s : Int)) = false := by rw [beq_eq_false_iff_ne]; omega
                            have HNS := hide hns
                            clear hns hwf
                            go_wp2
                            go_roundw
                            case rel =>
                              refine ⟨kk + 1, hkl, by go_num, ?_⟩
                              have h := unhide HPT
                              rw [show hitO _ (some el) = false from by show nP s r el = false; unfold nP; simp; intro h2; exact absurd h2 (unhide HNS)] at h
                              simp only [Bool.false_eq_true, if_false, List.append_nil] at h
                              rw [h]
                              exact (unhide HW).alloc _
                            case measure => simp [intOf]; omega
                    as_aux_lemma =>
                      obtain rfl : kk = t := by omega
                      obtain ⟨mv, v2', l1, l2, l3⟩ := ((unhide HF6).inv.listed.name s hsl).look hrl
                      have lS := (unhide HF6).inv.listed.ltS
                      obtain ⟨ea, ec, rfl⟩ := form_slice l2
                      obtain ⟨wa, wc', rfl⟩ := hW.row
                      have cm := (hW.below.cell (p := ⟨N + 1, 2 + s, none⟩) lS).trans l1
                      have hlk := l3 wr hW.below
                      have hlen9 : (pos (nP s r) (cs2.take kk)).length ≤ 4096 := Nat.le_trans (pos_len _ _) (by rw [List.length_take]; have := (unhide HF6).lim; have := (unhide HF6).len; omega)
                      have heq := equal_same N w6.heap.size _ ec wc' ea wa (pos (nP s r) (cs2.take kk)) wr rfl hlen9 (ownsRow_same l2 (fun g hg => hW.below.block g (l2.lt g hg).2)) hW.own
                      have HEQ := hide heq
                      have HWB := hide hW.below
                      clear heq hW l1 l2 l3 hkl hkt
                      go_wp2_with fail
                      refine (unhide HEQ).mono ?_
                      rintro e wz ⟨rfl, q8, rfl⟩
                      go_wp2
                      go_roundw
                      case rel => exact ⟨r + 1, hrl, by go_num, (unhide HWB).trans ⟨rfl, rfl, rfl, Nat.le_refl _, fun _ _ => rfl⟩⟩
                      case measure => simp [intOf]; omega
                as_aux_lemma =>
                  obtain rfl : r = 3 := by omega
                  have HB8 := hide hb8
                  clear hb8 hrl hr3
                  go_wp2
                  go_roundw
                  case rel => exact ⟨s + 1, hsl, by go_num, unhide HB8⟩
                  case measure => simp [intOf]; omega
            as_aux_lemma =>
              obtain rfl : s = 3 := by omega
              have HB7 := hide hb7
              clear hb7 hsl hs3
              go_wp2
              rw [show ((3 : Nat) : Int) = 3 from rfl]
              go_loopw [27] (fun a wx => ∃ b : Nat, b ≤ 16 ∧ a = .int .i64 b ∧ Below w6.heap.size w6 wx) (fun a _ => 16 - (intOf a).toNat)
              case atStart => exact ⟨0, by omega, rfl, unhide HB7⟩
              case round =>
              obtain ⟨b, hb16, rfl, hb8⟩ := hrel
              by_cases hbl : b < 16
              · as_aux_lemma =>
                  have hba : (0 : Int) ≤ (b : Int) := by omega
                  have hbb : (b : Int) < 16 := by omega
                  have HB8 := hide hb8
                  clear hb8
                  go_wp2
                  go_loopw [28, 29] (fun v a wx => ∃ kk : Nat, kk ≤ t ∧ a = .int .i64 kk ∧ Want w6 wx v (pos (kP b) (cs2.take kk))) (fun _ a _ => t - (intOf a).toNat)
                  case atStart => exact ⟨0, Nat.zero_le _, rfl, by rw [List.take_zero]; exact Want.start (unhide HB8)⟩
                  case round =>
                  obtain ⟨kk, hkt, rfl, hW⟩ := hrel
                  by_cases hkl : kk < t
                  · as_aux_lemma =>
                      obtain ⟨o, ho⟩ : ∃ o, cs2[kk]? = some o := ⟨_, List.getElem?_eq_getElem (by rw [(unhide HF6).len]; omega)⟩
                      obtain ⟨gb, rfl, hgb⟩ := (unhide HF6).bef kk o ho
                      have hkb : (kk : Int) < (t : Int) := by omega
                      have hpt := pos_take (kP b) cs2 kk o ho
                      have hb8 := hW.below
                      have hkn : kk < k := by omega
                      obtain ⟨va, vc, rfl⟩ := hW.row
                      have HW := hide hW
                      have HPT := hide hpt
                      cases o with
                      | none =>
                        have y0 : wr.cell? ⟨gb, kk * 8, none⟩ = some (.int .u8 0) := (hb8.cell (p := ⟨gb, kk * 8, none⟩) (World.block_lt_of_cell? _ _ (hgb 0 (by omega)))).trans (hgb 0 (by omega))
                        have y1 : wr.cell? ⟨gb, kk * 8 + 1, none⟩ = some (.string ⟨#[]⟩) := (hb8.cell (p := ⟨gb, kk * 8 + 1, none⟩) (World.block_lt_of_cell? _ _ (hgb 1 (by omega)))).trans (hgb 1 (by omega))
                        have y2 : wr.cell? ⟨gb, kk * 8 + 2, none⟩ = some (.int .u8 0) := (hb8.cell (p := ⟨gb, kk * 8 + 2, none⟩) (World.block_lt_of_cell? _ _ (hgb 2 (by omega)))).trans (hgb 2 (by omega))
                        have y3 : wr.cell? ⟨gb, kk * 8 + 3, none⟩ = some (.int .u16 0) := (hb8.cell (p := ⟨gb, kk * 8 + 3, none⟩) (World.block_lt_of_cell? _ _ (hgb 3 (by omega)))).trans (hgb 3 (by omega))
                        have y4 : wr.cell? ⟨gb, kk * 8 + 4, none⟩ = some (.pointer none) := (hb8.cell (p := ⟨gb, kk * 8 + 4, none⟩) (World.block_lt_of_cell? _ _ (hgb 4 (by omega)))).trans (hgb 4 (by omega))
                        have y5 : wr.cell? ⟨gb, kk * 8 + 5, none⟩ = some (.bool true) := (hb8.cell (p := ⟨gb, kk * 8 + 5, none⟩) (World.block_lt_of_cell? _ _ (hgb 5 (by omega)))).trans (hgb 5 (by omega))
                        have y6 : wr.cell? ⟨gb, kk * 8 + 6, none⟩ = some (.string ⟨#[]⟩) := (hb8.cell (p := ⟨gb, kk * 8 + 6, none⟩) (World.block_lt_of_cell? _ _ (hgb 6 (by omega)))).trans (hgb 6 (by omega))
                        have y7 : wr.cell? ⟨gb, kk * 8 + 7, none⟩ = some (.int .i64 0) := (hb8.cell (p := ⟨gb, kk * 8 + 7, none⟩) (World.block_lt_of_cell? _ _ (hgb 7 (by omega)))).trans (hgb 7 (by omega))
                        clear hW hpt hb8 hgb ho
                        go_wp2
                        obtain ⟨wq, hwq⟩ : ∃ wq, wq = wr.alloc (.cells #[.int .u8 0, .string ⟨#[]⟩, .int .u8 0, .int .u16 0, .pointer none, .bool true, .string ⟨#[]⟩, .int .i64 0] 47) := ⟨_, rfl⟩
                        rw [← hwq]
                        have hWq : Want w6 wq (.slice va (pos (kP b) (cs2.take kk)).length vc) (pos (kP b) (cs2.take kk)) := by rw [hwq]; exact (unhide HW).alloc _
                        have x5 : wq.cell? ⟨wr.heap.size, 5, none⟩ = some (.bool true) := by rw [hwq]; exact cell_of (heap_alloc_new wr _) rfl
                        have HWQ := hide hWq
                        clear hwq hWq y0 y1 y2 y3 y4 y5 y6 y7
                        go_quiet (fail)
                        go_wp2
                        go_roundw
                        case rel =>
                          refine ⟨kk + 1, hkl, by go_num, ?_⟩
                          have h := unhide HPT
                          simp only [hitO, Bool.false_eq_true, if_false, List.append_nil] at h
                          rw [h]
                          exact (unhide HWQ).draw _
                        case measure => simp [intOf]; omega
                      | some el =>
                        have y0 : wr.cell? ⟨gb, kk * 8, none⟩ = some (.int .u8 el.ns) := (hb8.cell (p := ⟨gb, kk * 8, none⟩) (World.block_lt_of_cell? _ _ (hgb 0 (by omega)))).trans (hgb 0 (by omega))
                        have y1 : wr.cell? ⟨gb, kk * 8 + 1, none⟩ = some (.string (tblName el.nm)) := (hb8.cell (p := ⟨gb, kk * 8 + 1, none⟩) (World.block_lt_of_cell? _ _ (hgb 1 (by omega)))).trans (hgb 1 (by omega))
                        have y2 : wr.cell? ⟨gb, kk * 8 + 2, none⟩ = some (.int .u8 0) := (hb8.cell (p := ⟨gb, kk * 8 + 2, none⟩) (World.block_lt_of_cell? _ _ (hgb 2 (by omega)))).trans (hgb 2 (by omega))
                        have y3 : wr.cell? ⟨gb, kk * 8 + 3, none⟩ = some (.int .u16 el.kd) := (hb8.cell (p := ⟨gb, kk * 8 + 3, none⟩) (World.block_lt_of_cell? _ _ (hgb 3 (by omega)))).trans (hgb 3 (by omega))
                        have y4 : wr.cell? ⟨gb, kk * 8 + 4, none⟩ = some (.pointer (some ⟨el.en, 0, none⟩)) := (hb8.cell (p := ⟨gb, kk * 8 + 4, none⟩) (World.block_lt_of_cell? _ _ (hgb 4 (by omega)))).trans (hgb 4 (by omega))
                        have y5 : wr.cell? ⟨gb, kk * 8 + 5, none⟩ = some (.bool false) := (hb8.cell (p := ⟨gb, kk * 8 + 5, none⟩) (World.block_lt_of_cell? _ _ (hgb 5 (by omega)))).trans (hgb 5 (by omega))
                        have y6 : wr.cell? ⟨gb, kk * 8 + 6, none⟩ = some (.string ⟨#[]⟩) := (hb8.cell (p := ⟨gb, kk * 8 + 6, none⟩) (World.block_lt_of_cell? _ _ (hgb 6 (by omega)))).trans (hgb 6 (by omega))
                        have y7 : wr.cell? ⟨gb, kk * 8 + 7, none⟩ = some (.int .i64 el.bk) := (hb8.cell (p := ⟨gb, kk * 8 + 7, none⟩) (World.block_lt_of_cell? _ _ (hgb 7 (by omega)))).trans (hgb 7 (by omega))
                        clear hW hpt hb8 hgb ho
                        go_wp2
                        obtain ⟨wq, hwq⟩ : ∃ wq, wq = wr.alloc (.cells #[.int .u8 el.ns, .string (tblName el.nm), .int .u8 0, .int .u16 el.kd, .pointer (some ⟨el.en, 0, none⟩), .bool false, .string ⟨#[]⟩, .int .i64 el.bk] 47) := ⟨_, rfl⟩
                        rw [← hwq]
                        have hWq : Want w6 wq (.slice va (pos (kP b) (cs2.take kk)).length vc) (pos (kP b) (cs2.take kk)) := by rw [hwq]; exact (unhide HW).alloc _
                        have x5 : wq.cell? ⟨wr.heap.size, 5, none⟩ = some (.bool false) := by rw [hwq]; exact cell_of (heap_alloc_new wr _) rfl
                        have x3 : wq.cell? ⟨wr.heap.size, 3, none⟩ = some (.int .u16 el.kd) := by rw [hwq]; exact cell_of (heap_alloc_new wr _) rfl
                        obtain ⟨X, hX⟩ : ∃ X, X = wr.heap.size := ⟨_, rfl⟩
                        rw [← hX] at x5 x3 ⊢
                        have HWQ := hide hWq
                        clear hwq hWq y0 y1 y2 y3 y4 y5 y6 y7 hX
                        cases hkp : kp b el.kd with
                        | false =>
                          have ht : (bits BinOp.and IntKind.u16 (bits BinOp.and IntKind.u16 (el.kd : Int) (IntKind.u16.wrap (2 ^ b))) 127 != 0) = false := hkp
                          have HKP := hide hkp
                          clear hkp
                          go_quiet (fail)
                          go_wp2
                          go_roundw
                          case rel =>
                            refine ⟨kk + 1, hkl, by go_num, ?_⟩
                            have h := unhide HPT
                            rw [show hitO (kP b) (some el) = false from (show kp b el.kd = false from unhide HKP)] at h
                            simp only [Bool.false_eq_true, if_false, List.append_nil] at h
                            rw [h]
                            exact (unhide HWQ).draw _
                          case measure => simp [intOf]; omega
                        | true =>
                          have ht : (bits BinOp.and IntKind.u16 (bits BinOp.and IntKind.u16 (el.kd : Int) (IntKind.u16.wrap (2 ^ b))) 127 != 0) = true := hkp
                          have HKP := hide hkp
                          clear hkp
                          go_quiet (fail)
                          obtain ⟨wp, hwp⟩ : ∃ wp, wp = wq.drewN nq := ⟨_, rfl⟩
                          rw [← hwp]
                          have hWp : Want w6 wp (.slice va (pos (kP b) (cs2.take kk)).length vc) (pos (kP b) (cs2.take kk)) := by rw [hwp]; exact (unhide HWQ).draw _
                          obtain ⟨i0, hi0, hz0, hz1, hz2⟩ := info_parts Yba.info3
                          have hDl := hWp.below.size
                          have hlen8 : (pos (kP b) (cs2.take kk)).length ≤ 1024 := Nat.le_trans (pos_len _ _) (by rw [List.length_take]; have := (unhide HF6).lim; have := (unhide HF6).len; omega)
                          have HWP := hide hWp
                          clear hWp hwp x5 x3 HWQ
                          go_wp2_with (at_builtin; refine wpList_append_own _ rfl _ _ 30 rfl w6.heap.size 3 i0 (.int .i64 0) 1 8 Yba.underlying30 hi0 hz0 hz1 hz2 rfl (by decide) _ _ _ rfl ((unhide HWP).own.alloc _) ⟨wp.heap.size, 0, none⟩ 1 1 [.int .i64 kk] rfl rfl (cell_one_new wp _ _) (one_int kk) (by unfold maxLen; omega) (by omega) (by simp; omega) ?_)
                          intro v' w9 hown hgrow hnz
                          obtain ⟨va', vc', rfl⟩ := form_slice hown
                          have hW9 := ((unhide HWP).alloc _).snoc hown hgrow ⟨va', vc', rfl⟩
                          have HW9 := hide hW9
                          clear hown hgrow hnz hW9
                          go_wp2
                          go_roundw
                          case rel =>
                            refine ⟨kk + 1, hkl, by go_num, ?_⟩
                            have h := unhide HPT
                            rw [show hitO (kP b) (some el) = true from (show kp b el.kd = true from unhide HKP), if_pos rfl] at h
                            rw [h]
                            exact unhide HW9
                          case measure => simp [intOf]; omega
                  as_aux_lemma =>
                    obtain rfl : kk = t := by omega
                    obtain ⟨v2', l1, l2, l3⟩ := (unhide HF6).inv.listed.kind b hbl
                    have lS := (unhide HF6).inv.listed.ltS
                    obtain ⟨ea, ec, rfl⟩ := form_slice l2
                    obtain ⟨wa, wc', rfl⟩ := hW.row
                    have cm := (hW.below.cell (p := ⟨N + 1, 5 + b, none⟩) lS).trans l1
                    have hlen9 : (pos (kP b) (cs2.take kk)).length ≤ 4096 := Nat.le_trans (pos_len _ _) (by rw [List.length_take]; have := (unhide HF6).lim; have := (unhide HF6).len; omega)
                    have heq := equal_same N w6.heap.size _ ec wc' ea wa (pos (kP b) (cs2.take kk)) wr rfl hlen9 (ownsRow_same l2 (fun g hg => hW.below.block g (l2.lt g hg).2)) hW.own
                    have HEQ := hide heq
                    have HWB := hide hW.below
                    clear heq hW l1 l2 l3 hkl hkt
                    go_wp2_with fail
                    refine (unhide HEQ).mono ?_
                    rintro e wz ⟨rfl, q8, rfl⟩
                    go_wp2
                    go_roundw
                    case rel => exact ⟨b + 1, hbl, by go_num, (unhide HWB).trans ⟨rfl, rfl, rfl, Nat.le_refl _, fun _ _ => rfl⟩⟩
                    case measure => simp [intOf]; omega
              as_aux_lemma =>
                obtain rfl : b = 16 := by omega
                have HB9 := hide hb8
                clear hb8 hbl hb16 HB7
                go_wp2
                rw [show ((16 : Nat) : Int) = 16 from rfl]
                go_loopw [31] (fun a wx => ∃ blk : Nat, 1 ≤ blk ∧ blk ≤ 3 ∧ a = .int .i64 blk ∧ Below w6.heap.size w6 wx) (fun a _ => 3 - (intOf a).toNat)
                case atStart => exact ⟨1, by omega, by omega, rfl, unhide HB9⟩
                case round =>
                obtain ⟨blk, hb1, hb3, rfl, hb8⟩ := hrel
                by_cases hbl : blk ≤ 2
                · as_aux_lemma =>
                    have hba : (0 : Int) ≤ (blk : Int) := by omega
                    have hbb : (blk : Int) ≤ 2 := by omega
                    have HB8 := hide hb8
                    clear hb8
                    go_wp2
                    go_loopw [32, 33] (fun v a wx => ∃ kk c : Nat, kk ≤ t ∧ a = .int .i64 kk ∧ v = .int .i64 c ∧ c = (pos (bP blk) (cs2.take kk)).length ∧ Below w6.heap.size w6 wx) (fun _ a _ => t - (intOf a).toNat)
                    case atStart => exact ⟨0, 0, Nat.zero_le _, rfl, rfl, by rw [List.take_zero]; rfl, unhide HB8⟩
                    case round =>
                    obtain ⟨kk, c, hkt, rfl, rfl, hc, hb8⟩ := hrel
                    by_cases hkl : kk < t
                    · as_aux_lemma =>
                        obtain ⟨o, ho⟩ : ∃ o, cs2[kk]? = some o := ⟨_, List.getElem?_eq_getElem (by rw [(unhide HF6).len]; omega)⟩
                        obtain ⟨gb, rfl, hgb⟩ := (unhide HF6).bef kk o ho
                        have hkb : (kk : Int) < (t : Int) := by omega
                        have hcl : c ≤ 1024 := by rw [hc]; exact Nat.le_trans (pos_len _ _) (by rw [List.length_take]; have := (unhide HF6).lim; have := (unhide HF6).len; omega)
                        have hpt := pos_take (bP blk) cs2 kk o ho
                        have hkn : kk < k := by omega
                        have HB := hide hb8
                        have HC := hide hc
                        have HPT := hide hpt
                        cases o with
                        | none =>
                          have y0 : wr.cell? ⟨gb, kk * 8, none⟩ = some (.int .u8 0) := (hb8.cell (p := ⟨gb, kk * 8, none⟩) (World.block_lt_of_cell? _ _ (hgb 0 (by omega)))).trans (hgb 0 (by omega))
                          have y1 : wr.cell? ⟨gb, kk * 8 + 1, none⟩ = some (.string ⟨#[]⟩) := (hb8.cell (p := ⟨gb, kk * 8 + 1, none⟩) (World.block_lt_of_cell? _ _ (hgb 1 (by omega)))).trans (hgb 1 (by omega))
                          have y2 : wr.cell? ⟨gb, kk * 8 + 2, none⟩ = some (.int .u8 0) := (hb8.cell (p := ⟨gb, kk * 8 + 2, none⟩) (World.block_lt_of_cell? _ _ (hgb 2 (by omega)))).trans (hgb 2 (by omega))
                          have y3 : wr.cell? ⟨gb, kk * 8 + 3, none⟩ = some (.int .u16 0) := (hb8.cell (p := ⟨gb, kk * 8 + 3, none⟩) (World.block_lt_of_cell? _ _ (hgb 3 (by omega)))).trans (hgb 3 (by omega))
                          have y4 : wr.cell? ⟨gb, kk * 8 + 4, none⟩ = some (.pointer none) := (hb8.cell (p := ⟨gb, kk * 8 + 4, none⟩) (World.block_lt_of_cell? _ _ (hgb 4 (by omega)))).trans (hgb 4 (by omega))
                          have y5 : wr.cell? ⟨gb, kk * 8 + 5, none⟩ = some (.bool true) := (hb8.cell (p := ⟨gb, kk * 8 + 5, none⟩) (World.block_lt_of_cell? _ _ (hgb 5 (by omega)))).trans (hgb 5 (by omega))
                          have y6 : wr.cell? ⟨gb, kk * 8 + 6, none⟩ = some (.string ⟨#[]⟩) := (hb8.cell (p := ⟨gb, kk * 8 + 6, none⟩) (World.block_lt_of_cell? _ _ (hgb 6 (by omega)))).trans (hgb 6 (by omega))
                          have y7 : wr.cell? ⟨gb, kk * 8 + 7, none⟩ = some (.int .i64 0) := (hb8.cell (p := ⟨gb, kk * 8 + 7, none⟩) (World.block_lt_of_cell? _ _ (hgb 7 (by omega)))).trans (hgb 7 (by omega))
                          clear hc hpt hb8 hgb ho y0 y1 y2 y3 y4 y6
                          go_wp2
                          refine ⟨?rel, ?measure⟩
                          case rel =>
                            refine ⟨kk + 1, c, hkl, by go_num, rfl, ?_, unhide HB⟩
                            have h := unhide HPT
                            simp only [hitO, Bool.false_eq_true, if_false, List.append_nil] at h
                            rw [h]
                            exact unhide HC
                          case measure => simp [intOf]; omega
                        | some el =>
                          have y0 : wr.cell? ⟨gb, kk * 8, none⟩ = some (.int .u8 el.ns) := (hb8.cell (p := ⟨gb, kk * 8, none⟩) (World.block_lt_of_cell? _ _ (hgb 0 (by omega)))).trans (hgb 0 (by omega))
                          have y1 : wr.cell? ⟨gb, kk * 8 + 1, none⟩ = some (.string (tblName el.nm)) := (hb8.cell (p := ⟨gb, kk * 8 + 1, none⟩) (World.block_lt_of_cell? _ _ (hgb 1 (by omega)))).trans (hgb 1 (by omega))
                          have y2 : wr.cell? ⟨gb, kk * 8 + 2, none⟩ = some (.int .u8 0) := (hb8.cell (p := ⟨gb, kk * 8 + 2, none⟩) (World.block_lt_of_cell? _ _ (hgb 2 (by omega)))).trans (hgb 2 (by omega))
                          have y3 : wr.cell? ⟨gb, kk * 8 + 3, none⟩ = some (.int .u16 el.kd) := (hb8.cell (p := ⟨gb, kk * 8 + 3, none⟩) (World.block_lt_of_cell? _ _ (hgb 3 (by omega)))).trans (hgb 3 (by omega))
                          have y4 : wr.cell? ⟨gb, kk * 8 + 4, none⟩ = some (.pointer (some ⟨el.en, 0, none⟩)) := (hb8.cell (p := ⟨gb, kk * 8 + 4, none⟩) (World.block_lt_of_cell? _ _ (hgb 4 (by omega)))).trans (hgb 4 (by omega))
                          have y5 : wr.cell? ⟨gb, kk * 8 + 5, none⟩ = some (.bool false) := (hb8.cell (p := ⟨gb, kk * 8 + 5, none⟩) (World.block_lt_of_cell? _ _ (hgb 5 (by omega)))).trans (hgb 5 (by omega))
                          have y6 : wr.cell? ⟨gb, kk * 8 + 6, none⟩ = some (.string ⟨#[]⟩) := (hb8.cell (p := ⟨gb, kk * 8 + 6, none⟩) (World.block_lt_of_cell? _ _ (hgb 6 (by omega)))).trans (hgb 6 (by omega))
                          have y7 : wr.cell? ⟨gb, kk * 8 + 7, none⟩ = some (.int .i64 el.bk) := (hb8.cell (p := ⟨gb, kk * 8 + 7, none⟩) (World.block_lt_of_cell? _ _ (hgb 7 (by omega)))).trans (hgb 7 (by omega))
                          clear hc hpt hb8 hgb ho y0 y1 y2 y3 y4 y6
                          cases hkp : bP blk el with
                          | false =>
                            have ht : (((el.bk : Nat) : Int) == ((blk : Nat) : Int)) = false := by
                              have h : (el.bk == blk) = false := hkp
                              have h2 : el.bk ≠ blk := by simpa using h
                              have h3 : ((el.bk : Nat) : Int) ≠ ((blk : Nat) : Int) := by omega
                              simpa using h3
                            have HKP := hide hkp
                            clear hkp
                            go_wp2
                            refine ⟨?rel, ?measure⟩
                            case rel =>
                              refine ⟨kk + 1, c, hkl, by go_num, rfl, ?_, unhide HB⟩
                              have h := unhide HPT
                              rw [show hitO (bP blk) (some el) = false from (show bP blk el = false from unhide HKP)] at h
                              simp only [Bool.false_eq_true, if_false, List.append_nil] at h
                              rw [h]
                              exact unhide HC
                            case measure => simp [intOf]; omega
                          | true =>
                            have ht : (((el.bk : Nat) : Int) == ((blk : Nat) : Int)) = true := by
                              have h : (el.bk == blk) = true := hkp
                              have h2 : el.bk = blk := by simpa using h
                              have h3 : ((el.bk : Nat) : Int) = ((blk : Nat) : Int) := by omega
                              simpa using h3
                            have HKP := hide hkp
                            clear hkp
                            go_wp2
                            refine ⟨?rel, ?measure⟩
                            case rel =>
                              refine ⟨kk + 1, c + 1, hkl, by go_num, by go_num, ?_, unhide HB⟩
                              have h := unhide HPT
                              rw [show hitO (bP blk) (some el) = true from (show bP blk el = true from unhide HKP), if_pos rfl] at h
                              rw [h, List.length_append, ← unhide HC]
                              rfl
                            case measure => simp [intOf]; omega
                    as_aux_lemma =>
                      obtain rfl : kk = t := by omega
                      obtain ⟨go, gc, o1, o2, o3⟩ := opened_cells (unhide HF6).inv.listed
                      have p1 := (hb8.cell (p := ⟨N + 1, 22, none⟩) (World.block_lt_of_cell? _ _ o1)).trans o1
                      have p2 := (hb8.cell (p := ⟨go, 0, none⟩) (World.block_lt_of_cell? _ _ o2)).trans o2
                      have p3 := (hb8.cell (p := ⟨go, 1, none⟩) (World.block_lt_of_cell? _ _ o3)).trans o3
                      have HB := hide hb8
                      clear o1 o2 o3 hb8 hkl hkt
                      obtain rfl | rfl : blk = 1 ∨ blk = 2 := by omega
                      · rw [← hc] at p2
                        clear p3 hc
                        go_wp2
                        go_roundw
                        case rel => exact ⟨2, by omega, by omega, by go_num, unhide HB⟩
                        case measure => simp [intOf]
                      · rw [← hc] at p3
                        clear p2 hc
                        go_wp2
                        go_roundw
                        case rel => exact ⟨3, by omega, by omega, by go_num, unhide HB⟩
                        case measure => simp [intOf]
                as_aux_lemma =>
                  obtain rfl : blk = 3 := by omega
                  have HB10 := hide hb8
                  clear hb8 hbl hb1 hb3 HB9
                  go_wp2
                  go_ret
                  refine ⟨rfl, ?_⟩
                  have hbw := (unhide HF6).below
                  have hsz : w.heap.size ≤ w6.heap.size := hbw.size
                  exact (hbw.mono (by omega)).trans ((unhide HB10).mono hsz)

end Go.Proofs.Ybulkapxu
