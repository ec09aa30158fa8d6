import Derived.Test.YbulkapzyTwoC
import Derived.Deep.CutRange
import Derived.Deep.CutBlock
namespace Go.Proofs.Ybulkapzy
open Go.RowKit

def sAlice : ByteArray := ⟨#[97, 108, 105, 99, 101]⟩
def sBob : ByteArray := ⟨#[98, 111, 98]⟩
def sC1 : ByteArray := ⟨#[99, 49]⟩
def sC2 : ByteArray := ⟨#[99, 50]⟩
def pty (i : Nat) : ByteArray := if i % 2 = 0 then sAlice else sBob

theorem bparty (i : Nat) (w : World) : Calls Yba.prog 14 #[.int .u8 i] w fun e w' => e = .returned (.string (pty i)) ∧ w' = w := by
  unfold pty
  by_cases h : i % 2 = 0
  · rw [if_pos h]
    have h2 : ((i : Int).tmod 2 == 0) = true := by rw [beq_iff_eq, Int.tmod_eq_emod_of_nonneg (by omega)]; omega
    go_enter Yba.func14, Yba.ntmps14
    go_wp2
    go_ret
    exact ⟨rfl, rfl⟩
  · rw [if_neg h]
    have h2 : ((i : Int).tmod 2 == 0) = false := by rw [beq_eq_false_iff_ne, Int.tmod_eq_emod_of_nonneg (by omega)]; omega
    go_enter Yba.func14, Yba.ntmps14
    go_wp2
    go_ret
    exact ⟨rfl, rfl⟩

theorem setB_alloc' (w : World) (o o' : Obj) : setB (w.alloc o) w.heap.size o' = w.alloc o' := by
  have e1 : (w.alloc o).heap = w.heap.push o := rfl
  have e2 : (w.alloc o').heap = w.heap.push o' := rfl
  unfold setB
  rw [e1]
  have : (w.heap.push o).setIfInBounds w.heap.size o' = w.heap.push o' := by
    apply Array.ext'
    simp [Array.setIfInBounds]
  rw [this]
  rfl

theorem put_one (w : World) (k : ByteArray) (v : Value) :
    (Instr.mapUpdate 56 (.map (some w.heap.size)) (.string k) v).run Yba.prog (w.alloc (.map #[] 0)) = .ok () (w.alloc (.map #[{ key := .string k, val := v, born := 0 }] 1)) := by
  rw [upd_new (P := Yba.prog) Yba.underlying56 Yba.underlying9 (str_key k) (heap_alloc_new w _) rfl, setB_alloc']
  rfl
theorem put_two (w : World) (k k2 : ByteArray) (v v2 : Value) (h : k2 ≠ k) :
    (Instr.mapUpdate 56 (.map (some w.heap.size)) (.string k2) v2).run Yba.prog (w.alloc (.map #[{ key := .string k, val := v, born := 0 }] 1)) = .ok () (w.alloc (.map #[{ key := .string k, val := v, born := 0 }, { key := .string k2, val := v2, born := 1 }] 2)) := by
  rw [upd_new (P := Yba.prog) Yba.underlying56 Yba.underlying9 (str_key k2) (heap_alloc_new w _) ((fn_skip h _ _ _ _).trans rfl), setB_alloc']
  rfl

def q2Cells (pr p1 p2 m1 m2 c1 c2 s1 s2 z1 z2 q1 q2 : Nat) : Array Value :=
  #[.int .u16 pr, .int .u8 p1, .int .u8 p2, .int .u8 m1, .int .u8 m2, .int .u8 c1, .int .u8 c2, .int .u8 s1, .int .u8 s2, .int .u64 z1, .int .u64 z2, .int .u64 q1, .int .u64 q2]

def eng2Cells (N : Nat) (ov : Value) : Array Value :=
  #[.map (some (N + 3)), .map none, ov, .int .u64 0, .slice none 0 0, .slice none 0 0, .nilFunc, .slice none 0 0]

/-- The first loop's state: k orders laid. -/
structure Pre2 (w wr : World) (N n k : Nat) (qc : Array Value) : Prop where
  q : wr.heap[N]? = some (.cells qc 99 (0, 0))
  m : ∀ d, wr.heap[mBlk N d]? = some (.cells (mk2Cells N d) 54 (0, 0))
  mp : wr.heap[N + 3]? = some (.map (mks2 N) 2)
  e : wr.heap[N + 4]? = some (.cells (eng2Cells N (.slice none 0 0)) 66 (0, 0))
  size : wr.heap.size = N + 6 + k
  pool : wr.rowIs (N + 5) 78 n (fun i => if i < k then .pointer (some ⟨N + 6 + i, 0, none⟩) else .pointer none)
  below : Below N w wr

theorem heap_at' (w : World) (o : Obj) (k : Nat) (h : w.heap.size = k) : (w.alloc o).heap[k]? = some o := by
  rw [← h]; exact heap_alloc_new w o
theorem heap_past' (w : World) (o : Obj) (k n : Nat) (hn : w.heap.size = n) (h : k < n) : (w.alloc o).heap[k]? = w.heap[k]? := Below.heap_alloc _ _ _ (by omega)

theorem Pre2.start (w : World) (N n : Nat) (hN : w.heap.size = N) (qc : Array Value) :
    Pre2 w ((((((w.alloc (.cells qc 99)).alloc (.cells (mk2Cells N false) 54)).alloc (.cells (mk2Cells N true) 54)).alloc (.map (mks2 N) 2)).alloc (.cells (eng2Cells N (.slice none 0 0)) 66)).alloc (.cells (madeCells #[.pointer none] n) 78)) N n 0 qc := by
  obtain ⟨w1, h1⟩ : ∃ w1, w1 = w.alloc (.cells qc 99) := ⟨_, rfl⟩
  obtain ⟨w2, h2⟩ : ∃ w2, w2 = w1.alloc (.cells (mk2Cells N false) 54) := ⟨_, rfl⟩
  obtain ⟨w3, h3⟩ : ∃ w3, w3 = w2.alloc (.cells (mk2Cells N true) 54) := ⟨_, rfl⟩
  obtain ⟨w4, h4⟩ : ∃ w4, w4 = w3.alloc (.map (mks2 N) 2) := ⟨_, rfl⟩
  obtain ⟨w5, h5⟩ : ∃ w5, w5 = w4.alloc (.cells (eng2Cells N (.slice none 0 0)) 66) := ⟨_, rfl⟩
  obtain ⟨w6, h6⟩ : ∃ w6, w6 = w5.alloc (.cells (madeCells #[.pointer none] n) 78) := ⟨_, rfl⟩
  rw [← h1, ← h2, ← h3, ← h4, ← h5, ← h6]
  have s1 : w1.heap.size = N + 1 := by rw [h1]; simp [hN]
  have s2 : w2.heap.size = N + 2 := by rw [h2]; simp [s1]
  have s3 : w3.heap.size = N + 3 := by rw [h3]; simp [s2]
  have s4 : w4.heap.size = N + 4 := by rw [h4]; simp [s3]
  have s5 : w5.heap.size = N + 5 := by rw [h5]; simp [s4]
  have s6 : w6.heap.size = N + 6 := by rw [h6]; simp [s5]
  have b1 : ∀ k, k < N + 1 → w6.heap[k]? = w1.heap[k]? := fun k hk => by
    rw [h6, heap_past' _ _ _ _ s5 (by omega), h5, heap_past' _ _ _ _ s4 (by omega), h4, heap_past' _ _ _ _ s3 (by omega), h3, heap_past' _ _ _ _ s2 (by omega), h2, heap_past' _ _ _ _ s1 (by omega)]
  refine ⟨?_, ?_, ?_, ?_, s6, ?_, ?_⟩
  · rw [b1 _ (by omega), h1, heap_at' _ _ _ hN]
  · intro d
    cases d
    · show w6.heap[N + 1]? = _
      rw [h6, heap_past' _ _ _ _ s5 (by omega), h5, heap_past' _ _ _ _ s4 (by omega), h4, heap_past' _ _ _ _ s3 (by omega), h3, heap_past' _ _ _ _ s2 (by omega), h2, heap_at' _ _ _ s1]
    · show w6.heap[N + 2]? = _
      rw [h6, heap_past' _ _ _ _ s5 (by omega), h5, heap_past' _ _ _ _ s4 (by omega), h4, heap_past' _ _ _ _ s3 (by omega), h3, heap_at' _ _ _ s2]
  · rw [h6, heap_past' _ _ _ _ s5 (by omega), h5, heap_past' _ _ _ _ s4 (by omega), h4, heap_at' _ _ _ s3]
  · rw [h6, heap_past' _ _ _ _ s5 (by omega), h5, heap_at' _ _ _ s4]
  · have h := World.rowIs_made w5 (.pointer none) n 78
    rw [← h6, s5] at h
    exact h.congr (fun i _ => by simp)
  · rw [h6, h5, h4, h3, h2, h1]
    exact ((((((Below.refl _ _).alloc (by omega) _).alloc (by simp; omega) _).alloc (by simp; omega) _).alloc (by simp; omega) _).alloc (by simp; omega) _).alloc (by simp; omega) _

theorem Pre2.step {w wr : World} {N n k : Nat} {qc : Array Value} (h : Pre2 w wr N n k qc) (o : Obj) :
    Pre2 w ((wr.setCell ⟨N + 5, k, none⟩ (.pointer (some ⟨wr.heap.size, 0, none⟩))).alloc o) N n (k + 1) qc := by
  have hs := h.size
  have key : ∀ j, j < N + 5 → ((wr.setCell ⟨N + 5, k, none⟩ (.pointer (some ⟨wr.heap.size, 0, none⟩))).alloc o).heap[j]? = wr.heap[j]? := fun j hj => by
    rw [Below.heap_alloc _ _ _ (by simp [hs]; omega), Below.heap_setCell _ _ _ _ (by simp; omega)]
  refine ⟨(key _ (by omega)).trans h.q, fun d => (key _ (by have := (mBlk_bounds N d).2; omega)).trans (h.m d), (key _ (by omega)).trans h.mp, (key _ (by omega)).trans h.e, by simp [hs]; omega, ?_, ?_⟩
  · refine ((h.pool.set k _).alloc _).congr fun i hi => ?_
    by_cases e : i = k
    · subst e; simp [hs]
    · simp only [e, if_false]
      by_cases e2 : i < k
      · simp [e2, show i < k + 1 by omega]
      · simp [e2, show ¬ i < k + 1 by omega]
  · exact (h.below.setCell (p := ⟨N + 5, k, none⟩) (by simp) _).alloc (by simp [hs]; omega) _

/-- The orders that were there. -/
def oldRow (N n : Nat) : List Value := (List.range n).map fun i => .pointer (some ⟨N + 6 + i, 0, none⟩)

theorem oldRow_get (N n i : Nat) (h : i < n) : (oldRow N n)[i]? = some (.pointer (some ⟨N + 6 + i, 0, none⟩)) := by
  unfold oldRow
  rw [List.getElem?_map, List.getElem?_range h]
  rfl
theorem oldRow_len (N n : Nat) : (oldRow N n).length = n := by unfold oldRow; simp
theorem oldRow_ptr (N n : Nat) : ∀ v, v ∈ oldRow N n → ∃ q, v = .pointer q := by
  intro v hv
  unfold oldRow at hv
  obtain ⟨x, _, rfl⟩ := List.mem_map.1 hv
  exact ⟨_, rfl⟩

/-- The orders are copied into the engine. -/
structure Pre3 (w wr : World) (N n : Nat) (qc : Array Value) (ov : Value) : Prop where
  q : wr.heap[N]? = some (.cells qc 99 (0, 0))
  m : ∀ d, wr.heap[mBlk N d]? = some (.cells (mk2Cells N d) 54 (0, 0))
  mp : wr.heap[N + 3]? = some (.map (mks2 N) 2)
  e : wr.heap[N + 4]? = some (.cells (eng2Cells N ov) 66 (0, 0))
  pre : ∀ i, i < n → wr.cell? ⟨N + 5, i, none⟩ = some (.pointer (some ⟨N + 6 + i, 0, none⟩))
  row : wr.ownsRow (N + 6 + n) 78 1 ov n (oldRow N n)
  size : N + 6 + n ≤ wr.heap.size
  below : Below N w wr

theorem Pre3.of {w w6 w7 : World} {N n c : Nat} {a : Option Addr} {qc : Array Value} (h : Pre2 w w6 N n n qc) (hrow : w7.ownsRow (N + 6 + n) 78 1 (.slice a n c) n (oldRow N n)) (hb : Below (N + 6 + n) w6 w7) :
    Pre3 w (w7.setCell ⟨N + 4, 2, none⟩ (.slice a n c)) N n qc (.slice a n c) := by
  have hs := h.size
  have key : ∀ j, j < N + 6 + n → j ≠ N + 4 → (w7.setCell ⟨N + 4, 2, none⟩ (.slice a n c)).heap[j]? = w6.heap[j]? := fun j hj hn => by
    rw [Below.heap_setCell _ _ _ _ hn]; exact hb.block j hj
  refine ⟨(key _ (by omega) (by omega)).trans h.q, fun d => (key _ (by have := (mBlk_bounds N d).2; omega) (by have := (mBlk_bounds N d).2; omega)).trans (h.m d), (key _ (by omega) (by omega)).trans h.mp, ?_, fun i hi => ?_, ?_, ?_, ?_⟩
  · exact heap_setCell_same _ _ _ _ _ _ ((hb.block (N + 4) (by omega)).trans h.e)
  · have h1 := h.pool.cell hi
    simp only [hi, if_true] at h1
    exact (World.cell?_of_block (a := ⟨N + 5, i, none⟩) (key (N + 5) (by omega) (by omega))).trans h1
  · refine ownsRow_same hrow (fun k hk => Below.heap_setCell _ _ _ _ ?_)
    have := (hrow.lt k hk).1
    show k ≠ N + 4
    omega
  · have := hb.size
    simp
    omega
  · exact (h.below.trans (hb.mono (by omega))).setCell (p := ⟨N + 4, 2, none⟩) (by simp) _

def cName (c : Nat) : ByteArray := if c % 2 = 1 then sC2 else sC1

/-- The two lists of names. -/
structure Names2 (wr : World) (A : Nat) : Prop where
  mkt : ∀ d : Bool, wr.cell? ⟨A, if d then 1 else 0, none⟩ = some (.string (mkName d))
  cl : ∀ c : Nat, wr.cell? ⟨A + 1, c % 2, none⟩ = some (.string (cName c))

theorem Names2.of (w : World) (A : Nat) (h : w.heap.size = A) : Names2 ((w.alloc (.cells #[.string ⟨#[109, 48]⟩, .string ⟨#[109, 49]⟩] 100)).alloc (.cells #[.string ⟨#[99, 49]⟩, .string ⟨#[99, 50]⟩] 100)) A := by
  have h1 : ((w.alloc (.cells #[.string ⟨#[109, 48]⟩, .string ⟨#[109, 49]⟩] 100)).alloc (.cells #[.string ⟨#[99, 49]⟩, .string ⟨#[99, 50]⟩] 100)).heap[A]? = some (.cells #[.string ⟨#[109, 48]⟩, .string ⟨#[109, 49]⟩] 100 (0, 0)) := by
    rw [heap_past' _ _ _ (A + 1) (by simp [h]) (by omega), heap_at' _ _ _ h]
  have h2 : ((w.alloc (.cells #[.string ⟨#[109, 48]⟩, .string ⟨#[109, 49]⟩] 100)).alloc (.cells #[.string ⟨#[99, 49]⟩, .string ⟨#[99, 50]⟩] 100)).heap[A + 1]? = some (.cells #[.string ⟨#[99, 49]⟩, .string ⟨#[99, 50]⟩] 100 (0, 0)) := heap_at' _ _ _ (by simp [h])
  refine ⟨fun d => ?_, fun c => ?_⟩
  · cases d
    · exact cell_of h1 rfl
    · exact cell_of h1 rfl
  · unfold cName
    by_cases hc : c % 2 = 1
    · rw [if_pos hc, hc]; exact cell_of h2 rfl
    · rw [if_neg hc, show c % 2 = 0 by omega]; exact cell_of h2 rfl

/-- The rest of a number. -/
theorem tmod_nat (x m : Nat) : (x : Int).tmod (m : Int) = ((x % m : Nat) : Int) := by
  rw [Int.tmod_eq_emod_of_nonneg (by omega)]; omega

def isOdd (m : Nat) : Bool := decide (m % 2 = 1)
theorem odd_ix (m : Nat) : (if isOdd m then 1 else 0) = m % 2 := by
  unfold isOdd
  by_cases h : m % 2 = 1
  · simp [h]
  · simp [h]; omega

theorem wrap8 (b : Nat) (h : b < 2) : IntKind.u8.wrap (1 + (b : Int)) = 1 + (b : Int) := by rw [IntKind.wrap_u8]; omega
theorem wrapY (y : Nat) (h : y < 1000000000000) : IntKind.i64.wrap (1 + IntKind.i64.wrap (y : Int)) = 1 + (y : Int) := by rw [IntKind.wrap_i64, IntKind.wrap_i64]; omega

theorem pty_ok (i : Nat) : nameOk (pty i) = true := by
  unfold pty; split <;> decide +kernel
theorem cName_ok (i : Nat) : nameOk (cName i) = true := by
  unfold cName; split <;> decide +kernel

theorem refuse_ok (p c b y x : Nat) (hb : b < 2) (hy : y < 1000000000000) (hx : x < 1000000000000) : refuse (pty p) (cName c) (1 + (b : Int)) (1 + (y : Int)) (1 + (x : Int)) false 0 false 0 false = none := by
  unfold refuse
  rw [if_neg (by rw [pty_ok, cName_ok]; simp), if_neg (by omega), if_neg (by omega), if_neg (by omega), if_neg (by simp), if_neg (by simp)]
  rfl

theorem Pre3.base {w wr : World} {N n : Nat} {qc : Array Value} {ov : Value} (h : Pre3 w wr N n qc ov) : Base wr N := ⟨cell_of h.e rfl, cell_of h.e rfl, h.mp, h.m, fun _ => frozen_of h.e⟩

theorem Pre3.past {w wr w' : World} {N n : Nat} {qc : Array Value} {ov : Value} (h : Pre3 w wr N n qc ov) (hb : Below wr.heap.size wr w') : Pre3 w w' N n qc ov := by
  have hs := h.size
  have key : ∀ j, j < wr.heap.size → w'.heap[j]? = wr.heap[j]? := fun j hj => hb.block j hj
  refine ⟨(key _ (by omega)).trans h.q, fun d => (key _ (lt_of_block (h.m d))).trans (h.m d), (key _ (by omega)).trans h.mp, (key _ (by omega)).trans h.e, fun i hi => (hb.cell (p := ⟨N + 5, i, none⟩) (by simp; omega)).trans (h.pre i hi), ownsRow_same h.row (fun k hk => key _ (h.row.lt k hk).2), Nat.le_trans hs hb.size, h.below.trans (hb.mono (by omega))⟩

def req2Cells (d : Bool) (pa cl : ByteArray) (b y x : Nat) : Array Value :=
  #[.string (mkName d), .string pa, .string cl, .int .u8 (1 + (b : Int)), .int .i64 (1 + (y : Int)), .int .i64 (1 + (x : Int)), .bool false, .bool false, .int .u64 0]

theorem idWrap2 (k : Nat) (h : k < 300) : IntKind.u64.wrap (IntKind.i64.wrap ((k : Int) + 2)) = (k : Int) + 2 := by
  rw [IntKind.wrap_i64, IntKind.wrap_u64]
  omega

theorem isM1 (d : Bool) : ((mkName d).toList == [109, 49]) = d := by cases d <;> decide +kernel
theorem isM1b (d : Bool) : (mkName d == (⟨#[109, 49]⟩ : ByteArray)) = d := by cases d <;> decide +kernel

theorem neq_nil90 (mg : Option Addr) (d : Bool) (h : mg.isSome = d) (w : World) : (binOp .neq 90 (.pointer mg) (.pointer none)).run Yba.prog w = .ok (.bool d) w := by
  subst h
  cases mg <;> simp [go_sem, Yba.underlying90]

theorem Kept.below {w w' : World} {N b0 : Nat} (h : Kept w w' N b0) (hb : N ≤ b0) (hs : N ≤ w.heap.size) : Below N w w' :=
  ⟨h.os, h.tape, h.output, h.size, fun k hk => h.block k (by omega) (by omega) (.inl (by omega))⟩

theorem list_same {p q : ByteArray} (h : p = q) : (p.toList == q.toList) = true := by rw [h]; simp
theorem list_diff {p q : ByteArray} (h : p ≠ q) : (p.toList == q.toList) = false := by rw [← beq_toListBytes]; exact beq_diff h
theorem mk_diff {d e : Bool} (h : d ≠ e) : mkName d ≠ mkName e := by
  cases d <;> cases e <;> first | exact absurd rfl h | decide +kernel

theorem apart86 {w : World} {x y : Nat} {cx cy : Array Value} (hne : x ≠ y) (hx : w.heap[x]? = some (.cells cx 93 (0, 0))) (hy : w.heap[y]? = some (.cells cy 93 (0, 0))) :
    (binOp .neq 86 (.pointer (some ⟨x, 0, none⟩)) (.pointer (some ⟨y, 0, none⟩))).run Yba.prog w = .ok (.bool true) w :=
  neq_of_eql (eql_apart (tp := 86) (te := 93) Yba.underlying86 Yba.info93 (a := ⟨x, 0, none⟩) (b := ⟨y, 0, none⟩) (fun h => hne (by cases h; rfl)) hx hy)


set_option maxRecDepth 20000 in
set_option maxHeartbeats 4000000 in
theorem btwo (pr p1 p2 m1 m2 c1 c2 s1 s2 z1 z2 q1 q2 : Nat) (hpr : pr ≤ 65535) (N : Nat) (w : World) (hN : w.heap.size = N) :
    Calls Yba.prog 6 #[.agg (q2Cells pr p1 p2 m1 m2 c1 c2 s1 s2 z1 z2 q1 q2)] w fun e w' => e = .returned (.bool true) ∧ Below w.heap.size w w' := by
  unfold q2Cells
  have hmk := fun wq => run_makeMap (P := Yba.prog) 56 wq
  have hup : ∀ o1 o2 o3 v, (Instr.mapUpdate 56 (.map (some (N + 1 + 1 + 1))) (.string ⟨#[109, 48]⟩) v).run Yba.prog ((((w.alloc o1).alloc o2).alloc o3).alloc (.map #[] 0)) = .ok () ((((w.alloc o1).alloc o2).alloc o3).alloc (.map #[{ key := .string ⟨#[109, 48]⟩, val := v, born := 0 }] 1)) := by
    intro o1 o2 o3 v
    have h := put_one (((w.alloc o1).alloc o2).alloc o3) ⟨#[109, 48]⟩ v
    simpa [hN] using h
  have hup2 : ∀ o1 o2 o3 v v2, (Instr.mapUpdate 56 (.map (some (N + 1 + 1 + 1))) (.string ⟨#[109, 49]⟩) v2).run Yba.prog ((((w.alloc o1).alloc o2).alloc o3).alloc (.map #[{ key := .string ⟨#[109, 48]⟩, val := v, born := 0 }] 1)) = .ok () ((((w.alloc o1).alloc o2).alloc o3).alloc (.map #[{ key := .string ⟨#[109, 48]⟩, val := v, born := 0 }, { key := .string ⟨#[109, 49]⟩, val := v2, born := 1 }] 2)) := by
    intro o1 o2 o3 v v2
    have h := put_two (((w.alloc o1).alloc o2).alloc o3) ⟨#[109, 48]⟩ ⟨#[109, 49]⟩ v v2 (by decide +kernel)
    simpa [hN] using h
  obtain ⟨n, hn⟩ : ∃ n : Nat, n = pr % 300 := ⟨_, rfl⟩
  have hn1 : (pr : Int).tmod 300 = (n : Int) := by rw [hn, Int.tmod_eq_emod_of_nonneg (by omega)]; omega
  have hn300 : n < 300 := by omega
  have hmks := run_make_row' (P := Yba.prog) 47 78 (.pointer none) 8 Yba.underlying47 Yba.info78 rfl .i64 .i64 n (by omega) (by omega)
  clear hn
  go_enter Yba.func6, Yba.ntmps6
  go_wp2
  clear hmks hmk hup hup2 hn1
  go_loopw [8] (fun i wr => ∃ k : Nat, k ≤ n ∧ i = .int .i64 k ∧ Pre2 w wr N n k (q2Cells pr p1 p2 m1 m2 c1 c2 s1 s2 z1 z2 q1 q2)) (fun i _ => n - (intOf i).toNat)
  case atStart => exact ⟨0, Nat.zero_le _, rfl, Pre2.start w N n hN _⟩
  case round =>
  obtain ⟨k, hk, rfl, hP⟩ := hrel
  by_cases hlt : k < n
  · have hsz := hP.size
    have hfz := hP.pool.frozen k
    have hcl := hP.pool.cell hlt
    have hB : N + 5 < wr.heap.size := by omega
    have HP := hide hP
    clear hP hsz
    go_wp2
    go_roundw
    case rel => exact ⟨k + 1, hlt, by go_num, (unhide HP).step _⟩
    case measure => simp [intOf]; omega
  obtain rfl : k = n := by omega
  clear hlt hk
  have hsz := hP.size
  obtain ⟨i0, hi0, hz0, hz1, hz2⟩ := info_parts Yba.info78
  have hcells : ∀ j u, (oldRow N k)[j]? = some u → wr.cell? ((⟨N + 5, 0, none⟩ : Addr).add j) = some u := by
    intro j u hu
    have hj : j < k := by have := (List.getElem?_eq_some_iff.1 hu).1; rw [oldRow_len] at this; exact this
    rw [oldRow_get N k j hj] at hu
    rw [Addr.add_lit, Nat.zero_add]
    have h1 := hP.pool.cell hj
    simp only [hj, if_true] at h1
    exact h1.trans hu
  have e2 : wr.cell? ⟨N + 4, 2, none⟩ = some (.slice none 0 0) := cell_of hP.e rfl
  have ef : wr.frozen? ⟨N + 4, 2, none⟩ = false := frozen_of hP.e
  have HC := hide hcells
  have HP := hide hP
  have HE := hide e2
  have HF := hide ef
  clear hcells hP e2 ef
  go_wp2_with (at_builtin; refine wpList_append_own _ rfl _ _ 47 rfl (N + 6 + k) 78 i0 (.pointer none) 1 8 Yba.underlying47 hi0 hz0 hz1 hz2 rfl (by decide) _ 0 [] rfl ⟨by simp, .inl ⟨rfl, rfl⟩⟩ ⟨N + 5, 0, none⟩ k k (oldRow N k) rfl (by rw [oldRow_len]; omega) (unhide HC) (by intro u hu; obtain ⟨q, rfl⟩ := oldRow_ptr N k u hu; rfl) (by unfold maxLen; omega) (by omega) (Nat.le_of_eq hsz.symm) ?_)
  intro v' w7 hown hgrow hnz
  obtain ⟨a, c, hv⟩ : ∃ a c, v' = .slice a k c := by
    rcases hown.2 with ⟨h, h2⟩ | ⟨gb, cb, cur, h, _⟩
    · exact ⟨none, 0, by rw [h]; congr 1; omega⟩
    · exact ⟨some ⟨gb, 0, none⟩, cb, by rw [h]⟩
  subst hv
  have hb7 : Below (N + 6 + k) wr w7 := (Below.refl _ _).grown hgrow (Nat.le_of_eq hsz.symm) (by intro k hk; simp [Value.ownBlock] at hk)
  have hown2 : w7.ownsRow (N + 6 + k) 78 1 (.slice a k c) k (oldRow N k) := by simpa using hown
  have k2 := (hb7.cell (p := ⟨N + 4, 2, none⟩) (by simp; omega)).trans (unhide HE)
  have kf := (hb7.frozen (p := ⟨N + 4, 2, none⟩) (by simp; omega)).trans (unhide HF)
  have hP3 := Pre3.of (unhide HP) hown2 hb7
  have H3 := hide hP3
  clear hown hgrow hnz hb7 hown2 hP3 HC HP HE HF hsz
  go_upto_region 15 with fail
  obtain ⟨w8, hw8⟩ : ∃ w8, w8 = w7.setCell ⟨N + 4, 2, none⟩ (.slice a k c) := ⟨_, rfl⟩
  rw [← hw8] at H3 ⊢
  clear hw8 k2 kf
  have hq8 : w8.heap[N]? = _ := (unhide H3).q
  have hq8l := lt_of_block hq8
  have t1 : w8.cell? ⟨N, 1, none⟩ = some (.int .u8 p1) := cell_of hq8 rfl
  have t2 : w8.cell? ⟨N, 2, none⟩ = some (.int .u8 p2) := cell_of hq8 rfl
  clear hq8
  go_wp2_with fail
  refine (bparty p1 _).mono ?_
  rintro e w9 ⟨rfl, rfl⟩
  go_wp2_with fail
  refine (bparty p2 _).mono ?_
  rintro e w9 ⟨rfl, rfl⟩
  go_wp2
  obtain ⟨w10, hw10⟩ : ∃ w10, w10 = (w8.alloc (.cells #[.string ⟨#[109, 48]⟩, .string ⟨#[109, 49]⟩] 100)).alloc (.cells #[.string ⟨#[99, 49]⟩, .string ⟨#[99, 50]⟩] 100) := ⟨_, rfl⟩
  rw [← hw10]
  obtain ⟨A, hA⟩ : ∃ A, w8.heap.size = A := ⟨_, rfl⟩
  rw [hA]
  have hAlo : N + 6 + k ≤ A := by rw [← hA]; exact (unhide H3).size
  have hN10 : Names2 w10 A := by rw [hw10]; exact Names2.of w8 A hA
  have hb10 : Below w8.heap.size w8 w10 := by rw [hw10]; exact ((Below.refl _ _).alloc (Nat.le_refl _) _).alloc (by simp) _
  have hs10 : w10.heap.size = A + 2 := by rw [hw10]; simp [hA]
  have hq10 : w10.heap[N]? = some (.cells (q2Cells pr p1 p2 m1 m2 c1 c2 s1 s2 z1 z2 q1 q2) 99 (0, 0)) := (hb10.block N hq8l).trans (unhide H3).q
  clear t1 t2 hw10
  have t3 : w10.cell? ⟨N, 3, none⟩ = some (.int .u8 m1) := cell_of hq10 rfl
  have t5 : w10.cell? ⟨N, 5, none⟩ = some (.int .u8 c1) := cell_of hq10 rfl
  have t7 : w10.cell? ⟨N, 7, none⟩ = some (.int .u8 s1) := cell_of hq10 rfl
  have t9 : w10.cell? ⟨N, 9, none⟩ = some (.int .u64 z1) := cell_of hq10 rfl
  have t11 : w10.cell? ⟨N, 11, none⟩ = some (.int .u64 q1) := cell_of hq10 rfl
  have ta := hN10.mkt (isOdd m1)
  have tb := hN10.cl c1
  rw [odd_ix] at ta
  have ha1 : (m1 : Int).tmod 2 = ((m1 % 2 : Nat) : Int) := tmod_nat m1 2
  have ha2 : (c1 : Int).tmod 2 = ((c1 % 2 : Nat) : Int) := tmod_nat c1 2
  have ha3 : (s1 : Int).tmod 2 = ((s1 % 2 : Nat) : Int) := tmod_nat s1 2
  have ha4 : (z1 : Int).tmod 1000000000000 = ((z1 % 1000000000000 : Nat) : Int) := tmod_nat z1 1000000000000
  have ha5 : (q1 : Int).tmod 1000000000000 = ((q1 % 1000000000000 : Nat) : Int) := tmod_nat q1 1000000000000
  obtain ⟨j1, hj1⟩ : ∃ j1, j1 = m1 % 2 := ⟨_, rfl⟩
  obtain ⟨k1, hk1⟩ : ∃ k1, k1 = c1 % 2 := ⟨_, rfl⟩
  obtain ⟨b1, hb1⟩ : ∃ b1, b1 = s1 % 2 := ⟨_, rfl⟩
  obtain ⟨y1, hy1⟩ : ∃ y1, y1 = z1 % 1000000000000 := ⟨_, rfl⟩
  obtain ⟨x1, hx1⟩ : ∃ x1, x1 = q1 % 1000000000000 := ⟨_, rfl⟩
  rw [← hj1] at ha1 ta
  rw [← hk1] at ha2 tb
  rw [← hb1] at ha3
  rw [← hy1] at ha4
  rw [← hx1] at ha5
  have lj1 : j1 < 2 := by omega
  have lk1 : k1 < 2 := by omega
  have lb1 : b1 < 2 := by omega
  have ly1 : y1 < 1000000000000 := by omega
  have lx1 : x1 < 1000000000000 := by omega
  have lj1a : (0 : Int) ≤ (j1 : Int) := by omega
  have lj1b : (j1 : Int) < 2 := by omega
  have lk1a : (0 : Int) ≤ (k1 : Int) := by omega
  have lk1b : (k1 : Int) < 2 := by omega
  have HQ := hide hq10
  have HN10 := hide hN10
  have HB10 := hide hb10
  have HA := hide hA
  have HS10 := hide hs10
  clear hq10 hN10 hb10 hA hs10 hj1 hk1 hb1 hy1 hx1
  go_region_held3 (fun wx => wx.cell? ⟨N, 3, none⟩ = some (.int .u8 m1) ∧ wx.cell? ⟨N, 5, none⟩ = some (.int .u8 c1) ∧ wx.cell? ⟨N, 7, none⟩ = some (.int .u8 s1) ∧ wx.cell? ⟨N, 9, none⟩ = some (.int .u64 z1) ∧ wx.cell? ⟨N, 11, none⟩ = some (.int .u64 q1) ∧ wx.cell? ⟨A, j1, none⟩ = some (.string (mkName (isOdd m1))) ∧ wx.cell? ⟨A + 1, k1, none⟩ = some (.string (cName c1))) (go_keep) (fail)
  all_goals
    rw [wrap8 b1 lb1, wrapY y1 ly1, wrapY x1 lx1]
    obtain ⟨w11, hw11⟩ : ∃ w11, w11 = (w10.alloc (.cells (req2Cells (isOdd m1) (pty p1) (cName c1) b1 y1 x1) 73)).drew := ⟨_, rfl⟩
    have hw11' := hw11
    unfold req2Cells at hw11'
    rw [← hw11']
    clear hw11'
    rename_i hheld
    clear hheld t3 t5 t7 t9 t11 ta tb ha1 ha2 ha3 ha4 ha5
    rw [unhide HS10]
    have hb11 : Below w8.heap.size w8 w11 := by rw [hw11]; exact ((unhide HB10).alloc (unhide HB10).size _).drew
    have hR1 : w11.heap[A + 2]? = some (.cells (req2Cells (isOdd m1) (pty p1) (cName c1) b1 y1 x1) 73 (0, 0)) := by rw [hw11]; exact heap_at' w10 _ _ (unhide HS10)
    have hs11 : w11.heap.size = A + 3 := by rw [hw11]; show (w10.alloc _).heap.size = _; simp [unhide HS10]
    have hN11 : Names2 w11 A := by
      have hl : A + 1 < w10.heap.size := by rw [unhide HS10]; omega
      refine ⟨fun d => ?_, fun c => ?_⟩
      · rw [hw11]; exact (World.cell?_alloc_past _ _ _ (by show A < _; omega)).trans ((unhide HN10).mkt d)
      · rw [hw11]; exact (World.cell?_alloc_past _ _ _ hl).trans ((unhide HN10).cl c)
    have hq11 : w11.heap[N]? = some (.cells (q2Cells pr p1 p2 m1 m2 c1 c2 s1 s2 z1 z2 q1 q2) 99 (0, 0)) := (hb11.block N hq8l).trans (unhide H3).q
    have t4 : w11.cell? ⟨N, 4, none⟩ = some (.int .u8 m2) := cell_of hq11 rfl
    have t6 : w11.cell? ⟨N, 6, none⟩ = some (.int .u8 c2) := cell_of hq11 rfl
    have t8 : w11.cell? ⟨N, 8, none⟩ = some (.int .u8 s2) := cell_of hq11 rfl
    have t10 : w11.cell? ⟨N, 10, none⟩ = some (.int .u64 z2) := cell_of hq11 rfl
    have t12 : w11.cell? ⟨N, 12, none⟩ = some (.int .u64 q2) := cell_of hq11 rfl
    have ta := hN11.mkt (isOdd m2)
    have tb := hN11.cl c2
    rw [odd_ix] at ta
    have ha1 : (m2 : Int).tmod 2 = ((m2 % 2 : Nat) : Int) := tmod_nat m2 2
    have ha2 : (c2 : Int).tmod 2 = ((c2 % 2 : Nat) : Int) := tmod_nat c2 2
    have ha3 : (s2 : Int).tmod 2 = ((s2 % 2 : Nat) : Int) := tmod_nat s2 2
    have ha4 : (z2 : Int).tmod 1000000000000 = ((z2 % 1000000000000 : Nat) : Int) := tmod_nat z2 1000000000000
    have ha5 : (q2 : Int).tmod 1000000000000 = ((q2 % 1000000000000 : Nat) : Int) := tmod_nat q2 1000000000000
    obtain ⟨j2, hj2⟩ : ∃ j2, j2 = m2 % 2 := ⟨_, rfl⟩
    obtain ⟨k2, hk2⟩ : ∃ k2, k2 = c2 % 2 := ⟨_, rfl⟩
    obtain ⟨b2, hb2⟩ : ∃ b2, b2 = s2 % 2 := ⟨_, rfl⟩
    obtain ⟨y2, hy2⟩ : ∃ y2, y2 = z2 % 1000000000000 := ⟨_, rfl⟩
    obtain ⟨x2, hx2⟩ : ∃ x2, x2 = q2 % 1000000000000 := ⟨_, rfl⟩
    rw [← hj2] at ha1 ta
    rw [← hk2] at ha2 tb
    rw [← hb2] at ha3
    rw [← hy2] at ha4
    rw [← hx2] at ha5
    have lj2 : j2 < 2 := by omega
    have lk2 : k2 < 2 := by omega
    have lb2 : b2 < 2 := by omega
    have ly2 : y2 < 1000000000000 := by omega
    have lx2 : x2 < 1000000000000 := by omega
    have lj2a : (0 : Int) ≤ (j2 : Int) := by omega
    have lj2b : (j2 : Int) < 2 := by omega
    have lk2a : (0 : Int) ≤ (k2 : Int) := by omega
    have lk2b : (k2 : Int) < 2 := by omega
    have HR1 := hide hR1
    have HB11 := hide hb11
    have HS11 := hide hs11
    clear hR1 hb11 hs11 hN11 hq11 hw11 hj2 hk2 hb2 hy2 hx2 lj1a lj1b lk1a lk1b lj1 lk1
    go_wp2
    go_region_held3 (fun wx => wx.cell? ⟨N, 4, none⟩ = some (.int .u8 m2) ∧ wx.cell? ⟨N, 6, none⟩ = some (.int .u8 c2) ∧ wx.cell? ⟨N, 8, none⟩ = some (.int .u8 s2) ∧ wx.cell? ⟨N, 10, none⟩ = some (.int .u64 z2) ∧ wx.cell? ⟨N, 12, none⟩ = some (.int .u64 q2) ∧ wx.cell? ⟨A, j2, none⟩ = some (.string (mkName (isOdd m2))) ∧ wx.cell? ⟨A + 1, k2, none⟩ = some (.string (cName c2))) (go_keep) (fail)
    rw [wrap8 b2 lb2, wrapY y2 ly2, wrapY x2 lx2]
    obtain ⟨w12, hw12⟩ : ∃ w12, w12 = (w11.alloc (.cells (req2Cells (isOdd m2) (pty p2) (cName c2) b2 y2 x2) 73)).drew := ⟨_, rfl⟩
    have hw12' := hw12
    unfold req2Cells at hw12'
    rw [← hw12']
    clear hw12'
    rename_i hheld
    clear hheld t4 t6 t8 t10 t12 ta tb ha1 ha2 ha3 ha4 ha5
    rw [unhide HS11]
    have hb12 : Below w8.heap.size w8 w12 := by rw [hw12]; exact ((unhide HB11).alloc (unhide HB11).size _).drew
    have hR2 : w12.heap[A + 3]? = some (.cells (req2Cells (isOdd m2) (pty p2) (cName c2) b2 y2 x2) 73 (0, 0)) := by rw [hw12]; exact heap_at' w11 _ _ (unhide HS11)
    have hR1 : w12.heap[A + 2]? = some (.cells (req2Cells (isOdd m1) (pty p1) (cName c1) b1 y1 x1) 73 (0, 0)) := by rw [hw12]; exact (Below.heap_alloc _ _ _ (by rw [unhide HS11]; omega)).trans (unhide HR1)
    have hs12 : w12.heap.size = A + 4 := by rw [hw12]; show (w11.alloc _).heap.size = _; simp [unhide HS11]
    have hP12 := (unhide H3).past hb12
    have r0 : w12.cell? ⟨A + 2, 0, none⟩ = some (.string (mkName (isOdd m1))) := cell_of hR1 rfl
    have r1 : w12.cell? ⟨A + 2, 1, none⟩ = some (.string (pty p1)) := cell_of hR1 rfl
    have r2 : w12.cell? ⟨A + 2, 2, none⟩ = some (.string (cName c1)) := cell_of hR1 rfl
    have r3 : w12.cell? ⟨A + 2, 3, none⟩ = some (.int .u8 (1 + (b1 : Int))) := cell_of hR1 rfl
    have r4 : w12.cell? ⟨A + 2, 4, none⟩ = some (.int .i64 (1 + (y1 : Int))) := cell_of hR1 rfl
    have r5 : w12.cell? ⟨A + 2, 5, none⟩ = some (.int .i64 (1 + (x1 : Int))) := cell_of hR1 rfl
    have r6 : w12.cell? ⟨A + 2, 6, none⟩ = some (.bool false) := cell_of hR1 rfl
    have r7 : w12.cell? ⟨A + 2, 7, none⟩ = some (.bool false) := cell_of hR1 rfl
    have r8 : w12.cell? ⟨A + 2, 8, none⟩ = some (.int .u64 0) := cell_of hR1 rfl
    have HRa := hide hR1
    have HRb := hide hR2
    have HP12 := hide hP12
    have HS12 := hide hs12
    clear hb12 hR1 hR2 hs12 hw12 hP12 HR1 HB11 HS11 HQ HN10 HB10 HA HS10 H3 lj2a lj2b lk2a lk2b lj2 lk2
    go_wp2_with fail
    refine (acc1 (unhide HP12).base (cell_of (unhide HP12).e rfl) (cell_of (unhide HP12).e rfl) ⟨_, _, rfl⟩ (unhide HP12).row (unhide HP12).size (by omega) (oldRow_ptr N k) (fun e => by have := ((unhide HP12).row.lt _ e).1; omega) (isOdd m1) (pty p1) (cName c1) (1 + (b1 : Int)) (1 + (y1 : Int)) (1 + (x1 : Int)) (refuse_ok p1 c1 b1 y1 x1 lb1 ly1 lx1)).mono ?_
    rintro e w13 ⟨O1, h1, pb, gr, cr, gh, ch, mg, rfl, hOne⟩
    have o0 : w13.cell? ⟨O1, 0, none⟩ = some (.int .u64 ((k : Int) + 1)) := cell_of hOne.order rfl
    have hRb : w13.heap[A + 3]? = some (.cells (req2Cells (isOdd m2) (pty p2) (cName c2) b2 y2 x2) 73 (0, 0)) := (hOne.kept.block (A + 3) (lt_of_block (unhide HRb)) (by omega) (.inr (fun cur h => by rw [unhide HRb] at h; simp at h))).trans (unhide HRb)
    have v0 : w13.cell? ⟨A + 3, 0, none⟩ = some (.string (mkName (isOdd m2))) := cell_of hRb rfl
    have v1 : w13.cell? ⟨A + 3, 1, none⟩ = some (.string (pty p2)) := cell_of hRb rfl
    have v2 : w13.cell? ⟨A + 3, 2, none⟩ = some (.string (cName c2)) := cell_of hRb rfl
    have v3 : w13.cell? ⟨A + 3, 3, none⟩ = some (.int .u8 (1 + (b2 : Int))) := cell_of hRb rfl
    have v4 : w13.cell? ⟨A + 3, 4, none⟩ = some (.int .i64 (1 + (y2 : Int))) := cell_of hRb rfl
    have v5 : w13.cell? ⟨A + 3, 5, none⟩ = some (.int .i64 (1 + (x2 : Int))) := cell_of hRb rfl
    have v6 : w13.cell? ⟨A + 3, 6, none⟩ = some (.bool false) := cell_of hRb rfl
    have v7 : w13.cell? ⟨A + 3, 7, none⟩ = some (.bool false) := cell_of hRb rfl
    have v8 : w13.cell? ⟨A + 3, 8, none⟩ = some (.int .u64 0) := cell_of hRb rfl
    have HOne := hide hOne
    have hw1 : IntKind.u64.wrap (IntKind.i64.wrap ((k : Int) + 1)) = (k : Int) + 1 := idWrap k (by omega)
    clear hOne hRb r0 r1 r2 r3 r4 r5 r6 r7 r8
    go_wp2_with fail
    refine (acc2 (unhide HOne) (by omega) (oldRow_ptr N k) (unhide HP12).base.lt (isOdd m2) (pty p2) (cName c2) (1 + (b2 : Int)) (1 + (y2 : Int)) (1 + (x2 : Int)) (refuse_ok p2 c2 b2 y2 x2 lb2 ly2 lx2)).mono ?_
    rintro e w14 ⟨O2, h2, gs, cs, mg2, es, ck, rfl, hBo⟩
    have hkp := hBo.kept
    have hRa : w14.heap[A + 2]? = some (.cells (req2Cells (isOdd m1) (pty p1) (cName c1) b1 y1 x1) 73 (0, 0)) := (hkp.block (A + 2) (lt_of_block (unhide HRa)) (by omega) (.inr (fun cur h => by rw [unhide HRa] at h; simp at h))).trans (unhide HRa)
    have hRb : w14.heap[A + 3]? = some (.cells (req2Cells (isOdd m2) (pty p2) (cName c2) b2 y2 x2) 73 (0, 0)) := (hkp.block (A + 3) (lt_of_block (unhide HRb)) (by omega) (.inr (fun cur h => by rw [unhide HRb] at h; simp at h))).trans (unhide HRb)
    have ra : w14.cell? ⟨A + 2, 0, none⟩ = some (.string (mkName (isOdd m1))) := cell_of hRa rfl
    have rb : w14.cell? ⟨A + 3, 0, none⟩ = some (.string (mkName (isOdd m2))) := cell_of hRb rfl
    have u0 : w14.cell? ⟨O2, 0, none⟩ = some (.int .u64 ((k : Int) + 2)) := hBo.id2
    have u1 := hBo.orders
    have u2 : w14.cell? ⟨gs, k, none⟩ = some (.pointer (some ⟨O1, 0, none⟩)) := by
      have h := hBo.row.cellAt k (by omega)
      rw [List.getElem?_append_right (by rw [oldRow_len]; omega), oldRow_len, Nat.sub_self] at h
      exact h
    have u3 : w14.cell? ⟨gs, k + 1, none⟩ = some (.pointer (some ⟨O2, 0, none⟩)) := by
      have h := hBo.row.cellAt (k + 1) (by omega)
      rw [List.getElem?_append_right (by rw [oldRow_len]; omega), oldRow_len, show k + 1 - k = 1 by omega] at h
      exact h
    have hpre : ∀ i, i < k → w14.cell? ⟨N + 5, i, none⟩ = some (.pointer (some ⟨N + 6 + i, 0, none⟩)) := fun i hi =>
      (World.cell?_of_block (a := ⟨N + 5, i, none⟩) (hkp.block (N + 5) (by have := (unhide HP12).size; omega) (by omega) (.inl (by omega)))).trans ((unhide HP12).pre i hi)
    have hold : ∀ i, i < k → w14.cell? ⟨gs, i, none⟩ = some (.pointer (some ⟨N + 6 + i, 0, none⟩)) := fun i hi => by
      have h := hBo.row.cellAt i (by omega)
      rw [List.getElem?_append_left (by rw [oldRow_len]; omega), oldRow_get N k i hi] at h
      exact h
    have HPRE := hide hpre
    have HOLD := hide hold
    have HBo := hide hBo
    have hw2 := idWrap2 k hn300
    have f1 := fun wz => neq_same (tp := 78) (te := 88) Yba.underlying78 Yba.info88 wz ⟨O1, 0, none⟩
    have f2 := fun wz => neq_same (tp := 78) (te := 88) Yba.underlying78 Yba.info88 wz ⟨O2, 0, none⟩
    clear hkp hRa hRb hpre hold hBo o0 v0 v1 v2 v3 v4 v5 v6 v7 v8 HOne hw1
    go_wp2
    go_loopw [21] (fun i wx => ∃ t nq : Nat, t ≤ k ∧ i = .int .i64 t ∧ wx = w14.drewN nq) (fun i _ => k - (intOf i).toNat)
    case atStart => exact ⟨0, 0, Nat.zero_le _, rfl, rfl⟩
    case round =>
    obtain ⟨t, nq, ht, rfl, rfl⟩ := hrel
    by_cases htk : t < k
    · have s1 := unhide HPRE t htk
      have s2 := unhide HOLD t htk
      have f3 := fun wz => neq_same (tp := 78) (te := 88) Yba.underlying78 Yba.info88 wz ⟨N + 6 + t, 0, none⟩
      go_wp2
      go_quiet (fail)
      go_wp2
      go_roundw
      case rel => exact ⟨t + 1, _, htk, by go_num, rfl⟩
      case measure => simp [intOf]; omega
    obtain rfl : t = k := by omega
    have hBo := unhide HBo
    have a1 := hBo.o1
    have a2 := hBo.o2
    have a3 := hBo.h1
    have a4 := hBo.h2
    have a5 := hBo.mgc
    have a6 := neq_nil90 mg2 (isOdd m2) hBo.marg
    have a7 : w14.cell? ⟨mBlk N (isOdd m1), 0, none⟩ = some (.string (mkName (isOdd m1))) := cell_of (hBo.base.m _) rfl
    have a8 : w14.cell? ⟨mBlk N (isOdd m2), 0, none⟩ = some (.string (mkName (isOdd m2))) := cell_of (hBo.base.m _) rfl
    have a9 := isM1 (isOdd m2)
    have a10 := isM1b (isOdd m2)
    have a11 := hBo.parties
    clear hBo
    go_wp2
    go_quiet (fail)
    go_wp2
    go_quiet (fail)
    go_wp2
    go_quiet (fail)
    have hfin : Below w.heap.size w w14 := by
      have hP := unhide HP12
      have hBe := hP.below
      rw [← hN] at hBe
      refine hBe.trans ?_
      have h := (unhide HBo).kept.below (by omega) (by have := hP.size; omega)
      rw [hN]
      exact h
    have HFIN := hide hfin
    clear hfin HPRE HOLD HRa HRb HP12 HS12 a1 a2 a3 a4 a5 a6 a7 a8 a9 a10 u0 u1 u2 u3 hw2 f1 f2 hn300 ly1 lx1 ly2 lx2 lb1 lb2 hpr hAlo hq8l htk ht
    rcases (unhide HBo).last with ⟨hpp, hdd, hbb, g2, c2, kk, hfn⟩ | ⟨hpp, hdd, hbb, g2, c2, kk, x, y, hfn, i1, i2, i3, i4⟩ | ⟨hpp, hbb, ga, ca, ka, gb, cb, kb, hfa, hfb, i1, i2⟩
    · subst hbb
      have hl := fun n1 => look_hit (P := Yba.prog) (w := w14.drewN n1) Yba.underlying57 Yba.underlying9 (str_key (pty p1)) (unhide HBo).map hfn
      have e1 := list_same hpp
      have e1b : (pty p1 == pty p2) = true := by rw [hpp]; exact beq_same _
      have e2 := list_same (congrArg mkName hdd)
      have e2b : (mkName (isOdd m1) == mkName (isOdd m2)) = true := by rw [hdd]; exact beq_same _
      have e3 := fun wz => eql_same (tp := 86) (te := 93) Yba.underlying86 Yba.info93 wz ⟨h1, 0, none⟩
      clear hpp hdd hfn HBo
      as_aux_lemma =>
        go_wp2
        go_ret
        exact ⟨rfl, below_drewN (unhide HFIN) _⟩
    · obtain ⟨d1, hd1⟩ := (unhide HBo).hb1
      obtain ⟨d2, hd2⟩ := (unhide HBo).hb2
      have hl := fun n1 => look_hit (P := Yba.prog) (w := w14.drewN n1) Yba.underlying57 Yba.underlying9 (str_key (pty p1)) (unhide HBo).map hfn
      have e1 := list_same hpp
      have e1b : (pty p1 == pty p2) = true := by rw [hpp]; exact beq_same _
      have e2 := list_diff (mk_diff hdd)
      have e2b := beq_diff (mk_diff hdd)
      have e3 := fun n1 => apart86 (w := w14.drewN n1) hbb hd1 hd2
      have s0 : w14.cell? ⟨N + 1, 1, none⟩ = some (.int .i64 0) := cell_of ((unhide HBo).base.m false) rfl
      have s1 : w14.cell? ⟨N + 2, 1, none⟩ = some (.int .i64 1) := cell_of ((unhide HBo).base.m true) rfl
      clear hpp hdd hfn HBo hd1 hd2 hbb
      as_aux_lemma =>
        go_wp2
        go_ret
        exact ⟨rfl, below_drewN (unhide HFIN) _⟩
    · obtain ⟨d1, hd1⟩ := (unhide HBo).hb1
      obtain ⟨d2, hd2⟩ := (unhide HBo).hb2
      have hla := fun n1 => look_hit (P := Yba.prog) (w := w14.drewN n1) Yba.underlying57 Yba.underlying9 (str_key (pty p1)) (unhide HBo).map hfa
      have hlb := fun n1 => look_hit (P := Yba.prog) (w := w14.drewN n1) Yba.underlying57 Yba.underlying9 (str_key (pty p2)) (unhide HBo).map hfb
      have e1 := list_diff hpp
      have e1b := beq_diff hpp
      have e3 := fun n1 => apart86 (w := w14.drewN n1) hbb hd1 hd2
      have e4 := fun wz => eql_same (tp := 86) (te := 93) Yba.underlying86 Yba.info93 wz ⟨h1, 0, none⟩
      have e5 := fun wz => eql_same (tp := 86) (te := 93) Yba.underlying86 Yba.info93 wz ⟨h2, 0, none⟩
      clear hpp hfa hfb HBo hd1 hd2 hbb
      as_aux_lemma =>
        go_wp2
        go_ret
        exact ⟨rfl, below_drewN (unhide HFIN) _⟩

end Go.Proofs.Ybulkapzy
