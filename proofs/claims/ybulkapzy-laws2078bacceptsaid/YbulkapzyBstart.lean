import Derived.Test.YbulkapzyOk
import Derived.Deep.CutRange
import Derived.Deep.CutBlock
namespace Go.Proofs.Ybulkapzy
open Go.RowKit

def sMkt : ByteArray := ⟨#[109, 107, 116]⟩

theorem setB_alloc (w : World) (o o' : Obj) : setB (w.alloc o) w.heap.size o' = w.alloc o' := by
  have e1 : (w.alloc o).heap = w.heap.push o := rfl
  have e2 : (w.alloc o').heap = w.heap.push o' := rfl
  unfold setB
  rw [e1]
  have : (w.heap.push o).setIfInBounds w.heap.size o' = w.heap.push o' := by
    apply Array.ext'
    simp [Array.setIfInBounds]
  rw [this]
  rfl

theorem setB_alloc2 (w : World) (o o' o2 : Obj) : setB ((w.alloc o).alloc o2) w.heap.size o' = (w.alloc o').alloc o2 := by
  have e1 : ((w.alloc o).alloc o2).heap = (w.heap.push o).push o2 := rfl
  unfold setB
  rw [e1]
  have : ((w.heap.push o).push o2).setIfInBounds w.heap.size o' = (w.heap.push o').push o2 := by
    apply Array.ext'
    rw [Array.toList_setIfInBounds]
    simp
  rw [this]
  rfl

theorem put_first2 (w : World) (p c : ByteArray) (v : Value) (o2 : Obj) :
    (Instr.mapUpdate 51 (.map (some w.heap.size)) (.agg #[.string p, .string c]) v).run Yba.prog ((w.alloc (.map #[] 0)).alloc o2) = .ok () ((w.alloc (.map #[{ key := .agg #[.string p, .string c], val := v, born := 0 }] 1)).alloc o2) := by
  rw [put_hold (clock := 0) ((Below.heap_alloc _ _ _ (by simp)).trans (heap_alloc_new w _)), setB_alloc2]

theorem heap_at (w : World) (o : Obj) (k : Nat) (h : w.heap.size = k) : (w.alloc o).heap[k]? = some o := by
  rw [← h]; exact heap_alloc_new w o
theorem heap_past (w : World) (o : Obj) (k n : Nat) (hn : w.heap.size = n) (h : k < n) : (w.alloc o).heap[k]? = w.heap[k]? := Below.heap_alloc _ _ _ (by omega)

theorem four (w : World) (N : Nat) (hN : w.heap.size = N) (o1 o2 o3 o4 : Obj) :
    ((((w.alloc o1).alloc o2).alloc o3).alloc o4).heap[N]? = some o1 ∧ ((((w.alloc o1).alloc o2).alloc o3).alloc o4).heap[N + 1]? = some o2 ∧
    ((((w.alloc o1).alloc o2).alloc o3).alloc o4).heap[N + 2]? = some o3 ∧ ((((w.alloc o1).alloc o2).alloc o3).alloc o4).heap[N + 3]? = some o4 ∧
    Below N w ((((w.alloc o1).alloc o2).alloc o3).alloc o4) ∧ ((((w.alloc o1).alloc o2).alloc o3).alloc o4).heap.size = N + 4 := by
  have s1 : (w.alloc o1).heap.size = N + 1 := by simp [hN]
  have s2 : ((w.alloc o1).alloc o2).heap.size = N + 2 := by simp [hN]
  have s3 : (((w.alloc o1).alloc o2).alloc o3).heap.size = N + 3 := by simp [hN]
  have s4 : ((((w.alloc o1).alloc o2).alloc o3).alloc o4).heap.size = N + 4 := by simp [hN]
  refine ⟨?_, ?_, ?_, heap_at _ _ _ s3, ?_, s4⟩
  · rw [heap_past _ _ _ _ s3 (by omega), heap_past _ _ _ _ s2 (by omega), heap_past _ _ _ _ s1 (by omega), heap_at _ _ _ hN]
  · rw [heap_past _ _ _ _ s3 (by omega), heap_past _ _ _ _ s2 (by omega), heap_at _ _ _ s1]
  · rw [heap_past _ _ _ _ s3 (by omega), heap_at _ _ _ s2]
  · exact ((((Below.refl _ _).alloc (by omega) _).alloc (by omega) _).alloc (by omega) _).alloc (by omega) _

theorem three (W : World) (S : Nat) (hS : W.heap.size = S) (o5 o6 o7 : Obj) :
    (∀ k, k < S → (((W.alloc o5).alloc o6).alloc o7).heap[k]? = W.heap[k]?) ∧ (((W.alloc o5).alloc o6).alloc o7).heap[S + 1]? = some o6 ∧ (((W.alloc o5).alloc o6).alloc o7).heap[S + 2]? = some o7 ∧
    (((W.alloc o5).alloc o6).alloc o7).heap.size = S + 3 ∧ Below S W (((W.alloc o5).alloc o6).alloc o7) := by
  have s1 : (W.alloc o5).heap.size = S + 1 := by simp [hS]
  have s2 : ((W.alloc o5).alloc o6).heap.size = S + 2 := by simp [hS]
  have s3 : (((W.alloc o5).alloc o6).alloc o7).heap.size = S + 3 := by simp [hS]
  refine ⟨fun k hk => ?_, ?_, heap_at _ _ _ s2, s3, (((Below.refl _ _).alloc (by omega) _).alloc (by omega) _).alloc (by omega) _⟩
  · rw [heap_past _ _ _ _ s2 (by omega), heap_past _ _ _ _ s1 (by omega), heap_past _ _ _ _ hS (by omega)]
  · rw [heap_past _ _ _ _ s2 (by omega), heap_at _ _ _ s1]

theorem put_first (w : World) (k v : Value) (t kt et : TypeId) (d : TypeDesc) (hm : Yba.prog.underlying t = some (.map kt et)) (hd : Yba.prog.underlying kt = some d) (hk : MapKept.IsKey d k) :
    (Instr.mapUpdate t (.map (some w.heap.size)) k v).run Yba.prog (w.alloc (.map #[] 0)) = .ok () (w.alloc (.map #[{ key := k, val := v, born := 0 }] 1)) := by
  rw [upd_new (P := Yba.prog) hm hd hk (heap_alloc_new w _) rfl, setB_alloc]
  rfl

def qCells (sel : Int) (mk pa cl : ByteArray) (sd sz pr : Int) (gf ex : Bool) (gt b : Int) (au dv hh : Bool) (hu : Int) : Array Value :=
  #[.int .u8 sel, .string mk, .string pa, .string cl, .int .u8 sd, .int .i64 sz, .int .i64 pr, .bool gf, .bool ex, .int .u64 gt, .int .u64 b, .bool au, .bool dv, .bool hh, .int .u64 hu]
def mktCells (N : Nat) (au dv : Bool) (hv : Value) : Array Value :=
  #[.string ⟨#[109, 107, 116]⟩, .int .i64 0, .int .u8 0, .slice none 0 0, .int .u8 0, .slice none 0 0, .bool au, .slice none 0 0, .int .i64 0, .pointer (some ⟨N + 3, 4, none⟩), hv, .bool dv, .pointer (some ⟨N + 3, 6, none⟩)]
def engCells (N : Nat) (b : Int) : Array Value :=
  #[.map (some (N + 2)), .map none, .slice none 0 0, .int .u64 b, .slice none 0 0, .slice none 0 0, .nilFunc, .slice none 0 0]

structure Start (w wx : World) (N : Nat) (qc : Array Value) (pa cl : ByteArray) (b : Int) (au dv hh : Bool) (hu : Int) (hv : Value) : Prop where
  q : wx.heap[N]? = some (.cells qc 40 (0, 0))
  m : wx.heap[N + 1]? = some (.cells (mktCells N au dv hv) 54 (0, 0))
  mp : wx.heap[N + 2]? = some (.map #[{ key := .string ⟨#[109, 107, 116]⟩, val := .pointer (some ⟨N + 1, 0, none⟩), born := 0 }] 1)
  e : wx.heap[N + 3]? = some (.cells (engCells N b) 66 (0, 0))
  below : Below N w wx
  size : N + 4 ≤ wx.heap.size
  hold : (hh = false ∧ hv = .map none) ∨ (hh = true ∧ ∃ r bd, hv = .map (some r) ∧ wx.heap[r]? = some (.map #[{ key := .agg #[.string pa, .string cl], val := .pointer (some ⟨bd, 0, none⟩), born := 0 }] 1) ∧ wx.cell? ⟨bd, 3, none⟩ = some (.int .u64 hu))

theorem mkt_yes {nm : ByteArray} (h : nm = sMkt) : (nm.toList == [109, 107, 116]) = true := by
  rw [h]; decide +kernel
theorem mkt_no {nm : ByteArray} (h : nm ≠ sMkt) : (nm.toList == [109, 107, 116]) = false := by
  rw [beq_eq_false_iff_ne]
  intro e
  apply h
  obtain ⟨⟨l⟩⟩ := nm
  rw [ByteArray.toList_eq] at e
  simp at e
  rw [e]
  rfl

/-- The error that the law expects, as Go has it. -/
def errV : Option ByteArray → Value
  | none => .nilIface
  | some s => .iface 76 (.string s)

def wants (nm pa cl : ByteArray) (sd sz pr : Int) (ex : Bool) (gt : Int) (au : Bool) (b : Int) (hv : Bool) : Option ByteArray :=
  if nm = sMkt then refuse pa cl sd sz pr ex gt au b hv else some sUnknown

theorem heldCall {w wq wx : World} {N : Nat} {qc : Array Value} {pa cl : ByteArray} {b : Int} {au dv hh : Bool} {hu : Int} {hv : Value} (hS : Start w wq N qc pa cl b au dv hh hu hv) (hb : Below wq.heap.size wq wx) (nm : ByteArray) (sd sz pr : Int) (gf ex : Bool) (gt : Int) :
    Calls Yba.prog 24 #[.pointer (some ⟨N + 1, 0, none⟩), .agg #[.string nm, .string pa, .string cl, .int .u8 sd, .int .i64 sz, .int .i64 pr, .bool gf, .bool ex, .int .u64 gt]] wx fun e w' => e = .returned (.bool (hh && (ex && decide (gt ≤ hu)))) ∧ Below wx.heap.size wx w' := by
  have hsz := hS.size
  have hM := (hb.block (N + 1) (by omega)).trans hS.m
  cases ex with
  | false =>
    refine (held_not (N + 1) nm pa cl sd sz pr gf gt wx).mono ?_
    rintro e w' ⟨rfl, h⟩
    exact ⟨by simp, h⟩
  | true =>
    have h10 : wx.cell? ⟨N + 1, 10, none⟩ = some hv := cell_of hM rfl
    rcases hS.hold with ⟨rfl, rfl⟩ | ⟨rfl, r, bd, rfl, h1, h2⟩
    · refine (held_none (N + 1) nm pa cl sd sz pr gf gt wx h10).mono ?_
      rintro e w' ⟨rfl, h⟩
      exact ⟨by simp, h⟩
    · refine (held_some (N + 1) r 1 0 bd hu nm pa cl sd sz pr gf gt wx h10 ((hb.block r (lt_of_block h1)).trans h1) ((hb.cell (p := ⟨bd, 3, none⟩) (World.block_lt_of_cell? _ _ h2)).trans h2)).mono ?_
      rintro e w' ⟨rfl, h⟩
      exact ⟨by simp, h⟩

theorem holdingCall {w wq wx : World} {N : Nat} {qc : Array Value} {pa cl : ByteArray} {b : Int} {au dv hh : Bool} {hu : Int} {hv : Value} (hS : Start w wq N qc pa cl b au dv hh hu hv) (hb : Below wq.heap.size wq wx) :
    Calls Yba.prog 21 #[.pointer (some ⟨N + 3, 0, none⟩), .pointer (some ⟨N + 1, 0, none⟩), .string pa] wx fun e w' => e = .returned (.pointer none) ∧ w' = wx := by
  have hsz := hS.size
  have hM := (hb.block (N + 1) (by omega)).trans hS.m
  have hE := (hb.block (N + 3) (by omega)).trans hS.e
  exact holding0 (N + 3) (N + 1) (.map none) none 0 0 pa wx (cell_of hE rfl) (look_nil (P := Yba.prog) Yba.underlying57 Yba.underlying9 (str_key pa) (Yba.zero62 wx)) (cell_of hM rfl)

theorem find_no {nm : ByteArray} (h : nm ≠ sMkt) (v : Value) (bo : Nat) : Instr.findNow .string (.string nm) (#[{ key := .string ⟨#[109, 107, 116]⟩, val := v, born := bo }] : Array MapEntry).toList 0 = some none := by
  have e : (nm == (⟨#[109, 107, 116]⟩ : ByteArray)) = false := by
    rw [beq_toListBytes]
    have := mkt_no h
    simpa using this
  simp [Instr.findNow, Instr.sameNow, e]
theorem find_yes (v : Value) (bo : Nat) : Instr.findNow .string (.string sMkt) (#[{ key := .string ⟨#[109, 107, 116]⟩, val := v, born := bo }] : Array MapEntry).toList 0 = some (some (0, v)) := by
  have e : (sMkt == (⟨#[109, 107, 116]⟩ : ByteArray)) = true := by decide +kernel
  simp [Instr.findNow, Instr.sameNow, e]

theorem refusedCall {w wq w2 : World} {N : Nat} {qc : Array Value} {pa cl : ByteArray} {b : Int} {au dv hh : Bool} {hu : Int} {hv : Value} (hS : Start w wq N qc pa cl b au dv hh hu hv) (hb : Below wq.heap.size wq w2) (nm s : ByteArray) (sd sz pr : Int) (gf ex : Bool) (gt : Int)
    (hw : wants nm pa cl sd sz pr ex gt au b (hh && (ex && decide (gt ≤ hu))) = some s) :
    Calls Yba.prog 13 #[.pointer (some ⟨N + 3, 0, none⟩), .agg #[.string nm, .string pa, .string cl, .int .u8 sd, .int .i64 sz, .int .i64 pr, .bool gf, .bool ex, .int .u64 gt]] w2 fun e w' => e = .returned (.tuple #[.pointer none, .pointer none, .iface 76 (.string s)]) ∧ Below w2.heap.size w2 w' := by
  have hsz := hS.size
  have hM := (hb.block (N + 1) (by omega)).trans hS.m
  have hP := (hb.block (N + 2) (by omega)).trans hS.mp
  have hE := (hb.block (N + 3) (by omega)).trans hS.e
  unfold wants at hw
  split at hw
  · rename_i hnm
    subst hnm
    exact accept_err (N + 3) (N + 1) (N + 2) 1 0 _ sMkt pa cl sd sz pr gf ex gt au b _ s w2 (cell_of hE rfl) hP (find_yes _ _) (cell_of hE rfl) (cell_of hM rfl)
      (fun wx hx => holdingCall hS (hb.trans (hx.mono hb.size))) (fun wx hx => heldCall hS (hb.trans (hx.mono hb.size)) sMkt sd sz pr gf ex gt) hw
  · rename_i hnm
    cases hw
    exact accept_unknown (N + 3) (N + 2) 1 _ nm pa cl sd sz pr gf ex gt w2 (cell_of hE rfl) hP (find_no hnm _ _)

end Go.Proofs.Ybulkapzy
