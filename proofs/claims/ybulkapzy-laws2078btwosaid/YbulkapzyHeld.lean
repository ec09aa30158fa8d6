import Derived.Test.YbulkapzySmall
import Derived.BigQuiet
import Derived.Deep.QuietTactic
namespace Go.Proofs.Ybulkapzy
open Go.RowKit

/-- An order request. -/
structure Req where
  market : ByteArray
  party : ByteArray
  client : ByteArray
  side : Int
  size : Int
  price : Int
  gfn : Bool
  expires : Bool
  gtb : Int

def Req.cells (r : Req) : Array Value := #[.string r.market, .string r.party, .string r.client, .int .u8 r.side, .int .i64 r.size, .int .i64 r.price, .bool r.gfn, .bool r.expires, .int .u64 r.gtb]

theorem below_drewN {B : Nat} {w w' : World} (h : Below B w w') (n : Nat) : Below B w (w'.drewN n) := h.trans (Below.mk rfl rfl rfl (Nat.le_refl _) (fun _ _ => rfl))

theorem held_not (bm : Nat) (a b c : ByteArray) (s z p : Int) (g : Bool) (gt : Int) (w : World) :
    Calls Yba.prog 24 #[.pointer (some ⟨bm, 0, none⟩), .agg #[.string a, .string b, .string c, .int .u8 s, .int .i64 z, .int .i64 p, .bool g, .bool false, .int .u64 gt]] w fun e w' => e = .returned (.bool false) ∧ Below w.heap.size w w' := by
  go_enter Yba.func24, Yba.ntmps24
  go_wp2
  go_ret
  exact ⟨rfl, (Below.refl _ _).alloc (Nat.le_refl _) _⟩

/-- No hold lies under the client's key. -/
theorem held_none (bm : Nat) (a b c : ByteArray) (s z p : Int) (g : Bool) (gt : Int) (w : World) (hh : w.cell? ⟨bm, 10, none⟩ = some (.map none)) :
    Calls Yba.prog 24 #[.pointer (some ⟨bm, 0, none⟩), .agg #[.string a, .string b, .string c, .int .u8 s, .int .i64 z, .int .i64 p, .bool g, .bool true, .int .u64 gt]] w fun e w' => e = .returned (.bool false) ∧ Below w.heap.size w w' := by
  have hl := fun wq => look_hold_nil wq b c
  have hbl := World.block_lt_of_cell? _ _ hh
  go_enter Yba.func24, Yba.ntmps24
  go_wp2
  go_quiet (fail)
  go_wp2
  go_quiet (fail)
  go_wp2
  go_ret
  exact ⟨rfl, below_drewN (below_drewN ((Below.refl _ _).alloc (Nat.le_refl _) _) _) _⟩

/-- A hold lies there. -/
theorem held_some (bm r clock born bd : Nat) (u : Int) (a b c : ByteArray) (s z p : Int) (g : Bool) (gt : Int) (w : World) (hh : w.cell? ⟨bm, 10, none⟩ = some (.map (some r)))
    (hr : w.heap[r]? = some (.map #[{ key := .agg #[.string b, .string c], val := .pointer (some ⟨bd, 0, none⟩), born := born }] clock)) (hu : w.cell? ⟨bd, 3, none⟩ = some (.int .u64 u)) :
    Calls Yba.prog 24 #[.pointer (some ⟨bm, 0, none⟩), .agg #[.string a, .string b, .string c, .int .u8 s, .int .i64 z, .int .i64 p, .bool g, .bool true, .int .u64 gt]] w fun e w' => e = .returned (.bool (decide (gt ≤ u))) ∧ Below w.heap.size w w' := by
  have hlt := lt_of_block hr
  have hl := fun o nq => look_hold (w := (w.alloc o).drewN nq) ((Below.heap_alloc w o r (by omega)).trans hr)
  have hl2 := fun o => look_hold (w := w.alloc o) ((Below.heap_alloc w o r (by omega)).trans hr)
  have hbl := World.block_lt_of_cell? _ _ hh
  have hbd := World.block_lt_of_cell? _ _ hu
  clear hr hlt
  go_enter Yba.func24, Yba.ntmps24
  go_wp2
  go_quiet (fail)
  go_wp2
  obtain ⟨wr, hwr⟩ : ∃ wr, wr = (w.alloc (Obj.cells #[.string a, .string b, .string c, .int .u8 s, .int .i64 z, .int .i64 p, .bool g, .bool true, .int .u64 gt] 73)).drewN nq := ⟨_, rfl⟩
  rw [← hwr]
  have h7 : wr.cell? ⟨w.heap.size, 7, none⟩ = some (.bool true) := by rw [hwr]; simp
  have h8 : wr.cell? ⟨w.heap.size, 8, none⟩ = some (.int .u64 gt) := by rw [hwr]; simp
  have hu' : wr.cell? ⟨bd, 3, none⟩ = some (.int .u64 u) := by rw [hwr]; exact (World.cell?_alloc_past _ _ _ hbd).trans hu
  have HB : Hid (Below w.heap.size w wr) := hide (by rw [hwr]; exact below_drewN ((Below.refl _ _).alloc (Nat.le_refl _) _) _)
  clear hwr hl hl2 hu hh
  go_quiet ((go_at_call 31; exact Calls.quiet_of_same (covers_any u gt true _)))
  go_wp2
  go_ret
  exact ⟨rfl, below_drewN (unhide HB) _⟩

end Go.Proofs.Ybulkapzy
