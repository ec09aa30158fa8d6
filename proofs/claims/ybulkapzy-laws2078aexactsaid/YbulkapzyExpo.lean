import Derived.Test.YbulkapzyBits
import Derived.BigQuiet
import Derived.Deep.QuietTactic
namespace Go.Proofs.Ybulkapzy
open Go.RowKit

set_option maxHeartbeats 1000000 in
theorem build7 (m p : ByteArray) (bh bl sh sl nh nm nl qh qm ql : Int) (w : World) :
    Calls Yba.prog 7 #[.agg #[.string m, .string p, .int .u64 bh, .int .u64 bl, .int .u64 sh, .int .u64 sl, .int .u64 nh, .int .u64 nm, .int .u64 nl, .int .u64 qh, .int .u64 qm, .int .u64 ql], .int .u64 0] w fun e w' =>
      e = .returned (.agg #[.string m, .string p, .int .u64 bh, .int .u64 bl, .int .u64 sh, .int .u64 sl, .int .u64 nh, .int .u64 nm, .int .u64 nl, .int .u64 qh, .int .u64 qm, .int .u64 ql]) ∧ ∃ c1 c2 : Array Value, w' = (w.alloc (.cells c1 24)).alloc (.cells c2 30) := by
  go_enter Yba.func7, Yba.ntmps7
  go_wp2
  go_returns
  exact ⟨rfl, _, _, rfl⟩

theorem side_buy (b : Nat) (w : World) :
    Calls Yba.prog 15 #[.pointer (some ⟨b, 0, none⟩), .int .u8 1] w fun e w' => e = .returned (.tuple #[.pointer (some ⟨b, 2, none⟩), .pointer (some ⟨b, 6, none⟩)]) ∧ ∃ nq, w' = w.drewN nq := by
  go_enter Yba.func15, Yba.ntmps15
  go_wp2
  go_quiet (fail)
  go_wp2
  go_ret2
  exact ⟨rfl, _, rfl⟩

theorem side_sell (b : Nat) (s : Int) (hs : (s == 1) = false) (w : World) :
    Calls Yba.prog 15 #[.pointer (some ⟨b, 0, none⟩), .int .u8 s] w fun e w' => e = .returned (.tuple #[.pointer (some ⟨b, 4, none⟩), .pointer (some ⟨b, 9, none⟩)]) ∧ ∃ nq, w' = w.drewN nq := by
  go_enter Yba.func15, Yba.ntmps15
  go_wp2
  go_quiet (fail)
  go_wp2
  go_ret2
  exact ⟨rfl, _, rfl⟩

end Go.Proofs.Ybulkapzy
