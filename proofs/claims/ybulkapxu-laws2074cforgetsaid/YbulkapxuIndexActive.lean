import Derived.Test.YbulkapxuPtrs
namespace Go.Proofs.Ybulkapxu
open Go.RowKit

set_option maxHeartbeats 400000 in
theorem indexActive_any (bs ga n cap : Nat) (f : Nat → Option Addr) (pe : Option Addr) (w : World) (hn : n ≤ 1024)
    (hs : w.cell? ⟨bs, 1, none⟩ = some (.slice (some ⟨ga, 0, none⟩) n cap))
    (hc : ∀ i, i < n → w.cell? ⟨ga, i, none⟩ = some (.pointer (f i)))
    (hf : ∀ i, i < n → PtrOk w (f i)) (he : PtrOk w pe) :
    Calls Yba.prog 13 #[.pointer (some ⟨bs, 0, none⟩), .pointer pe] w fun e w' => e = .returned (.int .i64 (lastIdx f pe n)) ∧ w' = w := by
  have HC : Hid (∀ i, i < n → w.cell? ⟨ga, i, none⟩ = some (.pointer (f i))) := hc
  have HF : Hid (∀ i, i < n → PtrOk w (f i)) := hf
  clear hc hf
  go_enter Yba.func13, Yba.ntmps13
  go_wp2
  go_loop [5] (fun i => ∃ k : Nat, k ≤ n ∧ i = .int .i64 ((k : Int) - 1) ∧ lastIdx f pe n = lastIdx f pe k) (fun i => (intOf i + 1).toNat)
  case atStart => exact ⟨n, Nat.le_refl _, rfl, rfl⟩
  case round =>
    obtain ⟨k, hk, rfl, hl⟩ := hrel
    have HL : Hid (lastIdx f pe n = lastIdx f pe k) := hl
    clear hl
    cases k with
    | zero =>
      go_wp2
      go_ret
      exact ⟨by rw [HL.out]; rfl, rfl⟩
    | succ k =>
      have hck := HC.out k (by omega)
      by_cases hp : f k = pe
      · have HP : Hid (f k = pe) := hp
        have heq := eql_yes w pe
        rw [hp] at hck
        clear hp
        go_wp2
        go_ret
        refine ⟨?_, rfl⟩
        rw [HL.out, lastIdx_yes HP.out]
        go_num
      · have HP : Hid (f k ≠ pe) := hp
        have heq := eql_no w (f k) pe (HF.out k (by omega)) he hp
        clear hp
        go_wp2
        go_round
        case rel => exact ⟨k, by omega, by go_num, by rw [HL.out, lastIdx_no HP.out]⟩
        case measure => simp [intOf]

end Go.Proofs.Ybulkapxu
