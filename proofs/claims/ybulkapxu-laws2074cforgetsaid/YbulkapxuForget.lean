import Derived.Test.YbulkapxuDelPtr
import Derived.Test.YbulkapxuIndexActive
namespace Go.Proofs.Ybulkapxu
open Go.RowKit

theorem hide {p : Prop} (h : p) : Hid p := h
theorem unhide {p : Prop} (h : Hid p) : p := h

/-- What the list holds behind 'forget', its first places. -/
def forgot (f : Nat → Option Addr) (k : Int) : Nat → Option Addr := fun t => if (t : Int) < k ∨ k < 0 then f t else f (t + 1)

/-- How many the list holds behind 'forget'. -/
def forgotLen (n : Nat) (k : Int) : Nat := if 0 ≤ k then n - 1 else n

/-- Nothing has turned but blocks a and b; none has come or gone. -/
structure Only2 (a b : Nat) (w w' : World) : Prop where
  os : w'.os = w.os
  tape : w'.tape = w.tape
  output : w'.output = w.output
  size : w'.heap.size = w.heap.size
  block : ∀ k, k ≠ a → k ≠ b → w'.heap[k]? = w.heap[k]?

theorem Only2.refl (a b : Nat) (w : World) : Only2 a b w w := ⟨rfl, rfl, rfl, rfl, fun _ _ _ => rfl⟩

set_option maxHeartbeats 400000 in
theorem forgetAt_any (bs ga n be : Nat) (i : Int) (k : Nat) (f : Nat → Option Addr) (w : World) (hn : n ≤ 1024) (hik : i = k) (hk : k < n) (hne : bs ≠ ga)
    (hs : w.cell? ⟨bs, 1, none⟩ = some (.slice (some ⟨ga, 0, none⟩) n n)) (hsf : w.frozen? ⟨bs, 1, none⟩ = false)
    (hrow : w.rowIs ga 40 n (fun t => .pointer (f t))) (hf : f k = some ⟨be, 0, none⟩) (hat : w.cell? ⟨be, 3, none⟩ = some (.int .i64 (-1))) :
    Calls Yba.prog 17 #[.pointer (some ⟨bs, 0, none⟩), .int .i64 i] w fun e w' => e = .returned (.tuple #[]) ∧
      w'.cell? ⟨bs, 1, none⟩ = some (.slice (some ⟨ga, 0, none⟩) (n - 1) n) ∧ w'.rowIs ga 40 n (pcut (fun t => .pointer (f t)) k n) ∧ Only2 bs ga w w' := by
  subst hik
  have hck := hrow.cell hk
  rw [hf] at hck
  have HF : Hid (f k = some ⟨be, 0, none⟩) := hf
  have HR := hide hrow
  clear hf hrow
  go_enter Yba.func17, Yba.ntmps17
  go_wp2_with fail
  rw [show ((k : Int) + 1) = ((k + 1 : Nat) : Int) from by omega]
  refine (pdelete_any ga n n k (k + 1) (fun t => .pointer (f t)) w (fun _ _ => rfl) (unhide HR) (Nat.le_refl _) (by omega) hk rfl).mono ?_
  rintro e w1 ⟨rfl, hr1, ho1⟩
  have hs1 : w1.cell? ⟨bs, 1, none⟩ = some (.slice (some ⟨ga, 0, none⟩) n n) := (World.cell?_of_block (ho1.block bs hne)).trans hs
  have hf1 : w1.frozen? ⟨bs, 1, none⟩ = false := (World.frozen?_of_block (ho1.block bs hne)).trans hsf
  have H1 := hide hr1
  have H2 := hide ho1
  clear hr1 ho1 hs hsf hck hat
  go_wp2
  go_end0
  refine ⟨rfl, World.cell?_setCell_same _ _ _ hs1, (unhide H1).setOther (by exact Ne.symm hne) _, ?_⟩
  have h2 := unhide H2
  exact ⟨h2.os, h2.tape, h2.output, by rw [World.size_setCell]; exact h2.size, fun q hq1 hq2 => (Below.heap_setCell _ _ _ _ hq1).trans (h2.block q hq2)⟩

theorem lastIdx_hit {f : Nat → Option Addr} {p : Option Addr} : ∀ {n : Nat} {k : Nat}, lastIdx f p n = (k : Int) → f k = p
  | 0, k, h => by simp [lastIdx] at h
  | n + 1, k, h => by
    unfold lastIdx at h
    split at h
    · rename_i hp
      obtain rfl : n = k := by omega
      exact hp
    · exact lastIdx_hit h

set_option maxHeartbeats 400000 in
theorem forget_any (bs ga n be : Nat) (f : Nat → Option Addr) (w : World) (hn : n ≤ 1024) (hne : bs ≠ ga)
    (hs : w.cell? ⟨bs, 1, none⟩ = some (.slice (some ⟨ga, 0, none⟩) n n)) (hsf : w.frozen? ⟨bs, 1, none⟩ = false)
    (hrow : w.rowIs ga 40 n (fun t => .pointer (f t))) (hf : ∀ i, i < n → PtrOk w (f i)) (he : PtrOk w (some ⟨be, 0, none⟩)) (hat : w.cell? ⟨be, 3, none⟩ = some (.int .i64 (-1))) :
    Calls Yba.prog 15 #[.pointer (some ⟨bs, 0, none⟩), .pointer (some ⟨be, 0, none⟩)] w fun e w' => e = .returned (.tuple #[]) ∧
      w'.cell? ⟨bs, 1, none⟩ = some (.slice (some ⟨ga, 0, none⟩) (forgotLen n (lastIdx f (some ⟨be, 0, none⟩) n)) n) ∧ (∀ t, t < forgotLen n (lastIdx f (some ⟨be, 0, none⟩) n) → w'.cell? ⟨ga, t, none⟩ = some (.pointer (forgot f (lastIdx f (some ⟨be, 0, none⟩) n) t))) ∧ Only2 bs ga w w' := by
  have hbd := lastIdx_bd f (some ⟨be, 0, none⟩) n
  generalize hL : lastIdx f (some ⟨be, 0, none⟩) n = L at *
  have HL := hide hL
  have HR := hide hrow
  have HF := hide hf
  have HE := hide he
  clear hL hrow hf he
  by_cases h0 : 0 ≤ L
  · obtain ⟨k, rfl⟩ : ∃ k : Nat, L = (k : Int) := ⟨L.toNat, by omega⟩
    go_enter Yba.func15, Yba.ntmps15
    go_wp2_with fail
    refine (indexActive_any bs ga n n f (some ⟨be, 0, none⟩) w hn hs (fun i hi => (unhide HR).cell hi) (unhide HF) (unhide HE)).mono ?_
    rintro e w1 ⟨rfl, rfl⟩
    rw [unhide HL]
    go_wp2_with fail
    refine (forgetAt_any bs ga n be k k f _ hn rfl (by omega) hne hs hsf (unhide HR) (lastIdx_hit (unhide HL)) hat).mono ?_
    rintro e w2 ⟨rfl, h1, h2, h3⟩
    have H1 := hide h1
    have H2 := hide h2
    have H3 := hide h3
    clear h1 h2 h3 hs hsf hat
    go_wp2
    go_end0
    have e1 : forgotLen n (k : Int) = n - 1 := if_pos (by omega)
    rw [e1]
    refine ⟨rfl, unhide H1, fun t ht => ?_, unhide H3⟩
    rw [(unhide H2).cell (by omega)]
    unfold pcut forgot
    by_cases h : t < k
    · rw [if_pos h, if_pos (by omega)]
    · rw [if_neg h, if_pos (by omega), if_neg (by omega)]
  · go_enter Yba.func15, Yba.ntmps15
    go_wp2_with fail
    refine (indexActive_any bs ga n n f (some ⟨be, 0, none⟩) w hn hs (fun i hi => (unhide HR).cell hi) (unhide HF) (unhide HE)).mono ?_
    rintro e w1 ⟨rfl, rfl⟩
    rw [unhide HL]
    go_wp2
    go_end0
    have e1 : forgotLen n L = n := if_neg (by omega)
    rw [e1]
    refine ⟨rfl, hs, fun t ht => ?_, Only2.refl _ _ _⟩
    rw [(unhide HR).cell ht]
    unfold forgot
    rw [if_pos (by omega)]

end Go.Proofs.Ybulkapxu
