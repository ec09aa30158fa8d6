import Derived.Test.YbulkapzyAddD
import Derived.BigRegion
namespace Go.Proofs.Ybulkapzy
open Go.RowKit

/-- The request's cells. -/
def reqCells (mk pa cl : ByteArray) (sd sz pr : Int) (gf ex : Bool) (gt : Int) : Array Value :=
  #[.string mk, .string pa, .string cl, .int .u8 sd, .int .i64 sz, .int .i64 pr, .bool gf, .bool ex, .int .u64 gt]

def sUnknown : ByteArray := ⟨#[117, 110, 107, 110, 111, 119, 110, 45, 109, 97, 114, 107, 101, 116]⟩
def sName : ByteArray := ⟨#[98, 97, 100, 45, 110, 97, 109, 101]⟩
def sSide : ByteArray := ⟨#[98, 97, 100, 45, 115, 105, 100, 101]⟩
def sSize : ByteArray := ⟨#[98, 97, 100, 45, 115, 105, 122, 101]⟩
def sPrice : ByteArray := ⟨#[98, 97, 100, 45, 112, 114, 105, 99, 101]⟩
def sAuction : ByteArray := ⟨#[97, 117, 99, 116, 105, 111, 110]⟩
def sExpired : ByteArray := ⟨#[101, 120, 112, 105, 114, 101, 100]⟩
def sHeld : ByteArray := ⟨#[104, 101, 108, 100, 45, 99, 97, 110, 99, 101, 108]⟩

/-- An order of a market that is not there. -/
theorem accept_unknown (be mb clock : Nat) (es : Array MapEntry) (mk pa cl : ByteArray) (sd sz pr : Int) (gf ex : Bool) (gt : Int) (w : World)
    (h0 : w.cell? ⟨be, 0, none⟩ = some (.map (some mb))) (hm : w.heap[mb]? = some (.map es clock)) (hmiss : Instr.findNow .string (.string mk) es.toList 0 = some none) :
    Calls Yba.prog 13 #[.pointer (some ⟨be, 0, none⟩), .agg #[.string mk, .string pa, .string cl, .int .u8 sd, .int .i64 sz, .int .i64 pr, .bool gf, .bool ex, .int .u64 gt]] w fun e w' =>
      e = .returned (.tuple #[.pointer none, .pointer none, .iface 76 (.string sUnknown)]) ∧ Below w.heap.size w w' := by
  have hmlt := lt_of_block hm
  have hl := fun o nq => look_miss (P := Yba.prog) (w := (w.alloc o).drewN nq) Yba.underlying56 Yba.underlying9 (str_key mk) (Yba.zero41 _) ((Below.heap_alloc w o mb hmlt).trans hm) hmiss
  have hbe := World.block_lt_of_cell? _ _ h0
  clear hm hmiss hmlt
  go_enter Yba.func13, Yba.ntmps13
  go_wp2
  go_quiet (fail)
  go_wp2
  go_ret3
  exact ⟨rfl, below_drewN ((Below.refl _ _).alloc (Nat.le_refl _) _) _⟩


/-- Why an order of a market that is there is refused, or not. -/
def refuse (pa cl : ByteArray) (sd sz pr : Int) (ex : Bool) (gt : Int) (au : Bool) (b : Int) (hv : Bool) : Option ByteArray :=
  if nameOk pa = false ∨ nameOk cl = false then some sName
  else if sd ≠ 1 ∧ sd ≠ 2 then some sSide
  else if sz < 1 ∨ 1000000000000 < sz then some sSize
  else if pr < 1 ∨ 1000000000000 < pr then some sPrice
  else if au = true then some sAuction
  else if ex = true ∧ gt < blk b then some sExpired
  else if hv = true then some sHeld
  else none

/-- The request lies in a box of its own at R. -/
structure Boxed (w : World) (R : Nat) (mk pa cl : ByteArray) (sd sz pr : Int) (gf ex : Bool) (gt : Int) : Prop where
  blk : w.heap[R]? = some (.cells (reqCells mk pa cl sd sz pr gf ex gt) 73 (0, 0))

set_option maxRecDepth 20000 in
set_option maxHeartbeats 2000000 in
theorem accept_err (be bm mb clock i : Nat) (es : Array MapEntry) (mk pa cl : ByteArray) (sd sz pr : Int) (gf ex : Bool) (gt : Int) (au : Bool) (b : Int) (hv : Bool) (s : ByteArray) (w : World)
    (h0 : w.cell? ⟨be, 0, none⟩ = some (.map (some mb))) (hm : w.heap[mb]? = some (.map es clock)) (hhit : Instr.findNow .string (.string mk) es.toList 0 = some (some (i, .pointer (some ⟨bm, 0, none⟩))))
    (h3 : w.cell? ⟨be, 3, none⟩ = some (.int .u64 b)) (h6 : w.cell? ⟨bm, 6, none⟩ = some (.bool au))
    (hh : ∀ wx, Below w.heap.size w wx → Calls Yba.prog 21 #[.pointer (some ⟨be, 0, none⟩), .pointer (some ⟨bm, 0, none⟩), .string pa] wx fun e w' => e = .returned (.pointer none) ∧ w' = wx)
    (hhd : ∀ wx, Below w.heap.size w wx → Calls Yba.prog 24 #[.pointer (some ⟨bm, 0, none⟩), .agg #[.string mk, .string pa, .string cl, .int .u8 sd, .int .i64 sz, .int .i64 pr, .bool gf, .bool ex, .int .u64 gt]] wx fun e w' => e = .returned (.bool hv) ∧ Below wx.heap.size wx w')
    (hs : refuse pa cl sd sz pr ex gt au b hv = some s) :
    Calls Yba.prog 13 #[.pointer (some ⟨be, 0, none⟩), .agg #[.string mk, .string pa, .string cl, .int .u8 sd, .int .i64 sz, .int .i64 pr, .bool gf, .bool ex, .int .u64 gt]] w fun e w' =>
      e = .returned (.tuple #[.pointer none, .pointer none, .iface 76 (.string s)]) ∧ Below w.heap.size w w' := by
  have hmlt := lt_of_block hm
  have hl := fun o nq => look_hit (P := Yba.prog) (w := (w.alloc o).drewN nq) Yba.underlying56 Yba.underlying9 (str_key mk) ((Below.heap_alloc w o mb hmlt).trans hm) hhit
  have hbe := World.block_lt_of_cell? _ _ h0
  have hbm := World.block_lt_of_cell? _ _ h6
  have HHH := hide hh
  have HHD := hide hhd
  have HS := hide hs
  clear hm hhit hmlt hh hhd hs
  go_enter Yba.func13, Yba.ntmps13
  go_wp2
  go_quiet (fail)
  obtain ⟨w1, hw1⟩ : ∃ w1, w1 = (w.alloc (Obj.cells #[.string mk, .string pa, .string cl, .int .u8 sd, .int .i64 sz, .int .i64 pr, .bool gf, .bool ex, .int .u64 gt] 73)).drewN nq := ⟨_, rfl⟩
  rw [← hw1]
  have hbel : Below w.heap.size w w1 := by rw [hw1]; exact below_drewN ((Below.refl _ _).alloc (Nat.le_refl _) _) _
  have hR : w1.heap[w.heap.size]? = some (.cells #[.string mk, .string pa, .string cl, .int .u8 sd, .int .i64 sz, .int .i64 pr, .bool gf, .bool ex, .int .u64 gt] 73 (0, 0)) := by
    rw [hw1]; exact heap_alloc_new w _
  have h31 := (hbel.cell (p := ⟨be, 3, none⟩) hbe).trans h3
  have h61 := (hbel.cell (p := ⟨bm, 6, none⟩) hbm).trans h6
  obtain ⟨R, hRR⟩ : ∃ R, R = w.heap.size := ⟨_, rfl⟩
  rw [← hRR] at hR ⊢
  have r0 : w1.cell? ⟨R, 0, none⟩ = some (.string mk) := cell_of hR rfl
  have r1 : w1.cell? ⟨R, 1, none⟩ = some (.string pa) := cell_of hR rfl
  have r2 : w1.cell? ⟨R, 2, none⟩ = some (.string cl) := cell_of hR rfl
  have r3 : w1.cell? ⟨R, 3, none⟩ = some (.int .u8 sd) := cell_of hR rfl
  have r4 : w1.cell? ⟨R, 4, none⟩ = some (.int .i64 sz) := cell_of hR rfl
  have r5 : w1.cell? ⟨R, 5, none⟩ = some (.int .i64 pr) := cell_of hR rfl
  have r6 : w1.cell? ⟨R, 6, none⟩ = some (.bool gf) := cell_of hR rfl
  have r7 : w1.cell? ⟨R, 7, none⟩ = some (.bool ex) := cell_of hR rfl
  have r8 : w1.cell? ⟨R, 8, none⟩ = some (.int .u64 gt) := cell_of hR rfl
  have HRR := hide hRR
  have HBel := hide hbel
  clear hw1 hbel hR hRR h0 h3 h6 hl hbe hbm
  have close : ∀ s', refuse pa cl sd sz pr ex gt au b hv = some s' → s' = s := fun s' h => by rw [unhide HS] at h; cases h; rfl
  have HC := hide close
  clear close
  unfold refuse at HS HC
  cases hn1 : nameOk pa with
  | false =>
    have HN := hide hn1
    go_wp2_with fail
    refine (validName_any pa w1).mono ?_
    rintro e w2 ⟨rfl, rfl⟩
    rw [unhide HN]
    go_wp2
    go_ret3
    exact ⟨by rw [← unhide HC sName (by simp [hn1])]; rfl, unhide HBel⟩
  | true =>
  have HN1 := hide hn1
  clear hn1
  cases hn2 : nameOk cl with
  | false =>
    have HN := hide hn2
    go_wp2_with fail
    refine (validName_any pa w1).mono ?_
    rintro e w2 ⟨rfl, rfl⟩
    rw [unhide HN1]
    go_wp2_with fail
    refine (validName_any cl _).mono ?_
    rintro e w2 ⟨rfl, rfl⟩
    rw [unhide HN]
    go_wp2
    go_ret3
    exact ⟨by rw [← unhide HC sName (by simp [hn2])]; rfl, unhide HBel⟩
  | true =>
  have HN2 := hide hn2
  clear hn2
  go_wp2_with fail
  refine (validName_any pa w1).mono ?_
  rintro e w2 ⟨rfl, rfl⟩
  rw [unhide HN1]
  go_wp2_with fail
  refine (validName_any cl _).mono ?_
  rintro e w2 ⟨rfl, rfl⟩
  rw [unhide HN2]
  by_cases hsd : sd ≠ 1 ∧ sd ≠ 2
  · have e1 : (sd != 1) = true := by rw [bne_iff_ne]; exact hsd.1
    have e2 : (sd != 2) = true := by rw [bne_iff_ne]; exact hsd.2
    have HSD := hide hsd
    clear hsd
    go_wp2
    go_ret3
    exact ⟨by rw [← unhide HC sSide (by rw [if_neg (by rw [unhide HN1, unhide HN2]; simp), if_pos (unhide HSD)])]; rfl, unhide HBel⟩
  have HSD := hide hsd
  have esd : ((sd != 1) = false) ∨ ((sd != 1) = true ∧ (sd != 2) = false) := by
    by_cases h1 : sd = 1
    · left; simp [h1]
    · right; exact ⟨by rw [bne_iff_ne]; exact h1, by by_cases h2 : sd = 2; simp [h2]; exact absurd ⟨h1, h2⟩ hsd⟩
  clear hsd
  have AFTER : Hid True := hide trivial
  rcases esd with e1 | ⟨e1, e2⟩
  all_goals
    by_cases hsz : sz < 1 ∨ 1000000000000 < sz
    · have HSZ := hide hsz
      rcases hsz with hsz | hsz
      · go_wp2
        go_ret3
        exact ⟨by rw [← unhide HC sSize (by rw [if_neg (by rw [unhide HN1, unhide HN2]; simp), if_neg (unhide HSD), if_pos (unhide HSZ)])]; rfl, unhide HBel⟩
      · have hsz0 : ¬ sz < 1 := by omega
        go_wp2
        go_ret3
        exact ⟨by rw [← unhide HC sSize (by rw [if_neg (by rw [unhide HN1, unhide HN2]; simp), if_neg (unhide HSD), if_pos (unhide HSZ)])]; rfl, unhide HBel⟩
    have HSZ := hide hsz
    have hsz1 : ¬ sz < 1 := by omega
    have hsz2 : ¬ 1000000000000 < sz := by omega
    clear hsz
    by_cases hpr : pr < 1 ∨ 1000000000000 < pr
    · have HPR := hide hpr
      rcases hpr with hpr | hpr
      · go_wp2
        go_ret3
        exact ⟨by rw [← unhide HC sPrice (by rw [if_neg (by rw [unhide HN1, unhide HN2]; simp), if_neg (unhide HSD), if_neg (unhide HSZ), if_pos (unhide HPR)])]; rfl, unhide HBel⟩
      · have hpr0 : ¬ pr < 1 := by omega
        go_wp2
        go_ret3
        exact ⟨by rw [← unhide HC sPrice (by rw [if_neg (by rw [unhide HN1, unhide HN2]; simp), if_neg (unhide HSD), if_neg (unhide HSZ), if_pos (unhide HPR)])]; rfl, unhide HBel⟩
    have HPR := hide hpr
    have hpr1 : ¬ pr < 1 := by omega
    have hpr2 : ¬ 1000000000000 < pr := by omega
    clear hpr
    go_wp2_with fail
    refine (unhide HHH _ (unhide HBel)).mono ?_
    rintro e w3 ⟨rfl, rfl⟩
    cases au with
    | true =>
      go_wp2
      go_ret3
      exact ⟨by rw [← unhide HC sAuction (by rw [if_neg (by rw [unhide HN1, unhide HN2]; simp), if_neg (unhide HSD), if_neg (unhide HSZ), if_neg (unhide HPR), if_pos (by simp)])]; rfl, unhide HBel⟩
    | false =>
    cases ex with
    | true =>
      by_cases hgt : gt < blk b
      · have HGT := hide hgt
        go_wp2
        go_quiet ((go_at_call 23; exact Calls.quiet_of_same (block_any be b _ (by exact h31))))
        go_wp2
        go_ret3
        exact ⟨by rw [← unhide HC sExpired (by rw [if_neg (by rw [unhide HN1, unhide HN2]; simp), if_neg (unhide HSD), if_neg (unhide HSZ), if_neg (unhide HPR), if_neg (by simp), if_pos ⟨by simp, unhide HGT⟩])]; rfl, below_drewN (unhide HBel) _⟩
      · have HGT := hide hgt
        go_wp2
        go_quiet ((go_at_call 23; exact Calls.quiet_of_same (block_any be b _ (by exact h31))))
        go_wp2_with fail
        refine (unhide HHD _ (below_drewN (unhide HBel) _)).mono ?_
        rintro e w4 ⟨rfl, hb4⟩
        cases hv with
        | false =>
          exfalso
          have h := unhide HS
          rw [if_neg (by rw [unhide HN1, unhide HN2]; simp), if_neg (unhide HSD), if_neg (unhide HSZ), if_neg (unhide HPR), if_neg (by simp), if_neg (by have hgt1 := unhide HGT; intro h; have hgt2 := h.2; omega), if_neg (by simp)] at h
          cases h
        | true =>
          have HB4 := hide hb4
          clear hb4
          go_wp2
          go_ret3
          exact ⟨by rw [← unhide HC sHeld (by rw [if_neg (by rw [unhide HN1, unhide HN2]; simp), if_neg (unhide HSD), if_neg (unhide HSZ), if_neg (unhide HPR), if_neg (by simp), if_neg (by have hgt1 := unhide HGT; intro h; have hgt2 := h.2; omega), if_pos (by simp)])]; rfl, (below_drewN (unhide HBel) _).trans ((unhide HB4).mono (below_drewN (unhide HBel) _).size)⟩
    | false =>
      go_wp2
      go_quiet (fail)
      go_wp2_with fail
      refine (unhide HHD _ (below_drewN (unhide HBel) _)).mono ?_
      rintro e w4 ⟨rfl, hb4⟩
      cases hv with
      | false =>
        exfalso
        have h := unhide HS
        rw [if_neg (by rw [unhide HN1, unhide HN2]; simp), if_neg (unhide HSD), if_neg (unhide HSZ), if_neg (unhide HPR), if_neg (by simp), if_neg (by simp), if_neg (by simp)] at h
        cases h
      | true =>
        have HB4 := hide hb4
        clear hb4
        go_wp2
        go_ret3
        exact ⟨by rw [← unhide HC sHeld (by rw [if_neg (by rw [unhide HN1, unhide HN2]; simp), if_neg (unhide HSD), if_neg (unhide HSZ), if_neg (unhide HPR), if_neg (by simp), if_neg (by simp), if_pos (by simp)])]; rfl, (below_drewN (unhide HBel) _).trans ((unhide HB4).mono (below_drewN (unhide HBel) _).size)⟩

end Go.Proofs.Ybulkapzy
