import Derived.Test.YbulkapzyTurn
import Derived.Lib.Overlaps
import Derived.Lib.AppendZerosOnto
import Derived.Laws.IdiomCopy
import Derived.Laws.Externs
import Derived.Deep.RegionLaw
namespace Go.Proofs.Ybulkapzy
open Go.RowKit

set_option maxRecDepth 20000 in
set_option maxHeartbeats 400000 in
/-- A second holding, behind the first. -/
theorem insertEnd (g c q : Nat) (p0 p : Option Addr) (w : World) (hown : w.ownsRow 0 86 1 (.slice (some ⟨g, 0, none⟩) 1 c) 1 [.pointer p0]) (hq : w.cell? ⟨q, 0, none⟩ = some (.pointer p)) :
    Calls Yba.prog 33 #[.slice (some ⟨g, 0, none⟩) 1 c, .int .i64 1, .slice (some ⟨q, 0, none⟩) 1 1] w fun e w' => ∃ g' c', e = .returned (.slice (some ⟨g', 0, none⟩) 2 c') ∧
      w'.ownsRow 0 86 1 (.slice (some ⟨g', 0, none⟩) 2 c') 2 [.pointer p0, .pointer p] ∧ Turn [g] w w' := by
  obtain ⟨i0, hi0, hz0, hz1, hz2⟩ := info_parts Yba.info86
  have hcells : ∀ j u, [Value.pointer p][j]? = some u → w.cell? ((⟨q, 0, none⟩ : Addr).add j) = some u := by
    intro j u hu
    match j, hu with
    | 0, hu => simp at hu; subst hu; simpa [Addr.add_lit] using hq
  have hc1 : 1 ≤ c := by
    rcases hown.2 with ⟨h, _⟩ | ⟨gb, cb, cur, h, _, _, h1, _⟩
    · cases h
    · cases h; exact h1
  have HC := hide hcells
  have HOW := hide hown
  clear hcells hown
  go_enter Yba.func33, Yba.ntmps33
  go_wp2_with (at_builtin; refine wpList_append_own _ rfl _ _ 62 rfl 0 86 i0 (.pointer none) 1 8 Yba.underlying62 hi0 hz0 hz1 hz2 rfl (by decide) _ 1 [.pointer p0] rfl (unhide HOW) ⟨q, 0, none⟩ 1 1 [.pointer p] rfl rfl (unhide HC) (by intro u hu; simp at hu; subst hu; rfl) (by unfold maxLen; omega) (by omega) (Nat.zero_le _) ?_)
  all_goals
    intro v' w1 hown hgrow hnz
    obtain ⟨g', c', hv⟩ : ∃ g c, v' = .slice (some ⟨g, 0, none⟩) 2 c := by
      rcases hown.2 with ⟨h, _⟩ | ⟨gb, cb, cur, h, _⟩
      · exact absurd h hnz
      · exact ⟨gb, cb, by rw [h]⟩
    subst hv
    have hT : Turn [g] w w1 := (Turn.refl _ _).grown hgrow (by intro k hk; simp [Value.ownBlock] at hk; left; simp [hk])
    have HO := hide hown
    have HB := hide hT
    clear hown hgrow hnz hT
    go_wp2
    go_ret
    exact ⟨g', c', rfl, by simpa using unhide HO, unhide HB⟩

end Go.Proofs.Ybulkapzy
