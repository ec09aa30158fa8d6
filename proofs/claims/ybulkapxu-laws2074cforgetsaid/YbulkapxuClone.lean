import Derived.Test.YbulkapxuForget
namespace Go.Proofs.Ybulkapxu
open Go.RowKit

set_option maxHeartbeats 400000 in
theorem clone_any (ga n cap : Nat) (f : Nat → Option Addr) (w : World) (hn : n ≤ 1024)
    (hrow : w.rowIs ga 40 n (fun t => .pointer (f t))) :
    Calls Yba.prog 14 #[.slice (some ⟨ga, 0, none⟩) n cap] w fun e w' => ∃ gb cb, e = .returned (.slice (some ⟨gb, 0, none⟩) n cb) ∧ w.heap.size ≤ gb ∧ gb < w'.heap.size ∧
      (∀ t, t < n → w'.cell? ⟨gb, t, none⟩ = some (.pointer (f t))) ∧ Below w.heap.size w w' := by
  obtain ⟨i0, hi0, hz0, hz1, hz2⟩ := info_parts Yba.info40
  have hnil := fun wx => Lib.run_eql_slice_nil (P := Yba.prog) wx 27 40 (some ⟨ga, 0, none⟩) n cap 0 0 Yba.underlying27
  obtain ⟨cs, hcs⟩ : ∃ cs : List Value, cs = (List.range n).map (fun t => .pointer (f t)) := ⟨_, rfl⟩
  have hl : cs.length = n * 1 := by rw [hcs]; simp
  have hget : ∀ t, t < n → cs[t]? = some (.pointer (f t)) := by
    intro t ht
    rw [hcs, List.getElem?_map, List.getElem?_range ht]
    rfl
  have h1c : ∀ u ∈ cs, u.oneCell' = true := by
    intro u hu
    rw [hcs] at hu
    obtain ⟨x, _, rfl⟩ := List.mem_map.1 hu
    rfl
  have hcells : ∀ o, ∀ j u, cs[j]? = some u → (w.alloc o).cell? ((⟨ga, 0, none⟩ : Addr).add j) = some u := by
    intro o j u hu
    have hj : j < n := by have := (List.getElem?_eq_some_iff.1 hu).1; omega
    rw [hget j hj] at hu
    rw [Addr.add_lit, Nat.zero_add]
    exact ((hrow.alloc o).cell hj).trans hu
  have HC := hide hcells
  have HL := hide hl
  have H1 := hide h1c
  have HG := hide hget
  clear hcells hl h1c hget hcs hrow
  go_enter Yba.func14, Yba.ntmps14
  go_wp2_with (at_builtin; refine wpList_append_own _ rfl _ _ 27 rfl w.heap.size 40 i0 (.pointer none) 1 8 Yba.underlying27 hi0 hz0 hz1 hz2 rfl (by decide) _ 0 [] rfl (World.ownsRow_lit w #[] 0 (Nat.le_refl _) (by decide) rfl) ⟨ga, 0, none⟩ n cap cs rfl (unhide HL) (unhide HC _) (unhide H1) (by unfold maxLen; omega) (by omega) (by simp) ?_)
  intro v' w1 hown hgrow hnz
  have hv : ∃ gb cb, v' = .slice (some ⟨gb, 0, none⟩) n cb := by
    rcases hown.2 with ⟨h, _⟩ | ⟨gb, cb, cur, h, _⟩
    · exact absurd h hnz
    · exact ⟨gb, cb, by rw [h]⟩
  obtain ⟨gb, cb, hv⟩ := hv
  have hown2 : w1.ownsRow w.heap.size 40 1 (.slice (some ⟨gb, 0, none⟩) n cb) n cs := by rw [hv] at hown; simpa using hown
  have hlt := hown2.lt gb rfl
  have hbel : Below w.heap.size w w1 := ((Below.refl _ _).alloc (Nat.le_refl _) _).grown hgrow (by simp) (by intro k hk; simp [Value.ownBlock] at hk; omega)
  have HO := hide hown2
  have HB := hide hbel
  rw [hv]
  clear hown hgrow hnz hv hown2 hbel
  go_wp2
  go_ret
  refine ⟨gb, cb, rfl, hlt.1, hlt.2, fun t ht => ?_, unhide HB⟩
  rw [(unhide HO).cellAt t (by omega), unhide HG t ht]

end Go.Proofs.Ybulkapxu
