/- THE WALK OF ZZCountGroups. By an AI agent. -/
import Derived.Test.Qxb6600907aCount
namespace Go.Proofs.Qxb6600907a
open Go.RowKit
set_option linter.unusedVariables false
set_option linter.unusedSimpArgs false

set_option maxHeartbeats 400000 in
theorem zzCount_any (B : Nat) (v : Value) (xs : List Int) (w : World) (hown : w.ownsRow B 34 1 v xs.length (ints xs)) (hn : xs.length ≤ 1048600) :
    Calls Try.prog 25 #[v] w fun e w' => e = .returned (.tuple #[.int .i64 (cg xs false false 0 false).1, .bool (cg xs false false 0 false).2]) ∧ Below w.heap.size w w' := by
  rcases hown.2 with ⟨rfl, hz⟩ | ⟨g, cap, cur, rfl, hb, hg, hnc, _⟩
  · obtain rfl := List.eq_nil_of_length_eq_zero hz
    rw [cg_nil]
    clear hown hz
    go_enter Try.func25, Try.ntmps25
    go_wp2_with fail
    refine (countGroups_nil _ _ (by simp)).mono ?_
    rintro e w' ⟨rfl, q, rfl⟩
    go_wp2
    go_ret2
    exact ⟨rfl, below_drewN ((Below.refl _ _).alloc (Nat.le_refl _) _) _⟩
  · have hc := fun (j : Nat) (hj : j < xs.length) => own_cell hown j hj
    have hlt : g < w.heap.size := (Array.getElem?_eq_some_iff.1 hg).1
    generalize hR : cg xs false false 0 false = R
    have HR : Hid (cg xs false false 0 false = R) := hR
    have HC : Hid (∀ j, j < xs.length → w.cell? ⟨g, j, none⟩ = some (.int .u16 (xs.getD j 0))) := hc
    clear hown hg hc hR
    go_enter Try.func25, Try.ntmps25
    go_wp2_with fail
    have C := fun (wx : World) h1 h2 => countGroups_at w.heap.size g 0 xs.length cap xs wx h1 rfl hn hnc h2
    rw [HR.out] at C
    refine (C _ (by simp) ?_).mono ?_
    · intro j hj
      rw [Nat.zero_add]
      exact cell_later ((Below.refl _ _).alloc (Nat.le_refl _) _) (HC.out j hj)
    rintro e w' ⟨rfl, q, rfl⟩
    go_wp2
    go_ret2
    exact ⟨rfl, below_drewN ((Below.refl _ _).alloc (Nat.le_refl _) _) _⟩

end Go.Proofs.Qxb6600907a
