/- THE WALK OF ZZCharacterEscape. By an AI agent. -/
import Derived.Test.Qxb6600907aEsc2
namespace Go.Proofs.Qxb6600907a
open Go.RowKit
set_option linter.unusedVariables false
set_option linter.unusedSimpArgs false

theorem zzEsc_any (B pos : Nat) (v : Value) (xs : List Int) (w : World) (hown : w.ownsRow B 34 1 v xs.length (ints xs)) (hm : xs.length ≤ 1048600) (hpos : pos < xs.length) (hw : ∀ x ∈ xs, 0 ≤ x ∧ x ≤ 65535) :
    Calls Try.prog 20 #[v, .int .i64 pos] w fun e w' => e = .returned (.tuple #[.int .i64 (escRes xs pos).1, .int .i64 ((escRes xs pos).2 : Nat)]) ∧ Below w.heap.size w w' := by
  rcases hown.2 with ⟨rfl, hz⟩ | ⟨g, cap, cur, rfl, hb, hg, hnc, _⟩
  · omega
  · have HC := hid (fun (j : Nat) (hj : j < xs.length) => own_cell hown j hj)
    have hlt : g < w.heap.size := (Array.getElem?_eq_some_iff.1 hg).1
    have C := hid (fun (wx : World) h1 h2 h3 h4 => charEsc_at w.heap.size g 0 xs.length cap pos xs wx h1 h2 h3 hlt rfl hm hnc hpos h4 hw)
    generalize escRes xs pos = R at C
    clear hown hg hw
    go_enter Try.func20, Try.ntmps20
    go_wp2_with fail
    refine (C.out _ (by simp) (by simp) (by simp) ?_).mono ?_
    · intro j hj
      rw [Nat.zero_add]
      exact cell_later ((Below.refl _ _).alloc (Nat.le_refl _) _) (HC.out j hj)
    rintro e w' ⟨rfl, hk, hbel⟩
    have HB := hid (((Below.refl w.heap.size w).alloc (Nat.le_refl _) _).trans hbel)
    clear hbel
    go_wp2
    go_quiet (fail)
    go_wp2
    go_ret2
    exact ⟨rfl, below_drewN HB.out _⟩

end Go.Proofs.Qxb6600907a
