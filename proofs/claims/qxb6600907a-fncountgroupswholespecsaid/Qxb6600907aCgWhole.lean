/- THE WALK OF FnCountGroupsWholeSpec. By an AI agent. -/
import Derived.Test.Qxb6600907aCount2
import Derived.Test.Qxb6600907aModelCg2
namespace Go.Proofs.Qxb6600907a
open Go.RowKit
set_option linter.unusedVariables false
set_option linter.unusedSimpArgs false

theorem model_any (B : Nat) (v : Value) (xs : List Int) (w : World) (hown : w.ownsRow B 34 1 v xs.length (ints xs)) (hn : xs.length ≤ 1048600) :
    Calls Try.prog 26 #[v] w fun e w' => e = .returned (.tuple #[.int .i64 (cg xs false false 0 false).1, .bool (cg xs false false 0 false).2]) ∧ w = w' := by
  rcases hown.2 with ⟨rfl, hz⟩ | ⟨g, cap, cur, rfl, hb, hg, hnc, _⟩
  · obtain rfl := List.eq_nil_of_length_eq_zero hz
    rw [cg_nil]
    exact countModel_nil w
  · exact countModel_at g 0 xs.length cap xs w rfl hn (fun j hj => by rw [Nat.zero_add]; exact own_cell hown j hj)

set_option maxHeartbeats 1000000 in
theorem cgWhole_walk (a0 : Option Addr) (len0 cap0 : Nat) (xs : List Int) (w : World) (hx : Came w a0 len0 xs) :
    Calls Try.prog 8 #[.slice a0 len0 cap0] w fun e w' => e = .returned (.bool true) ∧ Below w.heap.size w w' := by
  have hlen : xs.length = len0 := hx.1
  by_cases hbig : 1048576 < len0
  · go_enter Try.func8, Try.ntmps8
    go_wp2_with fail
    refine (zz24_no _ _ _ _ hbig).mono ?_
    rintro e w' ⟨rfl, rfl⟩
    go_wp2_with fail
    go_ret
    exact ⟨rfl, Below.refl _ _⟩
  by_cases hmid : 524288 < len0
  · go_enter Try.func8, Try.ntmps8
    go_wp2_with fail
    refine (zz24_yes _ _ _ _ (by omega)).mono ?_
    rintro e w' ⟨rfl, rfl⟩
    go_wp2_with fail
    go_ret
    exact ⟨rfl, Below.refl _ _⟩
  have K := hid (copy_any a0 len0 cap0 xs w hx (by omega))
  have C0 := hid (fun (B : Nat) (v : Value) (wx : World) (ho : wx.ownsRow B 34 1 v len0 (ints xs)) => zzCount_any B v xs wx (by rw [hlen]; exact ho) (by omega))
  have C1 := hid (fun (B : Nat) (v : Value) (wx : World) (ho : wx.ownsRow B 34 1 v len0 (ints xs)) => model_any B v xs wx (by rw [hlen]; exact ho) (by omega))
  generalize cg xs false false 0 false = R at C0 C1
  clear hx hlen
  go_enter Try.func8, Try.ntmps8
  go_wp2_with fail
  refine (zz24_yes _ _ _ _ (by omega)).mono ?_
  rintro e w' ⟨rfl, rfl⟩
  go_wp2_with fail
  refine K.out.mono ?_
  rintro e w1 ⟨v, rfl, hown1, hbel1⟩
  have D0 := hid (C0.out _ _ _ hown1)
  have HO := hid hown1
  have HB := hid hbel1
  clear hown1 hbel1 K
  go_wp2_with fail
  refine D0.out.mono ?_
  rintro e w2 ⟨rfl, hbel2⟩
  have D1 := hid (C1.out _ _ _ (own_below HO.out hbel2))
  have HB2 := hid (HB.out.trans (hbel2.mono HB.out.size))
  clear hbel2 D0
  go_wp2_with fail
  refine D1.out.mono ?_
  rintro e w3 ⟨rfl, rfl⟩
  go_wp2
  go_ret
  exact ⟨by simp, HB2.out⟩

end Go.Proofs.Qxb6600907a
