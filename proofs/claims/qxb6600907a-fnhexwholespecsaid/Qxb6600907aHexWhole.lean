/- THE WALK OF FnHexWholeSpec. By an AI agent. -/
import Derived.Test.Qxb6600907aHexRun
namespace Go.Proofs.Qxb6600907a
open Go.RowKit
set_option linter.unusedVariables false
set_option linter.unusedSimpArgs false

theorem bounds_i64 {a : Int} (h : (Lit.int .i64 a).wf = true) : -9223372036854775808 ≤ a ∧ a ≤ 9223372036854775807 := by
  simp only [Lit.wf, IntKind.min, IntKind.max, IntKind.signed, IntKind.bits, Bool.and_eq_true, decide_eq_true_eq] at h
  simp at h
  omega

set_option maxHeartbeats 1000000 in
theorem hexWhole_walk (a0 : Option Addr) (len0 cap0 : Nat) (a1 a2 : Int) (xs : List Int) (w : World) (hx : Came w a0 len0 xs) (h1 : (Lit.int .i64 a1).wf = true) :
    Calls Try.prog 3 #[.slice a0 len0 cap0, .int .i64 a1, .int .i64 a2] w fun e w' => e = .returned (.bool true) ∧ Below w.heap.size w w' := by
  have hlen : xs.length = len0 := hx.1
  have hwf := hx.2.2.2
  have hb1 := bounds_i64 h1
  clear h1
  by_cases hbig : 1048576 < len0
  · clear hwf
    go_enter Try.func3, Try.ntmps3
    go_wp2_with fail
    refine (zz11_no _ _ _ _ _ _ hbig).mono ?_
    rintro e w' ⟨rfl, rfl⟩
    go_wp2_with fail
    go_ret
    exact ⟨rfl, Below.refl _ _⟩
  by_cases hmid : 524288 < len0
  · clear hwf
    go_enter Try.func3, Try.ntmps3
    go_wp2_with fail
    refine (zz11_yes _ _ _ _ _ _ (by omega)).mono ?_
    rintro e w' ⟨rfl, rfl⟩
    go_wp2_with fail
    go_ret
    exact ⟨rfl, Below.refl _ _⟩
  by_cases hneg : a1 < 0
  · clear hwf
    go_enter Try.func3, Try.ntmps3
    go_wp2_with fail
    refine (zz11_yes _ _ _ _ _ _ (by omega)).mono ?_
    rintro e w' ⟨rfl, rfl⟩
    go_wp2_with fail
    go_ret
    exact ⟨rfl, Below.refl _ _⟩
  have g1 : decide (a1 < 0) = false := by simpa using hneg
  by_cases hneg2 : a2 < 0
  · clear hwf
    go_enter Try.func3, Try.ntmps3
    go_wp2_with fail
    refine (zz11_yes _ _ _ _ _ _ (by omega)).mono ?_
    rintro e w' ⟨rfl, rfl⟩
    go_wp2_with fail
    go_ret
    exact ⟨rfl, Below.refl _ _⟩
  have g2 : decide (a2 < 0) = false := by simpa using hneg2
  by_cases hlong : 65536 < a2
  · clear hwf
    go_enter Try.func3, Try.ntmps3
    go_wp2_with fail
    refine (zz11_yes _ _ _ _ _ _ (by omega)).mono ?_
    rintro e w' ⟨rfl, rfl⟩
    go_wp2_with fail
    go_ret
    exact ⟨rfl, Below.refl _ _⟩
  have g3 : decide (65536 < a2) = false := by simpa using hlong
  obtain ⟨i, rfl⟩ := Int.eq_ofNat_of_zero_le (by omega : 0 ≤ a1)
  obtain ⟨n, rfl⟩ := Int.eq_ofNat_of_zero_le (by omega : 0 ≤ a2)
  have K := hid (copy_any a0 len0 cap0 xs w hx (by omega))
  have C0 := hid (fun (B : Nat) (v : Value) (wx : World) (ho : wx.ownsRow B 34 1 v len0 (ints xs)) => zzHex_any B i n v xs wx (by rw [hlen]; exact ho) (by omega) hb1.2 (by omega) hwf)
  have C1 := hid (fun (B : Nat) (v : Value) (wx : World) (ho : wx.ownsRow B 34 1 v len0 (ints xs)) => hexRun_any B i n v xs wx (by rw [hlen]; exact ho) (by omega) hb1.2 (by omega) hwf)
  generalize hexRes xs i n = R at C0 C1
  clear hx hlen hwf
  go_enter Try.func3, Try.ntmps3
  go_wp2_with fail
  refine (zz11_yes _ _ _ _ _ _ (by omega)).mono ?_
  rintro e w' ⟨rfl, rfl⟩
  go_wp2_with fail
  refine K.out.mono ?_
  rintro e w1 ⟨v, rfl, hown1, hbel1⟩
  have D0 := hid (C0.out _ _ _ hown1)
  have HO := hid hown1
  have HB := hid hbel1
  clear hown1 hbel1 K
  go_wp2_with fail
  refine D0.out.mono ?_
  rintro e w2 ⟨rfl, hbel2⟩
  have D1 := hid (C1.out _ _ _ (own_below HO.out hbel2))
  have HB2 := hid (HB.out.trans (hbel2.mono HB.out.size))
  clear hbel2 D0
  go_wp2_with fail
  refine D1.out.mono ?_
  rintro e w3 ⟨rfl, rfl⟩
  go_wp2
  go_ret
  exact ⟨by simp, HB2.out⟩

end Go.Proofs.Qxb6600907a
