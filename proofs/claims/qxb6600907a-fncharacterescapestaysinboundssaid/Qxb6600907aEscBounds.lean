/- THE WALK OF FnCharacterEscapeStaysInBounds. By an AI agent. -/
import Derived.Test.Qxb6600907aEsc3
namespace Go.Proofs.Qxb6600907a
open Go.RowKit
set_option linter.unusedVariables false
set_option linter.unusedSimpArgs false

set_option maxHeartbeats 2000000 in
theorem escBounds_walk (a0 : Option Addr) (len0 cap0 : Nat) (a1 : Int) (xs : List Int) (w : World) (hx : Came w a0 len0 xs) :
    Calls Try.prog 6 #[.slice a0 len0 cap0, .int .i64 a1] w fun e w' => e = .returned (.bool true) ∧ Below w.heap.size w w' := by
  have hlen : xs.length = len0 := hx.1
  have hwf := hx.2.2.2
  by_cases hbig : 1048576 < len0
  · clear hwf
    go_enter Try.func6, Try.ntmps6
    go_wp2_with fail
    refine (zz22_no _ _ _ _ _ hbig).mono ?_
    rintro e w' ⟨rfl, rfl⟩
    go_wp2_with fail
    go_ret
    exact ⟨rfl, Below.refl _ _⟩
  by_cases hmid : 524288 < len0
  · clear hwf
    go_enter Try.func6, Try.ntmps6
    go_wp2_with fail
    refine (zz22_yes _ _ _ _ _ (by omega)).mono ?_
    rintro e w' ⟨rfl, rfl⟩
    go_wp2_with fail
    go_ret
    exact ⟨rfl, Below.refl _ _⟩
  by_cases hneg : a1 < 0
  · clear hwf
    go_enter Try.func6, Try.ntmps6
    go_wp2_with fail
    refine (zz22_yes _ _ _ _ _ (by omega)).mono ?_
    rintro e w' ⟨rfl, rfl⟩
    go_wp2_with fail
    go_ret
    exact ⟨rfl, Below.refl _ _⟩
  have g1 : decide (a1 < 0) = false := by simpa using hneg
  by_cases hpast : (len0 : Int) ≤ a1
  · clear hwf
    go_enter Try.func6, Try.ntmps6
    go_wp2_with fail
    refine (zz22_yes _ _ _ _ _ (by omega)).mono ?_
    rintro e w' ⟨rfl, rfl⟩
    go_wp2_with fail
    go_ret
    exact ⟨rfl, Below.refl _ _⟩
  have g2 : decide ((len0 : Int) ≤ a1) = false := by simpa using hpast
  obtain ⟨pos, rfl⟩ := Int.eq_ofNat_of_zero_le (by omega : 0 ≤ a1)
  have hpm : pos < len0 := by omega
  have hpm' : (pos : Int) < (len0 : Int) := by omega
  have K := hid (copy_any a0 len0 cap0 xs w hx (by omega))
  have C0 := hid (fun (B : Nat) (v : Value) (wx : World) (ho : wx.ownsRow B 34 1 v len0 (ints xs)) => zzEsc_any B pos v xs wx (by rw [hlen]; exact ho) (by omega) (by omega) hwf)
  have hb := getD_in xs hwf pos (by omega)
  have hbd := escRes_bound xs pos (by omega) hb.1 hb.2
  rw [hlen] at hbd
  generalize escRes xs pos = R at C0 hbd
  obtain ⟨V, np⟩ := R
  obtain ⟨b1, b2, b3, b4, b5, b6⟩ := hbd
  simp only at b1 b2 b3 b4 b5 b6 C0
  have B6 := hid b6
  have q1 : decide (V < 0) = false := by simpa using b1
  have q2 : decide (65535 < V) = false := by simpa using b2
  have q3 : decide ((np : Int) ≤ (pos : Int)) = false := by simp; omega
  have q4 : decide ((len0 : Int) < (np : Int)) = false := by simp; omega
  have q5 : decide ((pos : Int) + 5 < (np : Int)) = false := by simp; omega
  clear hx hlen hwf b6
  go_enter Try.func6, Try.ntmps6
  go_wp2_with fail
  refine (zz22_yes _ _ _ _ _ (by omega)).mono ?_
  rintro e w' ⟨rfl, rfl⟩
  go_wp2_with fail
  refine K.out.mono ?_
  rintro e w1 ⟨v, rfl, hown1, hbel1⟩
  have D0 := hid (C0.out _ _ _ hown1)
  have HO := hid hown1
  have HB := hid hbel1
  rcases hown1.2 with ⟨rfl, hz⟩ | ⟨g, cap1, cur, rfl, hgb, hg, hnc, _⟩
  · omega
  clear hown1 hbel1 K hg
  go_wp2_with fail
  refine D0.out.mono ?_
  rintro e w2 ⟨rfl, hbel2⟩
  have hcx := own_cell (own_below HO.out hbel2) pos hpm
  have HB2 := hid (HB.out.trans (hbel2.mono HB.out.size))
  clear hbel2 D0 C0
  generalize xs.getD pos 0 = c at hcx B6 hb
  by_cases c1 : c = 120
  · subst c1
    go_wp2
    go_ret
    exact ⟨rfl, HB2.out⟩
  have t1 : (c != 120) = true := by simpa using c1
  by_cases c2 : c = 117
  · subst c2
    clear c1
    go_wp2
    go_ret
    exact ⟨rfl, HB2.out⟩
  have t2 : (c != 117) = true := by simpa using c2
  cases c3 : isO c
  · have e : np = pos + 1 := B6.out c1 c2 c3
    have t4 : ((np : Int) != (pos : Int) + 1) = false := by rw [e]; simp
    rcases (isO_not c).1 c3 with h | h
    · have t3 : decide (48 ≤ c) = false := by simpa using h
      clear c1 c2 c3 e
      go_wp2
      go_ret
      exact ⟨rfl, HB2.out⟩
    · have t3 : decide (c ≤ 55) = false := by simpa using h
      clear c1 c2 c3 e
      go_wp2
      go_ret
      exact ⟨rfl, HB2.out⟩
  · obtain ⟨h1, h2⟩ := (isO_iff c).1 c3
    have t3 : decide (48 ≤ c) = true := by simpa using h1
    have t4 : decide (c ≤ 55) = true := by simpa using h2
    clear c1 c2 c3
    go_wp2
    go_ret
    exact ⟨rfl, HB2.out⟩

end Go.Proofs.Qxb6600907a
