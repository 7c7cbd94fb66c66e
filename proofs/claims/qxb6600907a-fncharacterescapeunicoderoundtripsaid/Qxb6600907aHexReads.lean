/- THE WALK OF FnHexReadsWhatIsWritten. By an AI agent. -/
import Derived.Test.Qxb6600907aHex2
import Derived.Test.Qxb6600907aWrite
namespace Go.Proofs.Qxb6600907a
open Go.RowKit
set_option linter.unusedVariables false
set_option linter.unusedSimpArgs false

theorem bounds_i64' {a : Int} (h : (Lit.int .i64 a).wf = true) : -9223372036854775808 ≤ a ∧ a ≤ 9223372036854775807 := by
  simp only [Lit.wf, IntKind.min, IntKind.max, IntKind.signed, IntKind.bits, Bool.and_eq_true, decide_eq_true_eq] at h
  simp at h
  omega

theorem came_later {w w1 : World} {a : Option Addr} {len : Nat} {xs : List Int} (h : Came w a len xs) (hb : Below w.heap.size w w1) : Came w1 a len xs :=
  ⟨h.1, h.2.1, fun x hx i hi => cell_later hb (h.2.2.1 x hx i hi), h.2.2.2⟩

theorem own_form {w : World} {B n : Nat} {v : Value} {xs : List Value} (h : w.ownsRow B 34 1 v n xs) : ∃ ao c, v = .slice ao n c := by
  rcases h.2 with ⟨rfl, hz⟩ | ⟨g, cap, cur, rfl, _⟩
  · exact ⟨none, 0, by rw [hz]⟩
  · exact ⟨_, _, rfl⟩

theorem own_ne {w : World} {B n k : Nat} {v : Value} {xs : List Value} (h : w.ownsRow B 34 1 v n xs) (hk : w.heap.size ≤ k) : v.ownBlock ≠ some k := by
  intro e
  have := (h.lt k e).2
  omega

set_option maxHeartbeats 2000000 in
theorem hexReads_walk (a0 : Option Addr) (len0 cap0 : Nat) (a1 a2 : Int) (u : Bool) (a4 : Option Addr) (len4 cap4 : Nat) (P S : List Int) (w : World) (hP : Came w a0 len0 P) (hS : Came w a4 len4 S) (h1 : (Lit.int .i64 a1).wf = true) :
    Calls Try.prog 4 #[.slice a0 len0 cap0, .int .i64 a1, .int .i64 a2, .bool u, .slice a4 len4 cap4] w fun e w' => e = .returned (.bool true) ∧ Below w.heap.size w w' := by
  have hb1 := bounds_i64' h1
  have HP := hid hP
  have HS := hid hS
  clear h1 hP hS
  by_cases hbig : 1048576 < len0 + len4
  · go_enter Try.func4, Try.ntmps4
    go_wp2_with fail
    refine (zz15_no _ _ _ _ _ _ _ _ _ _ hbig).mono ?_
    rintro e w' ⟨rfl, rfl⟩
    go_wp2_with fail
    go_ret
    exact ⟨rfl, Below.refl _ _⟩
  by_cases hm1 : 262144 < len0
  · have g1 : decide ((262144 : Int) < (len0 : Int)) = true := by simp; omega
    go_enter Try.func4, Try.ntmps4
    go_wp2_with fail
    refine (zz15_yes _ _ _ _ _ _ _ _ _ _ (by omega)).mono ?_
    rintro e w' ⟨rfl, rfl⟩
    go_wp2_with fail
    go_ret
    exact ⟨rfl, Below.refl _ _⟩
  have g1 : decide ((262144 : Int) < (len0 : Int)) = false := by simp; omega
  by_cases hm2 : 262144 < len4
  · have g2 : decide ((262144 : Int) < (len4 : Int)) = true := by simp; omega
    go_enter Try.func4, Try.ntmps4
    go_wp2_with fail
    refine (zz15_yes _ _ _ _ _ _ _ _ _ _ (by omega)).mono ?_
    rintro e w' ⟨rfl, rfl⟩
    go_wp2_with fail
    go_ret
    exact ⟨rfl, Below.refl _ _⟩
  have g2 : decide ((262144 : Int) < (len4 : Int)) = false := by simp; omega
  by_cases hn1 : a2 < 0
  · have g3 : decide (a2 < 0) = true := by simpa using hn1
    go_enter Try.func4, Try.ntmps4
    go_wp2_with fail
    refine (zz15_yes _ _ _ _ _ _ _ _ _ _ (by omega)).mono ?_
    rintro e w' ⟨rfl, rfl⟩
    go_wp2_with fail
    go_ret
    exact ⟨rfl, Below.refl _ _⟩
  have g3 : decide (a2 < 0) = false := by simpa using hn1
  by_cases hn2 : 15 < a2
  · have g4 : decide (15 < a2) = true := by simpa using hn2
    go_enter Try.func4, Try.ntmps4
    go_wp2_with fail
    refine (zz15_yes _ _ _ _ _ _ _ _ _ _ (by omega)).mono ?_
    rintro e w' ⟨rfl, rfl⟩
    go_wp2_with fail
    go_ret
    exact ⟨rfl, Below.refl _ _⟩
  have g4 : decide (15 < a2) = false := by simpa using hn2
  by_cases hv1 : a1 < 0
  · have g5 : decide (a1 < 0) = true := by simpa using hv1
    go_enter Try.func4, Try.ntmps4
    go_wp2_with fail
    refine (zz15_yes _ _ _ _ _ _ _ _ _ _ (by omega)).mono ?_
    rintro e w' ⟨rfl, rfl⟩
    go_wp2_with fail
    go_ret
    exact ⟨rfl, Below.refl _ _⟩
  have g5 : decide (a1 < 0) = false := by simpa using hv1
  obtain ⟨v, rfl⟩ := Int.eq_ofNat_of_zero_le (by omega : 0 ≤ a1)
  obtain ⟨n, rfl⟩ := Int.eq_ofNat_of_zero_le (by omega : 0 ≤ a2)
  have hn15 : n ≤ 15 := by omega
  obtain ⟨Q, hQ⟩ : ∃ Q : Int, Q = ((16 ^ n : Nat) : Int) := ⟨_, rfl⟩
  have HQ := hid hQ
  have PW := hid (fun wx => pow16_any n Q wx hn15 hQ)
  clear hQ
  by_cases hv2 : Q ≤ (v : Int)
  · have g6 : decide (Q ≤ (v : Int)) = true := by simpa using hv2
    go_enter Try.func4, Try.ntmps4
    go_wp2_with fail
    refine (zz15_yes _ _ _ _ _ _ _ _ _ _ (by omega)).mono ?_
    rintro e w' ⟨rfl, rfl⟩
    go_wp2_with fail
    refine (PW.out _).mono ?_
    rintro e w' ⟨rfl, rfl⟩
    go_wp2_with fail
    go_ret
    exact ⟨rfl, Below.refl _ _⟩
  have g6 : decide (Q ≤ (v : Int)) = false := by simpa using hv2
  have hv3 : v < 16 ^ n := by have := HQ.out; omega
  have hPl : P.length = len0 := HP.out.1
  have hSl : S.length = len4 := HS.out.1
  have HR := hexRes_written P S v u n hn15 hv3
  have hWl := hexW_length v u n
  have C := hid (fun (B : Nat) (x : Value) (wx : World) (ho : wx.ownsRow B 34 1 x (len0 + n + len4) (ints (P ++ hexW v u n ++ S))) =>
    zzHex_any B len0 n x (P ++ hexW v u n ++ S) wx (by rw [show (P ++ hexW v u n ++ S).length = len0 + n + len4 by simp [hPl, hSl, hWl]; omega]; exact ho) (by simp [hPl, hSl, hWl]; omega) (by omega) (by omega)
      (fun x hx => by
        rcases List.mem_append.1 hx with hx | hx
        · rcases List.mem_append.1 hx with hx | hx
          · exact HP.out.2.2.2 x hx
          · exact hexW_bound v u n x hx
        · exact HS.out.2.2.2 x hx))
  rw [← hPl, HR] at C
  rw [hPl] at C
  have A1 : Hid (∀ (B B' G : Nat) (x : Value) (wx : World), wx.ownsRow B 34 1 (.slice (some ⟨G, 0, none⟩) 0 (len0 + n + len4)) 0 (ints []) → wx.ownsRow B' 34 1 x len0 (ints P) → x.ownBlock ≠ some G →
      Calls Try.prog 17 #[.slice (some ⟨G, 0, none⟩) 0 (len0 + n + len4), x] wx fun e w' => e = .returned (.slice (some ⟨G, 0, none⟩) len0 (len0 + n + len4)) ∧
      w'.ownsRow B 34 1 (.slice (some ⟨G, 0, none⟩) len0 (len0 + n + len4)) len0 (ints P) ∧ wx.grownBy w' (some G)) := by
    intro B B' G x wx ho hs hne
    have := app_any G 0 (len0 + n + len4) B B' x [] P wx ho (by rw [hPl]; exact hs) hne (by omega) (by omega)
    rw [hPl, Nat.zero_add] at this
    exact this
  have A2 : Hid (∀ (B B' G : Nat) (x : Value) (wx : World), wx.ownsRow B 34 1 (.slice (some ⟨G, 0, none⟩) (len0 + n) (len0 + n + len4)) (len0 + n) (ints (P ++ hexW v u n)) → wx.ownsRow B' 34 1 x len4 (ints S) → x.ownBlock ≠ some G →
      Calls Try.prog 17 #[.slice (some ⟨G, 0, none⟩) (len0 + n) (len0 + n + len4), x] wx fun e w' => e = .returned (.slice (some ⟨G, 0, none⟩) (len0 + n + len4) (len0 + n + len4)) ∧
      w'.ownsRow B 34 1 (.slice (some ⟨G, 0, none⟩) (len0 + n + len4) (len0 + n + len4)) (len0 + n + len4) (ints (P ++ hexW v u n ++ S)) ∧ wx.grownBy w' (some G)) := by
    intro B B' G x wx ho hs hne
    have := app_any G (len0 + n) (len0 + n + len4) B B' x (P ++ hexW v u n) S wx ho (by rw [hSl]; exact hs) hne (by omega) (by omega)
    rw [hSl] at this
    exact this
  have AH := hid (fun (B G : Nat) (wx : World) ho => appHex_any G len0 (len0 + n + len4) B v n u P wx ho (by omega) (by omega) hn15 hb1.2)
  have K1 := hid (copy_any a0 len0 cap0 P w HP.out (by omega))
  have K2 := hid (fun wx (h : Below w.heap.size w wx) => copy_any a4 len4 cap4 S wx (came_later HS.out h) (by omega))
  obtain ⟨i0, hi, hz0, hz1, hz2⟩ := info_parts info34
  clear HP HS HR hWl hPl hSl hv3 HQ
  go_enter Try.func4, Try.ntmps4
  go_wp2_with fail
  refine (zz15_yes _ _ _ _ _ _ _ _ _ _ (by omega)).mono ?_
  rintro e w' ⟨rfl, rfl⟩
  go_wp2_with fail
  refine (PW.out _).mono ?_
  rintro e w' ⟨rfl, rfl⟩
  go_wp2_with fail
  refine K1.out.mono ?_
  rintro e w1 ⟨v1, rfl, hown1, hbel1⟩
  obtain ⟨ao1, c1, rfl⟩ := own_form hown1
  have L2 := hid (K2.out w1 hbel1)
  have O1 := hid hown1
  have B1 := hid hbel1
  clear hown1 hbel1 K1 K2 PW
  go_wp2_with fail
  refine L2.out.mono ?_
  rintro e w2 ⟨v4, rfl, hown2, hbel2⟩
  obtain ⟨ao4, c4, rfl⟩ := own_form hown2
  have O2 := hid (own_below O1.out hbel2)
  have N2 := hid (own_ne O2.out (Nat.le_refl _))
  have O4 := hid hown2
  have N4 := hid (own_ne O4.out (Nat.le_refl _))
  have B2 := hid (B1.out.trans (hbel2.mono B1.out.size))
  clear hown2 hbel2 L2 O1 B1
  go_wp2_with (at_make; refine wpList_make_own _ rfl _ _ 22 rfl w2.heap.size 34 i0 (.int .u16 0) 1 Try.underlying22 hi hz0 hz1 _ _ _ (len0 + n + len4) rfl rfl (by omega) (by rw [hz2]; omega) (by unfold maxLen; omega) (Nat.le_refl _) ?_)
  intro w3 hown3 hgrow3
  have hown3' : w3.ownsRow w2.heap.size 34 1 (.slice (some ⟨w2.heap.size, 0, none⟩) 0 (len0 + n + len4)) 0 (ints []) := hown3
  have D1 := hid (A1.out _ _ _ _ _ hown3' (O2.out.kept hgrow3 (by cases hv : Value.ownBlock _ <;> simp)) N2.out)
  have O5 := hid (O4.out.kept hgrow3 (by cases hv : Value.ownBlock _ <;> simp))
  have B3 := hid (B2.out.grown hgrow3 B2.out.size (fun k h => by cases h))
  clear hown3 hown3' hgrow3 O4
  go_wp2_with fail
  refine D1.out.mono ?_
  rintro e w4 ⟨rfl, hown4, hgrow4⟩
  have D2 := hid (AH.out _ _ _ hown4)
  have O6 := hid (O5.out.kept hgrow4 (.inr N4.out))
  have B4 := hid (B3.out.grown hgrow4 B3.out.size (fun k h => by cases h; exact B2.out.size))
  clear hown4 hgrow4 D1 A1 AH
  go_wp2_with fail
  refine D2.out.mono ?_
  rintro e w5 ⟨rfl, hown5, hgrow5⟩
  have D3 := hid (A2.out _ _ _ _ _ hown5 (O6.out.kept hgrow5 (.inr N4.out)) N4.out)
  have B5 := hid (B4.out.grown hgrow5 B4.out.size (fun k h => by cases h; exact B2.out.size))
  clear hown5 hgrow5 D2 A2
  go_wp2_with fail
  refine D3.out.mono ?_
  rintro e w6 ⟨rfl, hown6, hgrow6⟩
  have D4 := hid (C.out _ _ _ hown6)
  have B6 := hid (B5.out.grown hgrow6 B5.out.size (fun k h => by cases h; exact B2.out.size))
  clear hown6 hgrow6 D3 C
  go_wp2_with fail
  refine D4.out.mono ?_
  rintro e w7 ⟨rfl, hbel7⟩
  have B7 := hid (B6.out.trans (hbel7.mono B6.out.size))
  clear hbel7 D4
  go_wp2
  go_ret
  exact ⟨by simp, B7.out⟩

end Go.Proofs.Qxb6600907a
