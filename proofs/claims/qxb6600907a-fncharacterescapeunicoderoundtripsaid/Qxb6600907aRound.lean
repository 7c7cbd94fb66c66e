/- THE WALK OF FnCharacterEscapeUnicodeRoundTrip. By an AI agent. -/
import Derived.Test.Qxb6600907aEsc3
import Derived.Test.Qxb6600907aHexReads
import Derived.Test.Qxb6600907aPlainRound
namespace Go.Proofs.Qxb6600907a
open Go.RowKit
set_option linter.unusedVariables false
set_option linter.unusedSimpArgs false

theorem bounds_u16 {a : Int} (h : (Lit.int .u16 a).wf = true) : 0 ≤ a ∧ a ≤ 65535 := by
  simp only [Lit.wf, IntKind.min, IntKind.max, IntKind.signed, IntKind.bits, Bool.and_eq_true, decide_eq_true_eq] at h
  simp at h
  omega

theorem and255 (x : Nat) (h : x < 9223372036854775808) : bits .and .i64 (x : Int) 255 = ((x % 256 : Nat) : Int) := by
  have h1 : (BitVec.ofInt 64 (x : Int)).toNat = x := by
    rw [BitVec.ofInt_natCast, BitVec.toNat_ofNat]; exact Nat.mod_eq_of_lt (by omega)
  have h2 : x &&& 255 = x % 256 := Nat.and_two_pow_sub_one_eq_mod x 8
  show IntKind.i64.wrap ((BitVec.ofInt 64 (x : Int) &&& BitVec.ofInt 64 (255 : Int)).toNat : Int) = _
  rw [BitVec.toNat_and, h1, show (BitVec.ofInt 64 (255 : Int)).toNat = 255 from by decide, h2]
  have := Nat.mod_lt x (by omega : 256 > 0)
  rw [IntKind.wrap_i64]
  omega

set_option maxHeartbeats 4000000 in
theorem round_walk (a0 : Option Addr) (len0 cap0 : Nat) (a1 : Int) (u : Bool) (a3 : Option Addr) (len3 cap3 : Nat) (P S : List Int) (w : World) (hP : Came w a0 len0 P) (hS : Came w a3 len3 S) (h1 : (Lit.int .u16 a1).wf = true) :
    Calls Try.prog 7 #[.slice a0 len0 cap0, .int .u16 a1, .bool u, .slice a3 len3 cap3] w fun e w' => e = .returned (.bool true) ∧ Below w.heap.size w w' := by
  have hb1 := bounds_u16 h1
  have HP := hid hP
  have HS := hid hS
  clear h1 hP hS
  by_cases hbig : 1048576 < len0 + len3
  · go_enter Try.func7, Try.ntmps7
    go_wp2_with fail
    refine (zz23_no _ _ _ _ _ _ _ _ _ hbig).mono ?_
    rintro e w' ⟨rfl, rfl⟩
    go_wp2_with fail
    go_ret
    exact ⟨rfl, Below.refl _ _⟩
  by_cases hm1 : 131072 < len0
  · have g1 : decide ((131072 : Int) < (len0 : Int)) = true := by simp; omega
    go_enter Try.func7, Try.ntmps7
    go_wp2_with fail
    refine (zz23_yes _ _ _ _ _ _ _ _ _ (by omega)).mono ?_
    rintro e w' ⟨rfl, rfl⟩
    go_wp2_with fail
    go_ret
    exact ⟨rfl, Below.refl _ _⟩
  have g1 : decide ((131072 : Int) < (len0 : Int)) = false := by simp; omega
  by_cases hm2 : 131072 < len3
  · have g2 : decide ((131072 : Int) < (len3 : Int)) = true := by simp; omega
    go_enter Try.func7, Try.ntmps7
    go_wp2_with fail
    refine (zz23_yes _ _ _ _ _ _ _ _ _ (by omega)).mono ?_
    rintro e w' ⟨rfl, rfl⟩
    go_wp2_with fail
    go_ret
    exact ⟨rfl, Below.refl _ _⟩
  have g2 : decide ((131072 : Int) < (len3 : Int)) = false := by simp; omega
  obtain ⟨v, rfl⟩ := Int.eq_ofNat_of_zero_le hb1.1
  have hvb : v < 65536 := by omega
  have hlow := and255 v (by omega)
  have hlb := Nat.mod_lt v (by omega : 256 > 0)
  generalize v % 256 = low at hlow hlb
  have hPl : P.length = len0 := HP.out.1
  have hSl : S.length = len3 := HS.out.1
  have Cu : Hid (∀ (B : Nat) (x : Value) (wx : World), wx.ownsRow B 34 1 x (len0 + 1 + 4 + len3) (ints (P ++ [117] ++ hexW v u 4 ++ S)) →
      Calls Try.prog 20 #[x, .int .i64 len0] wx fun e w' => e = .returned (.tuple #[.int .i64 v, .int .i64 ((len0 : Int) + 5)]) ∧ Below wx.heap.size wx w') := by
    intro B x wx ho
    have hl : (P ++ [117] ++ hexW v u 4 ++ S).length = len0 + 1 + 4 + len3 := by simp [hPl, hSl, hexW_length]; omega
    have := zzEsc_any B len0 x (P ++ [117] ++ hexW v u 4 ++ S) wx (by rw [hl]; exact ho) (by omega) (by omega)
      (fun x hx => by
        rcases List.mem_append.1 hx with hx | hx
        · rcases List.mem_append.1 hx with hx | hx
          · rcases List.mem_append.1 hx with hx | hx
            · exact HP.out.2.2.2 x hx
            · rw [List.mem_singleton] at hx; omega
          · exact hexW_bound v u 4 x hx
        · exact HS.out.2.2.2 x hx)
    have e := escRes_written_u P S v u hvb
    rw [hPl] at e
    rw [e] at this
    exact this
  have A1u : Hid (∀ (B B' G : Nat) (x : Value) (wx : World), wx.ownsRow B 34 1 (.slice (some ⟨G, 0, none⟩) 0 (len0 + 5 + len3)) 0 (ints []) → wx.ownsRow B' 34 1 x len0 (ints P) → x.ownBlock ≠ some G →
      Calls Try.prog 17 #[.slice (some ⟨G, 0, none⟩) 0 (len0 + 5 + len3), x] wx fun e w' => e = .returned (.slice (some ⟨G, 0, none⟩) len0 (len0 + 5 + len3)) ∧
      w'.ownsRow B 34 1 (.slice (some ⟨G, 0, none⟩) len0 (len0 + 5 + len3)) len0 (ints P) ∧ wx.grownBy w' (some G)) := by
    intro B B' G x wx ho hs hne
    have := app_any G 0 (len0 + 5 + len3) B B' x [] P wx ho (by rw [hPl]; exact hs) hne (by omega) (by omega)
    rw [hPl, Nat.zero_add] at this
    exact this
  have AHu : Hid (∀ (B G : Nat) (wx : World), wx.ownsRow B 34 1 (.slice (some ⟨G, 0, none⟩) (len0 + 1) (len0 + 5 + len3)) (len0 + 1) (ints (P ++ [117])) →
      Calls Try.prog 18 #[.slice (some ⟨G, 0, none⟩) (len0 + 1) (len0 + 5 + len3), .int .i64 v, .int .i64 4, .bool u] wx fun e w' => e = .returned (.slice (some ⟨G, 0, none⟩) (len0 + 1 + 4) (len0 + 5 + len3)) ∧
      w'.ownsRow B 34 1 (.slice (some ⟨G, 0, none⟩) (len0 + 1 + 4) (len0 + 5 + len3)) (len0 + 1 + 4) (ints (P ++ [117] ++ hexW v u 4)) ∧ wx.grownBy w' (some G)) := by
    intro B G wx ho
    exact appHex_any G (len0 + 1) (len0 + 5 + len3) B v 4 u (P ++ [117]) wx ho (by omega) (by omega) (by omega) (by omega)
  have A2u : Hid (∀ (B B' G : Nat) (x : Value) (wx : World), wx.ownsRow B 34 1 (.slice (some ⟨G, 0, none⟩) (len0 + 1 + 4) (len0 + 5 + len3)) (len0 + 1 + 4) (ints (P ++ [117] ++ hexW v u 4)) → wx.ownsRow B' 34 1 x len3 (ints S) → x.ownBlock ≠ some G →
      Calls Try.prog 17 #[.slice (some ⟨G, 0, none⟩) (len0 + 1 + 4) (len0 + 5 + len3), x] wx fun e w' => e = .returned (.slice (some ⟨G, 0, none⟩) (len0 + 1 + 4 + len3) (len0 + 5 + len3)) ∧
      w'.ownsRow B 34 1 (.slice (some ⟨G, 0, none⟩) (len0 + 1 + 4 + len3) (len0 + 5 + len3)) (len0 + 1 + 4 + len3) (ints (P ++ [117] ++ hexW v u 4 ++ S)) ∧ wx.grownBy w' (some G)) := by
    intro B B' G x wx ho hs hne
    have := app_any G (len0 + 1 + 4) (len0 + 5 + len3) B B' x (P ++ [117] ++ hexW v u 4) S wx ho (by rw [hSl]; exact hs) hne (by omega) (by omega)
    rw [hSl] at this
    exact this
  have Cx : Hid (∀ (B : Nat) (x : Value) (wx : World), wx.ownsRow B 34 1 x (len0 + 1 + 2 + len3) (ints (P ++ [120] ++ hexW low u 2 ++ S)) →
      Calls Try.prog 20 #[x, .int .i64 len0] wx fun e w' => e = .returned (.tuple #[.int .i64 low, .int .i64 ((len0 : Int) + 3)]) ∧ Below wx.heap.size wx w') := by
    intro B x wx ho
    have hl : (P ++ [120] ++ hexW low u 2 ++ S).length = len0 + 1 + 2 + len3 := by simp [hPl, hSl, hexW_length]; omega
    have := zzEsc_any B len0 x (P ++ [120] ++ hexW low u 2 ++ S) wx (by rw [hl]; exact ho) (by omega) (by omega)
      (fun x hx => by
        rcases List.mem_append.1 hx with hx | hx
        · rcases List.mem_append.1 hx with hx | hx
          · rcases List.mem_append.1 hx with hx | hx
            · exact HP.out.2.2.2 x hx
            · rw [List.mem_singleton] at hx; omega
          · exact hexW_bound low u 2 x hx
        · exact HS.out.2.2.2 x hx)
    have e := escRes_written_x P S low u hlb
    rw [hPl] at e
    rw [e] at this
    exact this
  have A1x : Hid (∀ (B B' G : Nat) (x : Value) (wx : World), wx.ownsRow B 34 1 (.slice (some ⟨G, 0, none⟩) 0 (len0 + 3 + len3)) 0 (ints []) → wx.ownsRow B' 34 1 x len0 (ints P) → x.ownBlock ≠ some G →
      Calls Try.prog 17 #[.slice (some ⟨G, 0, none⟩) 0 (len0 + 3 + len3), x] wx fun e w' => e = .returned (.slice (some ⟨G, 0, none⟩) len0 (len0 + 3 + len3)) ∧
      w'.ownsRow B 34 1 (.slice (some ⟨G, 0, none⟩) len0 (len0 + 3 + len3)) len0 (ints P) ∧ wx.grownBy w' (some G)) := by
    intro B B' G x wx ho hs hne
    have := app_any G 0 (len0 + 3 + len3) B B' x [] P wx ho (by rw [hPl]; exact hs) hne (by omega) (by omega)
    rw [hPl, Nat.zero_add] at this
    exact this
  have AHx : Hid (∀ (B G : Nat) (wx : World), wx.ownsRow B 34 1 (.slice (some ⟨G, 0, none⟩) (len0 + 1) (len0 + 3 + len3)) (len0 + 1) (ints (P ++ [120])) →
      Calls Try.prog 18 #[.slice (some ⟨G, 0, none⟩) (len0 + 1) (len0 + 3 + len3), .int .i64 low, .int .i64 2, .bool u] wx fun e w' => e = .returned (.slice (some ⟨G, 0, none⟩) (len0 + 1 + 2) (len0 + 3 + len3)) ∧
      w'.ownsRow B 34 1 (.slice (some ⟨G, 0, none⟩) (len0 + 1 + 2) (len0 + 3 + len3)) (len0 + 1 + 2) (ints (P ++ [120] ++ hexW low u 2)) ∧ wx.grownBy w' (some G)) := by
    intro B G wx ho
    exact appHex_any G (len0 + 1) (len0 + 3 + len3) B low 2 u (P ++ [120]) wx ho (by omega) (by omega) (by omega) (by omega)
  have A2x : Hid (∀ (B B' G : Nat) (x : Value) (wx : World), wx.ownsRow B 34 1 (.slice (some ⟨G, 0, none⟩) (len0 + 1 + 2) (len0 + 3 + len3)) (len0 + 1 + 2) (ints (P ++ [120] ++ hexW low u 2)) → wx.ownsRow B' 34 1 x len3 (ints S) → x.ownBlock ≠ some G →
      Calls Try.prog 17 #[.slice (some ⟨G, 0, none⟩) (len0 + 1 + 2) (len0 + 3 + len3), x] wx fun e w' => e = .returned (.slice (some ⟨G, 0, none⟩) (len0 + 1 + 2 + len3) (len0 + 3 + len3)) ∧
      w'.ownsRow B 34 1 (.slice (some ⟨G, 0, none⟩) (len0 + 1 + 2 + len3) (len0 + 3 + len3)) (len0 + 1 + 2 + len3) (ints (P ++ [120] ++ hexW low u 2 ++ S)) ∧ wx.grownBy w' (some G)) := by
    intro B B' G x wx ho hs hne
    have := app_any G (len0 + 1 + 2) (len0 + 3 + len3) B B' x (P ++ [120] ++ hexW low u 2) S wx ho (by rw [hSl]; exact hs) hne (by omega) (by omega)
    rw [hSl] at this
    exact this
  have K1 := hid (copy_any a0 len0 cap0 P w HP.out (by omega))
  have K2 := hid (fun wx (h : Below w.heap.size w wx) => copy_any a3 len3 cap3 S wx (came_later HS.out h) (by omega))
  obtain ⟨i0, hi, hz0, hz1, hz2⟩ := info_parts info34
  clear HP HS hPl hSl
  go_enter Try.func7, Try.ntmps7
  go_wp2_with fail
  refine (zz23_yes _ _ _ _ _ _ _ _ _ (by omega)).mono ?_
  rintro e w' ⟨rfl, rfl⟩
  go_wp2_with fail
  refine K1.out.mono ?_
  rintro e w1 ⟨v1, rfl, hown1, hbel1⟩
  obtain ⟨ao1, c1, rfl⟩ := own_form hown1
  have L2 := hid (K2.out w1 hbel1)
  have O1 := hid hown1
  have B1 := hid hbel1
  clear hown1 hbel1 K1 K2
  go_wp2_with fail
  refine L2.out.mono ?_
  rintro e w2 ⟨v4, rfl, hown2, hbel2⟩
  obtain ⟨ao4, c4, rfl⟩ := own_form hown2
  have O2 := hid (own_below O1.out hbel2)
  have N2 := hid (own_ne O2.out (Nat.le_refl _))
  have O4 := hid hown2
  have N4 := hid (own_ne O4.out (Nat.le_refl _))
  have B2 := hid (B1.out.trans (hbel2.mono B1.out.size))
  clear hown2 hbel2 L2 O1 B1
  go_wp2_with (at_make; refine wpList_make_own _ rfl _ _ 22 rfl w2.heap.size 34 i0 (.int .u16 0) 1 Try.underlying22 hi hz0 hz1 _ _ _ (len0 + 5 + len3) rfl rfl (by omega) (by rw [hz2]; omega) (by unfold maxLen; omega) (Nat.le_refl _) ?_)
  intro w3 hownA hgrowA
  have hownA' : w3.ownsRow w2.heap.size 34 1 (.slice (some ⟨w2.heap.size, 0, none⟩) 0 (len0 + 5 + len3)) 0 (ints []) := hownA
  have P0u := hid (O2.out.kept hgrowA (by cases hv : Value.ownBlock _ <;> simp))
  have S0u := hid (O4.out.kept hgrowA (by cases hv : Value.ownBlock _ <;> simp))
  have D1u := hid (A1u.out _ _ _ _ _ hownA' P0u.out N2.out)
  have B1u := hid (B2.out.grown hgrowA B2.out.size (fun k h => by cases h))
  clear hownA hownA' hgrowA
  go_wp2_with fail
  refine D1u.out.mono ?_
  rintro e w4 ⟨rfl, hownB, hgrowB⟩
  have P1u := hid (P0u.out.kept hgrowB (.inr N2.out))
  have S1u := hid (S0u.out.kept hgrowB (.inr N4.out))
  have B2u := hid (B1u.out.grown hgrowB B1u.out.size (fun k h => by cases h; exact B2.out.size))
  clear hgrowB D1u A1u P0u S0u
  go_wp2_with (at_builtin; refine wpList_append_fits _ rfl _ _ 22 rfl w2.heap.size 34 i0 1 Try.underlying22 hi hz1 w2.heap.size len0 (len0 + 5 + len3) _ rfl (hownB.alloc _) ⟨w4.heap.size, 0, none⟩ 1 1 [.int .u16 117] rfl rfl (cell_one_new _ _ _) (by intro u hu; simp at hu; subst hu; rfl) (by omega) ?_)
  intro w5 hownC hgrowC
  have hownC' : w5.ownsRow w2.heap.size 34 1 (.slice (some ⟨w2.heap.size, 0, none⟩) (len0 + 1) (len0 + 5 + len3)) (len0 + 1) (ints (P ++ [117])) := by rw [← ints_snoc]; exact hownC
  have D2u := hid (AHu.out _ _ _ hownC')
  have P2u := hid ((P1u.out.alloc (.cells #[.int .u16 117] 34)).kept hgrowC (.inr N2.out))
  have S2u := hid ((S1u.out.alloc (.cells #[.int .u16 117] 34)).kept hgrowC (.inr N4.out))
  have B3u := hid ((B2u.out.alloc B2u.out.size (.cells #[.int .u16 117] 34)).grown hgrowC (by have h1 := B2u.out.size; simp; omega) (fun k h => by cases h; exact B2.out.size))
  clear hownB hownC hownC' hgrowC AHu P1u S1u
  go_wp2_with fail
  refine D2u.out.mono ?_
  rintro e w6 ⟨rfl, hownD, hgrowD⟩
  have P3u := hid (P2u.out.kept hgrowD (.inr N2.out))
  have S3u := hid (S2u.out.kept hgrowD (.inr N4.out))
  have D3u := hid (A2u.out _ _ _ _ _ hownD S3u.out N4.out)
  have B4u := hid (B3u.out.grown hgrowD B3u.out.size (fun k h => by cases h; exact B2.out.size))
  clear hownD hgrowD D2u A2u P2u S2u
  go_wp2_with fail
  refine D3u.out.mono ?_
  rintro e w7 ⟨rfl, hownE, hgrowE⟩
  have P4u := hid (P3u.out.kept hgrowE (.inr N2.out))
  have S4u := hid (S3u.out.kept hgrowE (.inr N4.out))
  have D4u := hid (Cu.out _ _ _ hownE)
  have B5u := hid (B4u.out.grown hgrowE B4u.out.size (fun k h => by cases h; exact B2.out.size))
  clear hownE hgrowE D3u Cu P3u S3u
  go_wp2_with fail
  refine D4u.out.mono ?_
  rintro e w8 ⟨rfl, hbelF⟩
  have P5u := hid (own_below P4u.out hbelF)
  have S5u := hid (own_below S4u.out hbelF)
  have B6u := hid (B5u.out.trans (hbelF.mono B5u.out.size))
  clear hbelF D4u P4u S4u
  have M2 := hid (own_ne P5u.out (Nat.le_refl _))
  have M4 := hid (own_ne S5u.out (Nat.le_refl _))
  go_wp2_with (at_make; refine wpList_make_own _ rfl _ _ 22 rfl w8.heap.size 34 i0 (.int .u16 0) 1 Try.underlying22 hi hz0 hz1 _ _ _ (len0 + 3 + len3) rfl rfl (by omega) (by rw [hz2]; omega) (by unfold maxLen; omega) (Nat.le_refl _) ?_)
  intro w9 hownA hgrowA
  have hownA' : w9.ownsRow w8.heap.size 34 1 (.slice (some ⟨w8.heap.size, 0, none⟩) 0 (len0 + 3 + len3)) 0 (ints []) := hownA
  have P0x := hid (P5u.out.kept hgrowA (by cases hv : Value.ownBlock _ <;> simp))
  have S0x := hid (S5u.out.kept hgrowA (by cases hv : Value.ownBlock _ <;> simp))
  have D1x := hid (A1x.out _ _ _ _ _ hownA' P0x.out M2.out)
  have B1x := hid (B6u.out.grown hgrowA B6u.out.size (fun k h => by cases h))
  clear hownA hownA' hgrowA
  go_wp2_with fail
  refine D1x.out.mono ?_
  rintro e w10 ⟨rfl, hownB, hgrowB⟩
  have P1x := hid (P0x.out.kept hgrowB (.inr M2.out))
  have S1x := hid (S0x.out.kept hgrowB (.inr M4.out))
  have B2x := hid (B1x.out.grown hgrowB B1x.out.size (fun k h => by cases h; exact B6u.out.size))
  clear hgrowB D1x A1x P0x S0x
  go_wp2_with (at_builtin; refine wpList_append_fits _ rfl _ _ 22 rfl w8.heap.size 34 i0 1 Try.underlying22 hi hz1 w8.heap.size len0 (len0 + 3 + len3) _ rfl (hownB.alloc _) ⟨w10.heap.size, 0, none⟩ 1 1 [.int .u16 120] rfl rfl (cell_one_new _ _ _) (by intro u hu; simp at hu; subst hu; rfl) (by omega) ?_)
  intro w11 hownC hgrowC
  have hownC' : w11.ownsRow w8.heap.size 34 1 (.slice (some ⟨w8.heap.size, 0, none⟩) (len0 + 1) (len0 + 3 + len3)) (len0 + 1) (ints (P ++ [120])) := by rw [← ints_snoc]; exact hownC
  have D2x := hid (AHx.out _ _ _ hownC')
  have P2x := hid ((P1x.out.alloc (.cells #[.int .u16 120] 34)).kept hgrowC (.inr M2.out))
  have S2x := hid ((S1x.out.alloc (.cells #[.int .u16 120] 34)).kept hgrowC (.inr M4.out))
  have B3x := hid ((B2x.out.alloc B2x.out.size (.cells #[.int .u16 120] 34)).grown hgrowC (by have h1 := B2x.out.size; simp; omega) (fun k h => by cases h; exact B6u.out.size))
  clear hownB hownC hownC' hgrowC AHx P1x S1x
  go_wp2_with fail
  refine D2x.out.mono ?_
  rintro e w12 ⟨rfl, hownD, hgrowD⟩
  have P3x := hid (P2x.out.kept hgrowD (.inr M2.out))
  have S3x := hid (S2x.out.kept hgrowD (.inr M4.out))
  have D3x := hid (A2x.out _ _ _ _ _ hownD S3x.out M4.out)
  have B4x := hid (B3x.out.grown hgrowD B3x.out.size (fun k h => by cases h; exact B6u.out.size))
  clear hownD hgrowD D2x A2x P2x S2x
  go_wp2_with fail
  refine D3x.out.mono ?_
  rintro e w13 ⟨rfl, hownE, hgrowE⟩
  have P4x := hid (P3x.out.kept hgrowE (.inr M2.out))
  have S4x := hid (S3x.out.kept hgrowE (.inr M4.out))
  have D4x := hid (Cx.out _ _ _ hownE)
  have B5x := hid (B4x.out.grown hgrowE B4x.out.size (fun k h => by cases h; exact B6u.out.size))
  clear hownE hgrowE D3x Cx P3x S3x
  go_wp2_with fail
  refine D4x.out.mono ?_
  rintro e w14 ⟨rfl, hbelF⟩
  have P5x := hid (own_below P4x.out hbelF)
  have S5x := hid (own_below S4x.out hbelF)
  have B6x := hid (B5x.out.trans (hbelF.mono B5x.out.size))
  clear hbelF D4x P4x S4x
  go_wp2
  go_ret
  exact ⟨by simp, B6x.out⟩

end Go.Proofs.Qxb6600907a
