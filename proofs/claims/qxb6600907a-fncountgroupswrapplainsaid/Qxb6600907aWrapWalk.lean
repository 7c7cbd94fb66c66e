/- THE WALK OF FnCountGroupsWrapPlain. By an AI agent. -/
import Derived.Test.Qxb6600907aLaw
import Derived.Test.Qxb6600907aCount2
namespace Go.Proofs.Qxb6600907a
open Go.RowKit
set_option linter.unusedVariables false
set_option linter.unusedSimpArgs false

theorem hid {p : Prop} (h : p) : Hid p := h

set_option maxHeartbeats 1000000 in
theorem wrap_walk (a0 : Option Addr) (len0 cap0 : Nat) (xs : List Int) (w : World) (hx : Came w a0 len0 xs) :
    Calls Try.prog 9 #[.slice a0 len0 cap0] w fun e w' => e = .returned (.bool true) ∧ Below w.heap.size w w' := by
  have hlen : xs.length = len0 := hx.1
  by_cases hbig : 1048576 < len0
  · go_enter Try.func9, Try.ntmps9
    go_wp2_with fail
    refine (zz27_no _ _ _ _ hbig).mono ?_
    rintro e w' ⟨rfl, rfl⟩
    go_wp2_with fail
    go_ret
    exact ⟨rfl, Below.refl _ _⟩
  by_cases hmid : 524288 < len0
  · go_enter Try.func9, Try.ntmps9
    go_wp2_with fail
    refine (zz27_yes _ _ _ _ (by omega)).mono ?_
    rintro e w' ⟨rfl, rfl⟩
    go_wp2_with fail
    go_ret
    exact ⟨rfl, Below.refl _ _⟩
  by_cases hq : 0 < len0 ∧ xs.getD 0 0 = 63
  · obtain ⟨hpos, hq⟩ := hq
    obtain ⟨b, off, rfl, hc⟩ := came_at hx hpos
    have hc0 := hc 0 hpos
    rw [hq, Nat.add_zero] at hc0
    clear hc hq hx hlen
    have hpos' : (0 : Int) < (len0 : Int) := by omega
    go_enter Try.func9, Try.ntmps9
    go_wp2_with fail
    refine (zz27_yes _ _ _ _ (by omega)).mono ?_
    rintro e w' ⟨rfl, rfl⟩
    go_wp2_with fail
    go_ret
    exact ⟨rfl, Below.refl _ _⟩
  have hq0 : xs[0]? ≠ some 63 := by
    intro h
    cases xs with
    | nil => cases h
    | cons c r => simp at h hlen; exact hq ⟨by omega, by simpa using h⟩
  have hwrap := cg_wrap xs hq0
  have hbd := cg_bound xs false false 0 false
  generalize hR : cg xs false false 0 false = R at hwrap hbd
  obtain ⟨r1, r2⟩ := R
  simp only at hwrap hbd
  -- what the two counts give, in whatever later world
  have C0 : Hid (∀ (B : Nat) (v : Value) (wx : World), wx.ownsRow B 34 1 v len0 (ints xs) → Calls Try.prog 25 #[v] wx fun e w' => e = .returned (.tuple #[.int .i64 r1, .bool r2]) ∧ Below wx.heap.size wx w') := by
    intro B v wx ho
    have := zzCount_any B v xs wx (by rw [hlen]; exact ho) (by omega)
    rw [hR] at this
    exact this
  have C1 : Hid (∀ (B : Nat) (v : Value) (wx : World), wx.ownsRow B 34 1 v (1 + len0 + 1) (ints ([40] ++ xs ++ [41])) → Calls Try.prog 25 #[v] wx fun e w' => e = .returned (.tuple #[.int .i64 (r1 + 1), .bool r2]) ∧ Below wx.heap.size wx w') := by
    intro B v wx ho
    have hl : ([40] ++ xs ++ [41]).length = 1 + len0 + 1 := by simp; omega
    have := zzCount_any B v ([40] ++ xs ++ [41]) wx (by rw [hl]; exact ho) (by omega)
    rw [show ([40] ++ xs ++ [41] : List Int) = 40 :: (xs ++ [41]) by simp, hwrap] at this
    exact this
  have hb0 : 0 ≤ r1 := by omega
  have hb1 : r1 ≤ len0 := by omega
  clear hR hwrap hbd hq0
  obtain ⟨i0, hi, hz0, hz1, hz2⟩ := info_parts info34
  have K : Hid (Calls Try.prog 12 #[.slice a0 len0 cap0] w fun e w' => ∃ v, e = .returned v ∧ w'.ownsRow w.heap.size 34 1 v len0 (ints xs) ∧ Below w.heap.size w w') := copy_any a0 len0 cap0 xs w hx (by omega)
  -- the test on the first unit says no: two ways to come there, one end
  have hgo : (len0 = 0) ∨ (∃ b off c, a0 = some ⟨b, off, none⟩ ∧ 0 < len0 ∧ w.cell? ⟨b, off, none⟩ = some (.int .u16 c) ∧ (c == 63) = false) := by
    by_cases hpos : 0 < len0
    · obtain ⟨b, off, rfl, hc⟩ := came_at hx hpos
      have hc0 := hc 0 hpos
      rw [Nat.add_zero] at hc0
      refine .inr ⟨b, off, _, rfl, hpos, hc0, ?_⟩
      simp only [beq_eq_false_iff_ne]
      exact fun h => hq ⟨hpos, h⟩
    · exact .inl (by omega)
  clear hx hq
  have A0 : Hid (∀ (B G : Nat) (v : Value) (wx : World), wx.ownsRow B 34 1 (.slice (some ⟨G, 0, none⟩) 1 (len0 + 2)) 1 (ints [40]) → wx.ownsRow w.heap.size 34 1 v len0 (ints xs) → v.ownBlock ≠ some G →
      Calls Try.prog 17 #[.slice (some ⟨G, 0, none⟩) 1 (len0 + 2), v] wx fun e w' => e = .returned (.slice (some ⟨G, 0, none⟩) (1 + len0) (len0 + 2)) ∧
      w'.ownsRow B 34 1 (.slice (some ⟨G, 0, none⟩) (1 + len0) (len0 + 2)) (1 + len0) (ints ([40] ++ xs)) ∧ wx.grownBy w' (some G)) := by
    intro B G v wx ho hs hne
    have := app_any G 1 (len0 + 2) B w.heap.size v [40] xs wx ho (by rw [hlen]; exact hs) hne (by omega) (by omega)
    rw [hlen] at this
    exact this
  clear hlen
  rcases hgo with hz | ⟨b, off, c, rfl, hpos, hc0, hne⟩
  case' inl =>
    have hz' : decide ((0 : Int) < (len0 : Int)) = false := by simp; omega
    have hle0 : len0 ≤ 0 := by omega
    clear hz
    go_enter Try.func9, Try.ntmps9
    go_wp2_with fail
    refine (zz27_yes _ _ _ _ (by omega)).mono ?_
    rintro e w' ⟨rfl, rfl⟩
    go_wp2_with fail
  case' inr =>
    have hpos' : (0 : Int) < (len0 : Int) := by omega
    go_enter Try.func9, Try.ntmps9
    go_wp2_with fail
    refine (zz27_yes _ _ _ _ (by omega)).mono ?_
    rintro e w' ⟨rfl, rfl⟩
    go_wp2_with fail
    clear hc0 hne
  all_goals
    refine K.out.mono ?_
    rintro e w1 ⟨v, rfl, hown1, hbel1⟩
    clear K
    have hlt1 : ∀ k, v.ownBlock = some k → k < w1.heap.size := fun k hk => (hown1.lt k hk).2
    have hne1 : v.ownBlock ≠ some w1.heap.size := fun h => by have := hlt1 _ h; omega
    have hOwn1 := hown1
    rcases hown1.2 with ⟨rfl, hn0⟩ | ⟨g, cap1, cur, rfl, hgB, hgg, hr⟩
    all_goals
      try (exfalso; omega)
    all_goals
      clear hown1
      try clear hgg hr hgB
      try (have hn1 : len0 ≤ 0 := by omega)
      try clear hn0
      have HO := hid (And.intro hOwn1 hne1)
      have HB := hid (hbel1)
      clear hOwn1 hlt1 hne1 hbel1
      go_wp2_with (at_make; refine wpList_make_own _ rfl _ _ 22 rfl w1.heap.size 34 i0 (.int .u16 0) 1 Try.underlying22 hi hz0 hz1 _ _ _ (len0 + 2) rfl rfl (by omega) (by rw [hz2]; omega) (by unfold maxLen; omega) (Nat.le_refl _) ?_)
      intro w2 hown2 hgrow2
      have hown2' : w2.ownsRow w1.heap.size 34 1 (.slice (some ⟨w1.heap.size, 0, none⟩) 0 (len0 + 2)) 0 (ints []) := hown2
      clear hown2
      go_wp2_with (at_builtin; refine wpList_append_fits _ rfl _ _ 22 rfl w1.heap.size 34 i0 1 Try.underlying22 hi hz1 w1.heap.size 0 (len0 + 2) _ rfl (hown2'.alloc _) ⟨w2.heap.size, 0, none⟩ 1 1 [.int .u16 40] rfl rfl (cell_one_new _ _ _) (by intro u hu; simp at hu; subst hu; rfl) (by omega) ?_)
      intro w3 hown3 hgrow3
      have hown3' : w3.ownsRow w1.heap.size 34 1 (.slice (some ⟨w1.heap.size, 0, none⟩) 1 (len0 + 2)) 1 (ints [40]) := hown3
      have HO3 := (((HO.out.1.kept hgrow2 (by cases hv : Value.ownBlock _ <;> simp)).alloc (.cells #[.int .u16 40] 34)).kept hgrow3 (.inr HO.out.2))
      have HB3 := ((HB.out.grown hgrow2 HB.out.size (fun k h => by cases h)).alloc (Nat.le_trans HB.out.size hgrow2.size) (.cells #[.int .u16 40] 34)).grown hgrow3 (by have h1 := HB.out.size; have h2 := hgrow2.size; simp; omega) (fun k h => by cases h; exact HB.out.size)
      have A1 := hid (A0.out _ _ _ _ hown3' HO3 HO.out.2)
      have HO3' := hid (HO3)
      have HB3' : Hid (Below w.heap.size w w3) := HB3
      clear hown3 hgrow3 hown3' HO3 HB3 hown2' hgrow2
      go_wp2_with fail
      refine A1.out.mono ?_
      rintro e w4 ⟨rfl, hown4, hgrow4⟩
      have HO4 := hid (HO3'.out.kept hgrow4 (.inr HO.out.2))
      have HB4 : Hid (Below w.heap.size w w4) := HB3'.out.grown hgrow4 HB3'.out.size (fun k h => by cases h; exact HB.out.size)
      clear hgrow4 A1 HO3' HB3'
      go_wp2_with (at_builtin; refine wpList_append_fits _ rfl _ _ 22 rfl w1.heap.size 34 i0 1 Try.underlying22 hi hz1 w1.heap.size (1 + len0) (len0 + 2) _ rfl (hown4.alloc _) ⟨w4.heap.size, 0, none⟩ 1 1 [.int .u16 41] rfl rfl (cell_one_new _ _ _) (by intro u hu; simp at hu; subst hu; rfl) (by omega) ?_)
      intro w5 hown5 hgrow5
      have hown5' : Hid (w5.ownsRow w1.heap.size 34 1 (.slice (some ⟨w1.heap.size, 0, none⟩) (1 + len0 + 1) (len0 + 2)) (1 + len0 + 1) (ints ([40] ++ xs ++ [41]))) := by
        rw [← ints_snoc]; exact hown5
      have HO5 := (HO4.out.alloc (.cells #[.int .u16 41] 34)).kept hgrow5 (.inr HO.out.2)
      have HB5 : Hid (Below w.heap.size w w5) := (HB4.out.alloc HB4.out.size (.cells #[.int .u16 41] 34)).grown hgrow5 (by have h1 := HB4.out.size; simp; omega) (fun k h => by cases h; exact HB.out.size)
      have D0 := hid (C0.out _ _ _ HO5)
      clear hown4 hown5 hgrow5 HO4 HB4 HO5
      go_wp2_with fail
      refine D0.out.mono ?_
      rintro e w6 ⟨rfl, hbel6⟩
      have D1 := hid (C1.out _ _ _ (own_below hown5'.out hbel6))
      have HB6 : Hid (Below w.heap.size w w6) := HB5.out.trans (hbel6.mono HB5.out.size)
      clear hbel6 D0 hown5' HB5
      go_wp2_with fail
      refine D1.out.mono ?_
      rintro e w7 ⟨rfl, hbel7⟩
      have HB7 : Hid (Below w.heap.size w w7) := HB6.out.trans (hbel7.mono HB6.out.size)
      clear hbel7 D1 HB6
      go_wp2
      go_ret
      exact ⟨by simp, HB7.out⟩

end Go.Proofs.Qxb6600907a
