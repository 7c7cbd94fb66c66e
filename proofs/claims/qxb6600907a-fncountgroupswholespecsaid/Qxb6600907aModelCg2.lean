/- THE WALK OF jsb1CountModel. By an AI agent. -/
import Derived.Test.Qxb6600907aModelCg
namespace Go.Proofs.Qxb6600907a
open Go.RowKit
set_option linter.unusedVariables false
set_option linter.unusedSimpArgs false

theorem countModel_nil (w : World) : Calls Try.prog 26 #[.slice none 0 0] w fun e w' => e = .returned (.tuple #[.int .i64 0, .bool false]) ∧ w = w' := by
  go_enter Try.func26, Try.ntmps26
  go_wp2
  refine wp_loop_rounds 1 ?_
  rw [rounds_succ]
  go_wp2
  go_ret2
  exact ⟨rfl, rfl⟩

set_option maxHeartbeats 1600000 in
theorem countModel_at (b off n cap : Nat) (xs : List Int) (w : World) (hlen : xs.length = n) (hn : n ≤ 1048600)
    (hc : ∀ j, j < n → w.cell? ⟨b, off + j, none⟩ = some (.int .u16 (xs.getD j 0))) :
    Calls Try.prog 26 #[.slice (some ⟨b, off, none⟩) n cap] w fun e w' => e = .returned (.tuple #[.int .i64 (cg xs false false 0 false).1, .bool (cg xs false false 0 false).2]) ∧ w = w' := by
  generalize hR : cg xs false false 0 false = R
  have HR : Hid (cg xs false false 0 false = R) := hR
  clear hR
  have HC : Hid (∀ j, j < n → w.cell? ⟨b, off + j, none⟩ = some (.int .u16 (xs.getD j 0))) := hc
  clear hc
  go_enter Try.func26, Try.ntmps26
  go_wp2
  go_loop [4, 5, 6, 7, 8] (fun sr sc sg sn sj => ∃ (j : Nat) (run : Int) (cl : Bool) (g : Int) (nm : Bool), j ≤ n ∧ 0 ≤ run ∧ run ≤ j ∧ 0 ≤ g ∧ g ≤ j ∧ sj = .int .i64 j ∧ sr = .int .i64 run ∧ sg = .int .i64 g ∧ sn = .bool nm ∧ sc = .bool cl ∧ Hid (cg (xs.drop j) (run % 2 == 1) cl g nm = R))
    (fun _ _ _ _ sj => n - (intOf sj).toNat)
  case atStart => exact ⟨0, 0, false, 0, false, by omega, by omega, by omega, by omega, by omega, rfl, rfl, rfl, rfl, rfl, HR⟩
  case round =>
    obtain ⟨j, run, cl, g, nm, hj, hr0, hrj, hg0, hgj, rfl, rfl, rfl, rfl, rfl, H⟩ := hrel
    clear HR
    by_cases hlt : j < n
    · have hcx := HC.out j hlt
      have HD : Hid (xs.drop j = xs.getD j 0 :: xs.drop (j + 1)) := drop_cons xs j (by omega)
      generalize xs.getD j 0 = c at hcx HD
      by_cases hesc : run % 2 = 1
      · have te : (run % 2 == 1) = true := by simpa using hesc
        have H1 : cg (xs.drop (j + 1)) false cl g nm = R := by
          have := H.out; rw [HD.out, te, cg_esc] at this; exact this
        by_cases h1 : c = 92
        · subst h1
          have H2 : Hid (cg (xs.drop (j + 1)) ((run + 1) % 2 == 1) cl g nm = R) := by
            rw [show ((run + 1) % 2 == 1) = false by simp; omega]; exact H1
          clear H H1 HD hesc
          go_wp2
          go_round
          case rel => exact ⟨j + 1, run + 1, cl, g, nm, by omega, by omega, by omega, hg0, by omega, by go_num, rfl, rfl, rfl, rfl, H2⟩
          case measure => simp [intOf]; omega
        · have t1 : (c == 92) = false := by simpa using h1
          have H2 : Hid (cg (xs.drop (j + 1)) ((0 : Int) % 2 == 1) cl g nm = R) := H1
          clear H H1 HD hesc h1
          go_wp2
          go_round
          case rel => exact ⟨j + 1, 0, cl, g, nm, by omega, by omega, by omega, hg0, by omega, by go_num, rfl, rfl, rfl, rfl, H2⟩
          case measure => simp [intOf]; omega
      · have te : (run % 2 == 1) = false := by simpa using hesc
        have H1 : cg (c :: xs.drop (j + 1)) false cl g nm = R := by
          have := H.out; rw [HD.out, te] at this; exact this
        clear H
        by_cases h1 : c = 92
        · subst h1
          have H2 : Hid (cg (xs.drop (j + 1)) ((run + 1) % 2 == 1) cl g nm = R) := by
            rw [show ((run + 1) % 2 == 1) = true by simp; omega, ← cg_bs]; exact H1
          clear H1 HD hesc
          go_wp2
          go_round
          case rel => exact ⟨j + 1, run + 1, cl, g, nm, by omega, by omega, by omega, hg0, by omega, by go_num, rfl, rfl, rfl, rfl, H2⟩
          case measure => simp [intOf]; omega
        have t1 : (c == 92) = false := by simpa using h1
        by_cases h2 : c = 91
        · subst h2
          have H2 : Hid (cg (xs.drop (j + 1)) ((0 : Int) % 2 == 1) true g nm = R) := by rw [cg_open] at H1; exact H1
          clear H1 HD hesc h1
          go_wp2
          go_round
          case rel => exact ⟨j + 1, 0, true, g, nm, by omega, by omega, by omega, hg0, by omega, by go_num, rfl, rfl, rfl, rfl, H2⟩
          case measure => simp [intOf]; omega
        have t2 : (c == 91) = false := by simpa using h2
        by_cases h3 : c = 93
        · subst h3
          have H2 : Hid (cg (xs.drop (j + 1)) ((0 : Int) % 2 == 1) false g nm = R) := by rw [cg_shut] at H1; exact H1
          clear H1 HD hesc h1 h2
          go_wp2
          go_round
          case rel => exact ⟨j + 1, 0, false, g, nm, by omega, by omega, by omega, hg0, by omega, by go_num, rfl, rfl, rfl, rfl, H2⟩
          case measure => simp [intOf]; omega
        have t3 : (c == 93) = false := by simpa using h3
        by_cases h4 : c = 40
        · subst h4
          cases cl with
          | true =>
            have H2 : Hid (cg (xs.drop (j + 1)) ((0 : Int) % 2 == 1) true g nm = R) := by rw [cg_par_in] at H1; exact H1
            clear H1 HD hesc h1 h2 h3
            go_wp2
            go_round
            case rel => exact ⟨j + 1, 0, true, g, nm, by omega, by omega, by omega, hg0, by omega, by go_num, rfl, rfl, rfl, rfl, H2⟩
            case measure => simp [intOf]; omega
          | false =>
            have P := parenKind_at b off n cap j xs w hlen hn hlt HC.out
            rcases pKind_cases (xs.drop (j + 1)) with hk | hk | hk
            · have H2 : Hid (cg (xs.drop (j + 1)) ((0 : Int) % 2 == 1) false g nm = R) := by rw [cg_par0 _ _ _ hk] at H1; exact H1
              rw [hk] at P
              have HP := hid P
              clear H1 HD hesc h1 h2 h3 hk P
              go_wp2_with fail
              refine HP.out.mono ?_
              rintro e w' ⟨rfl, rfl⟩
              go_wp2
              go_round
              case rel => exact ⟨j + 1, 0, false, g, nm, by omega, by omega, by omega, hg0, by omega, by go_num, rfl, rfl, rfl, rfl, H2⟩
              case measure => simp [intOf]; omega
            · have H2 : Hid (cg (xs.drop (j + 1)) ((0 : Int) % 2 == 1) false (g + 1) true = R) := by rw [cg_par1 _ _ _ hk] at H1; exact H1
              rw [hk] at P
              have HP := hid P
              clear H1 HD hesc h1 h2 h3 hk P
              go_wp2_with fail
              refine HP.out.mono ?_
              rintro e w' ⟨rfl, rfl⟩
              go_wp2
              go_round
              case rel => exact ⟨j + 1, 0, false, (g + 1), true, by omega, by omega, by omega, by omega, by omega, by go_num, rfl, rfl, rfl, rfl, H2⟩
              case measure => simp [intOf]; omega
            · have H2 : Hid (cg (xs.drop (j + 1)) ((0 : Int) % 2 == 1) false (g + 1) nm = R) := by rw [cg_par2 _ _ _ hk] at H1; exact H1
              rw [hk] at P
              have HP := hid P
              clear H1 HD hesc h1 h2 h3 hk P
              go_wp2_with fail
              refine HP.out.mono ?_
              rintro e w' ⟨rfl, rfl⟩
              go_wp2
              go_round
              case rel => exact ⟨j + 1, 0, false, (g + 1), nm, by omega, by omega, by omega, by omega, by omega, by go_num, rfl, rfl, rfl, rfl, H2⟩
              case measure => simp [intOf]; omega
        · have t4 : (c == 40) = false := by simpa using h4
          have H2 : Hid (cg (xs.drop (j + 1)) ((0 : Int) % 2 == 1) cl g nm = R) := by rw [cg_other _ _ _ _ _ h1 h2 h3 h4] at H1; exact H1
          clear H1 HD hesc h1 h2 h3 h4
          go_wp2
          go_round
          case rel => exact ⟨j + 1, 0, cl, g, nm, by omega, by omega, by omega, hg0, by omega, by go_num, rfl, rfl, rfl, rfl, H2⟩
          case measure => simp [intOf]; omega
    · go_wp2
      go_ret2
      have e := H.out
      rw [List.drop_of_length_le (by omega), cg_nil] at e
      subst e
      exact ⟨rfl, rfl⟩

end Go.Proofs.Qxb6600907a
