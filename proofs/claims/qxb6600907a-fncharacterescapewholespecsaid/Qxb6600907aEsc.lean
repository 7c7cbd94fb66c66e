/- THE WALKS OF A CHARACTER ESCAPE: isOctal, octal. By an AI agent. -/
import Derived.Test.Qxb6600907aHex2
import Derived.Test.Qxb6600907aPlainEsc
import Derived.Deep.QuietTactic
import Derived.BigQuiet
namespace Go.Proofs.Qxb6600907a
open Go.RowKit
set_option linter.unusedVariables false
set_option linter.unusedSimpArgs false

theorem isOctal_any (c : Int) (v : Bool) (w : World) (h : isO c = v) : Calls Try.prog 37 #[.int .u16 c] w fun e w' => e = .returned (.bool v) ∧ w' = w := by
  cases v with
  | true =>
    obtain ⟨a, b⟩ := (isO_iff c).1 h
    clear h
    go_enter Try.func37, Try.ntmps37
    go_wp2
    go_ret
    exact ⟨rfl, rfl⟩
  | false =>
    rcases (isO_not c).1 h with a | a
    case' inl => have t : decide (48 ≤ c) = false := by simpa using a
    case' inr => have t : decide (c ≤ 55) = false := by simpa using a
    all_goals
      clear h
      go_enter Try.func37, Try.ntmps37
      go_wp2
      go_ret
      exact ⟨rfl, rfl⟩

theorem par_stay {W : World} {pb : Nat} {s : Value} (v : Value) (h : W.cell? ⟨pb, 0, none⟩ = some s) : (W.setCell ⟨pb, 1, none⟩ v).cell? ⟨pb, 0, none⟩ = some s := by
  rw [World.cell?_setCell_other (h := by simp)]; exact h
theorem par_new {W : World} {pb : Nat} {x : Value} (v : Value) (h : W.cell? ⟨pb, 1, none⟩ = some x) : (W.setCell ⟨pb, 1, none⟩ v).cell? ⟨pb, 1, none⟩ = some v := World.cell?_setCell_same (h := h) ..

set_option maxHeartbeats 1000000 in
theorem octal_at (pb b off m cap pos : Nat) (v : Int) (xs : List Int) (w : World) (hp0 : w.cell? ⟨pb, 0, none⟩ = some (.slice (some ⟨b, off, none⟩) m cap)) (hp1 : w.cell? ⟨pb, 1, none⟩ = some (.int .i64 pos)) (hf : w.frozen? ⟨pb, 1, none⟩ = false)
    (hbp : b < pb) (hlen : xs.length = m) (hm : m ≤ 1048600) (hpos : pos ≤ m) (hv0 : 0 ≤ v) (hv1 : v ≤ 255) (hc : ∀ j, j < m → w.cell? ⟨b, off + j, none⟩ = some (.int .u16 (xs.getD j 0))) :
    Calls Try.prog 38 #[.pointer (some ⟨pb, 0, none⟩), .int .i64 v] w fun e w' => e = .returned (.int .i64 (octF 2 xs pos v).1) ∧ w'.cell? ⟨pb, 1, none⟩ = some (.int .i64 ((octF 2 xs pos v).2 : Nat)) ∧ Below pb w w' := by
  have HC := hid hc
  clear hc
  generalize hR : octF 2 xs pos v = R
  have HR := hid hR
  clear hR
  go_enter Try.func38, Try.ntmps38
  go_wp2
  go_loopw [1, 5] (fun sv sr wr => ∃ (r q : Nat) (u : Int), r ≤ 2 ∧ q ≤ m ∧ 0 ≤ u ∧ u ≤ 255 ∧ sr = .int .i64 r ∧ sv = .int .i64 u ∧ Hid (wr.cell? ⟨pb, 0, none⟩ = some (.slice (some ⟨b, off, none⟩) m cap) ∧ wr.cell? ⟨pb, 1, none⟩ = some (.int .i64 q) ∧ wr.frozen? ⟨pb, 1, none⟩ = false ∧ Below pb w wr ∧ octF (2 - r) xs q u = R))
    (fun _ sr _ => 2 - (intOf sr).toNat)
  case atStart => exact ⟨0, pos, v, by omega, hpos, hv0, hv1, rfl, rfl, hp0, hp1, hf, Below.refl _ _, HR.out⟩
  case round =>
    obtain ⟨r, q, u, hr, hq, hu0, hu1, rfl, rfl, H⟩ := hrel
    clear hp0 hp1 hf HR
    by_cases hlt : r < 2
    · obtain ⟨k0, k1, kf, kb, ke⟩ := H.out
      have KB := hid kb
      have KE := hid ke
      clear kb ke H
      by_cases hend : q = m
      · have e : octF (2 - r) xs q u = (u, q) := octF_stop _ _ _ _ (.inl (by unfold octAt; rw [hlen]; simp [hend]))
        rw [KE.out] at e
        have E := hid e
        clear e KE
        subst hend
        have t0 : ((q : Int) == (q : Int)) = true := by simp
        go_wp2
        go_quiet (fail)
        go_wp2
        go_ret
        rw [E.out]
        exact ⟨rfl, by simpa using k1, below_drewN KB.out _⟩
      · have hqm : q < m := by omega
        have hcx := (KB.out.cell (p := ⟨b, off + q, none⟩) hbp).trans (HC.out q hqm)
        have t0 : ((q : Int) == (m : Int)) = false := by rw [beq_eq_false_iff_ne]; omega
        have hqm' : (q : Int) < (m : Int) := by omega
        have HO : octAt xs q = isO (xs.getD q 0) := by unfold octAt; rw [hlen]; simp [hqm]
        cases hO : isO (xs.getD q 0)
        · have e : octF (2 - r) xs q u = (u, q) := octF_stop _ _ _ _ (.inl (by rw [HO, hO]))
          rw [KE.out] at e
          have E := hid e
          clear e KE HO
          generalize xs.getD q 0 = c at hcx hO
          have P := hid hO
          clear hO hend
          go_wp2
          go_quiet ((go_at_call 37; exact Calls.quiet_of_same (isOctal_any c false _ P.out)))
          go_wp2
          go_ret
          rw [E.out]
          exact ⟨rfl, by simpa using k1, below_drewN KB.out _⟩
        · by_cases h32 : 32 ≤ u
          · have e : octF (2 - r) xs q u = (u, q) := octF_stop _ _ _ _ (.inr h32)
            rw [KE.out] at e
            have E := hid e
            clear e KE HO
            generalize xs.getD q 0 = c at hcx hO
            have P := hid hO
            clear hO hend
            go_wp2
            go_quiet ((go_at_call 37; exact Calls.quiet_of_same (isOctal_any c true _ P.out)))
            go_wp2
            go_ret
            rw [E.out]
            exact ⟨rfl, by simpa using k1, below_drewN KB.out _⟩
          · have t3 : decide (32 ≤ u) = false := by simpa using h32
            have e := octF_step (2 - (r + 1)) xs q u (by rw [HO, hO]) (by omega)
            rw [show 2 - (r + 1) + 1 = 2 - r by omega, KE.out] at e
            have hb := (isO_iff _).1 hO
            generalize xs.getD q 0 = c at hcx hO e hb
            obtain ⟨hb1, hb2⟩ := hb
            have E := hid e
            have P := hid hO
            clear e KE HO hO hend
            go_wp2
            go_quiet ((go_at_call 37; exact Calls.quiet_of_same (isOctal_any c true _ P.out)))
            go_wp2
            go_quiet (fail)
            go_wp2
            go_roundw
            case rel => exact ⟨r + 1, q + 1, u * 8 + (c - 48), by omega, by omega, by omega, by omega, by go_num, rfl, par_stay _ (by exact k0), par_new _ (by exact k1), by rw [World.frozen?_setCell]; exact kf, (below_drewN KB.out _).setCell (Nat.le_refl _) _, E.out.symm⟩
            case measure => simp [intOf]; omega
    · obtain rfl : r = 2 := by omega
      obtain ⟨k0, k1, kf, kb, ke⟩ := H.out
      have KB := hid kb
      rw [octF_zero] at ke
      have E := hid ke
      clear kb ke H
      go_wp2
      go_ret
      rw [← E.out]
      exact ⟨rfl, k1, KB.out⟩

end Go.Proofs.Qxb6600907a
