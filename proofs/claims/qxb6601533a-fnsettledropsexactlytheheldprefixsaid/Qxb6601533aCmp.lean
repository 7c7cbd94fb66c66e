/- THE WALKS OF sameU64B1, heldEverywhereB1. By an AI agent. -/
import Derived.Test.Qxb6601533aRead
import Derived.Deep.QuietTactic
import Derived.BigQuiet
namespace Go.Proofs.Qxb6601533a
open Go.RowKit
set_option linter.unusedVariables false
set_option linter.unusedSimpArgs false

/-- Two slices that read alike: true. -/
theorem same_eq (a1 a2 : Option Addr) (l1 c1 l2 c2 : Nat) (xs : List Int) (w : World) (h1 : Came w a1 l1 xs) (h2 : Came w a2 l2 xs) (hl : l1 ≤ 1048576) :
    Calls Try.prog 35 #[.slice a1 l1 c1, .slice a2 l2 c2] w fun e w' => e = .returned (.bool true) ∧ ∃ nq, w' = w.drewN nq := by
  obtain rfl : l1 = l2 := by have := h1.1; have := h2.1; omega
  have H1 := hid h1
  have H2 := hid h2
  clear h1 h2
  have t0 : ((l1 : Int) != (l1 : Int)) = false := by simp
  go_enter Try.func35, Try.ntmps35
  go_wp2
  go_loopw [13] (fun si wr => ∃ i : Nat, i ≤ l1 ∧ si = .int .i64 i ∧ ∃ nq, wr = w.drewN nq) (fun si _ => l1 - (intOf si).toNat)
  case atStart => exact ⟨0, by omega, rfl, 0, rfl⟩
  case round =>
    obtain ⟨i, hi, rfl, nq, rfl⟩ := hrel
    by_cases hlt : i < l1
    · obtain ⟨b, off, rfl, hc⟩ := came_at H1.out (by omega)
      obtain ⟨b', off', rfl, hc'⟩ := came_at H2.out (by omega)
      have k1 := hc i hlt
      have k2 := hc' i hlt
      generalize xs.getD i 0 = c at k1 k2
      have hlt' : (i : Int) < (l1 : Int) := by omega
      have t1 : (c != c) = false := by simp
      clear hc hc'
      go_wp2
      go_quiet (fail)
      go_wp2
      go_roundw
      case rel => exact ⟨i + 1, by omega, by go_num, _, rfl⟩
      case measure => simp [intOf]; omega
    · go_wp2
      go_ret
      exact ⟨rfl, _, rfl⟩

/-- Message s of member j is held by this member and by every other. -/
def HeldP (self : Int) (last : List Int) (held : List (List Int)) (j : Nat) (s : Int) : Prop := s ≤ last.getD j 0 ∧ ∀ i, i < held.length → (i : Int) ≠ self → s ≤ (held.getD i []).getD j 0

theorem held_any (self : Int) (a1 a2 : Option Addr) (l1 c1 l2 c2 j : Nat) (s : Int) (last : List Int) (held : List (List Int)) (v : Bool) (w : World) (h1 : Came w a1 l1 last) (h2 : CameM w a2 l2 held) (hl1 : l1 ≤ 1048576) (hl2 : l2 ≤ 1048576) (hj : j < l1)
    (hrow : ∀ i, i < held.length → (i : Int) ≠ self → j < (held.getD i []).length) (hv : v = true ↔ HeldP self last held j s) :
    Calls Try.prog 34 #[.int .i64 self, .slice a1 l1 c1, .slice a2 l2 c2, .int .i64 j, .int .u64 s] w fun e w' => e = .returned (.bool v) ∧ w = w' := by
  obtain ⟨b, off, rfl, hc⟩ := came_at h1 (by omega)
  have k0 := hc j hj
  have hj' : (j : Int) < (l1 : Int) := by omega
  have HV := hid hv
  have H2 := hid h2
  have HR := hid hrow
  clear hc hv h1 h2 hrow
  by_cases t0 : last.getD j 0 < s
  · obtain rfl : v = false := by
      cases v with
      | false => rfl
      | true => have := (HV.out.1 rfl).1; omega
    generalize last.getD j 0 = c at k0 t0
    go_enter Try.func34, Try.ntmps34
    go_wp2
    go_ret
    exact ⟨rfl, rfl⟩
  have HV' : Hid (v = true ↔ ∀ i, i < held.length → (i : Int) ≠ self → s ≤ (held.getD i []).getD j 0) := by
    refine ⟨fun h => (HV.out.1 h).2, fun h => HV.out.2 ⟨by omega, h⟩⟩
  clear HV
  generalize last.getD j 0 = c at k0 t0
  have g0 : decide (c < s) = false := by simpa using t0
  go_enter Try.func34, Try.ntmps34
  go_wp2
  go_loop [20] (fun si => ∃ i : Nat, i ≤ l2 ∧ si = .int .i64 i ∧ Hid (∀ q, q < i → (q : Int) ≠ self → s ≤ (held.getD q []).getD j 0)) (fun si => l2 - (intOf si).toNat)
  case atStart => exact ⟨0, by omega, rfl, fun q h => absurd h (Nat.not_lt_zero _)⟩
  case round =>
    obtain ⟨i, hi, rfl, F⟩ := hrel
    have hl : held.length = l2 := H2.out.1
    by_cases hlt : i < l2
    · by_cases hself : (i : Int) = self
      · have tb : ((i : Int) != self) = false := by simpa using hself
        have F2 : Hid (∀ q, q < i + 1 → (q : Int) ≠ self → s ≤ (held.getD q []).getD j 0) := by
          intro q hq hne
          by_cases e : q = i
          · subst e; exact absurd hself hne
          · exact F.out q (by omega) hne
        clear F hself hl
        go_wp2
        go_round
        case rel => exact ⟨i + 1, by omega, by go_num, F2⟩
        case measure => simp [intOf]; omega
      · have tb : ((i : Int) != self) = true := by simpa using hself
        obtain ⟨b2, off2, rfl, hc⟩ := cameM_at H2.out (by omega)
        obtain ⟨ar, lr, cr, hcx, hrw⟩ := hc i hlt
        have hjr : j < lr := by have h := HR.out i (by omega) hself; rw [hrw.1] at h; exact h
        obtain ⟨b3, off3, rfl, hc3⟩ := came_at hrw (by omega)
        have k3 := hc3 j hjr
        have hjr' : (j : Int) < (lr : Int) := by omega
        have hlt' : (i : Int) < (l2 : Int) := by omega
        clear hc hc3 hrw
        by_cases u : (held.getD i []).getD j 0 < s
        · obtain rfl : v = false := by
            cases v with
            | false => rfl
            | true => have := HV'.out.1 rfl i (by omega) hself; omega
          generalize (held.getD i []).getD j 0 = d at k3 u
          clear hself hl F
          go_wp2
          go_ret
          exact ⟨rfl, rfl⟩
        · have F2 : Hid (∀ q, q < i + 1 → (q : Int) ≠ self → s ≤ (held.getD q []).getD j 0) := by
            intro q hq hne
            by_cases e : q = i
            · subst e; omega
            · exact F.out q (by omega) hne
          generalize (held.getD i []).getD j 0 = d at k3 u
          clear hself hl F
          go_wp2
          go_round
          case rel => exact ⟨i + 1, by omega, by go_num, F2⟩
          case measure => simp [intOf]; omega
    · obtain rfl : i = l2 := by omega
      obtain rfl : v = true := HV'.out.2 (by rw [hl]; exact F.out)
      clear hl
      go_wp2
      go_ret
      exact ⟨rfl, rfl⟩

end Go.Proofs.Qxb6601533a
