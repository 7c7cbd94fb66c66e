/- THE WALK OF settleFitsB1. By an AI agent. -/
import Derived.Test.Qxb6601533aRead
namespace Go.Proofs.Qxb6601533a
open Go.RowKit
set_option linter.unusedVariables false
set_option linter.unusedSimpArgs false

/-- What settle's text needs. -/
def Fits (self : Int) (ll : Nat) (held kept : List (List Int)) : Prop :=
  ll ≤ 65536 ∧ held.length ≤ 65536 ∧ kept.length ≤ 65536 ∧ (∀ r, r < held.length → (held.getD r []).length ≤ 131072) ∧ (∀ r, r < kept.length → (kept.getD r []).length ≤ 131072) ∧
  ∃ need : Nat, (∀ j, j < kept.length → kept.getD j [] ≠ [] → j < need) ∧ need ≤ ll ∧ ∀ i, i < held.length → (i : Int) ≠ self → need ≤ (held.getD i []).length

def FitsRet (self : Int) (ll : Nat) (held kept : List (List Int)) (e : Ending) : Prop := e = .returned (.bool false) ∨ (e = .returned (.bool true) ∧ Fits self ll held kept)
theorem fitsNo {self : Int} {ll : Nat} {held kept : List (List Int)} : FitsRet self ll held kept (.returned (.bool false)) := .inl rfl

set_option maxHeartbeats 4000000 in
theorem fits_any (self : Int) (a1 a2 a3 : Option Addr) (l1 c1 l2 c2 l3 c3 : Nat) (held kept : List (List Int)) (w : World) (hh : CameM w a2 l2 held) (hk : CameM w a3 l3 kept) :
    Calls Try.prog 28 #[.int .i64 self, .slice a1 l1 c1, .slice a2 l2 c2, .slice a3 l3 c3] w fun e w' => FitsRet self l1 held kept e ∧ w = w' := by
  have HH := hid hh
  have HK := hid hk
  clear hh hk
  by_cases t1 : 65536 < l1
  · have g1 : decide ((65536 : Int) < (l1 : Int)) = true := by simp; omega
    go_enter Try.func28, Try.ntmps28
    go_wp2
    go_ret
    exact ⟨fitsNo, rfl⟩
  have g1 : decide ((65536 : Int) < (l1 : Int)) = false := by simp; omega
  by_cases t2 : 65536 < l2
  · have g2 : decide ((65536 : Int) < (l2 : Int)) = true := by simp; omega
    go_enter Try.func28, Try.ntmps28
    go_wp2
    go_ret
    exact ⟨fitsNo, rfl⟩
  have g2 : decide ((65536 : Int) < (l2 : Int)) = false := by simp; omega
  by_cases t3 : 65536 < l3
  · have g3 : decide ((65536 : Int) < (l3 : Int)) = true := by simp; omega
    go_enter Try.func28, Try.ntmps28
    go_wp2
    go_ret
    exact ⟨fitsNo, rfl⟩
  have g3 : decide ((65536 : Int) < (l3 : Int)) = false := by simp; omega
  by_cases t4 : 1048576 < 8 * l1 + 24 * l2 + 24 * l3
  · go_enter Try.func28, Try.ntmps28
    go_wp2
    go_ret
    exact ⟨fitsNo, rfl⟩
  have g4 : decide ((1048576 : Int) < 8 * (l1 : Int) + 24 * (l2 : Int) + 24 * (l3 : Int)) = false := by simp; omega
  go_enter Try.func28, Try.ntmps28
  go_wp2
  go_loop [9, 43] (fun sz sr => ∃ (r : Nat) (z : Int), r ≤ l2 ∧ 0 ≤ z ∧ z ≤ 1048576 ∧ sr = .int .i64 r ∧ sz = .int .i64 z ∧ Hid (∀ q, q < r → (held.getD q []).length ≤ 131072)) (fun _ sr => l2 - (intOf sr).toNat)
  case atStart => exact ⟨0, _, by omega, by omega, by omega, rfl, rfl, fun q h => absurd h (Nat.not_lt_zero _)⟩
  case round =>
    obtain ⟨r, z, hr, hz0, hz1, rfl, rfl, F1⟩ := hrel
    by_cases hlt : r < l2
    · obtain ⟨b, off, rfl, hc⟩ := cameM_at HH.out (by omega)
      obtain ⟨ar, lr, cr, hcx, hrow⟩ := hc r hlt
      have hrl : (held.getD r []).length = lr := hrow.1
      clear hc hrow
      have hlt' : (r : Int) < (l2 : Int) := by omega
      by_cases u1 : 131072 < lr
      · clear hrl
        go_wp2
        go_ret
        exact ⟨fitsNo, rfl⟩
      have F2 : Hid (∀ q, q < r + 1 → (held.getD q []).length ≤ 131072) := by
        intro q hq
        by_cases e : q = r
        · subst e; omega
        · exact F1.out q (by omega)
      clear hrl F1
      by_cases u2 : 1048576 < z + 8 * lr
      · go_wp2
        go_ret
        exact ⟨fitsNo, rfl⟩
      · go_wp2
        go_round
        case rel => exact ⟨r + 1, z + 8 * lr, by omega, by omega, by omega, by go_num, rfl, F2⟩
        case measure => simp [intOf]; omega
    · obtain rfl : r = l2 := by omega
      have F1' : Hid (∀ q, q < r → (held.getD q []).length ≤ 131072) := F1
      clear F1
      go_wp2
      go_loop [9, 65] (fun sz sr => ∃ (r : Nat) (z : Int), r ≤ l3 ∧ 0 ≤ z ∧ z ≤ 1048576 ∧ sr = .int .i64 r ∧ sz = .int .i64 z ∧ Hid (∀ q, q < r → (kept.getD q []).length ≤ 131072)) (fun _ sr => l3 - (intOf sr).toNat)
      case atStart => exact ⟨0, _, by omega, by omega, by omega, rfl, rfl, fun q h => absurd h (Nat.not_lt_zero _)⟩
      case round =>
        obtain ⟨s, y, hs, hy0, hy1, rfl, rfl, F1⟩ := hrel
        by_cases hlt : s < l3
        · obtain ⟨b, off, rfl, hc⟩ := cameM_at HK.out (by omega)
          obtain ⟨ar, lr, cr, hcx, hrow⟩ := hc s hlt
          have hrl : (kept.getD s []).length = lr := hrow.1
          clear hc hrow
          have hlt' : (s : Int) < (l3 : Int) := by omega
          by_cases u1 : 131072 < lr
          · clear hrl
            go_wp2
            go_ret
            exact ⟨fitsNo, rfl⟩
          have F2 : Hid (∀ q, q < s + 1 → (kept.getD q []).length ≤ 131072) := by
            intro q hq
            by_cases e : q = s
            · subst e; omega
            · exact F1.out q (by omega)
          clear hrl F1
          by_cases u2 : 1048576 < y + 8 * lr
          · go_wp2
            go_ret
            exact ⟨fitsNo, rfl⟩
          · go_wp2
            go_round
            case rel => exact ⟨s + 1, y + 8 * lr, by omega, by omega, by omega, by go_num, rfl, F2⟩
            case measure => simp [intOf]; omega
        · obtain rfl : s = l3 := by omega
          have F3 : Hid (∀ q, q < s → (kept.getD q []).length ≤ 131072) := F1
          clear F1
          go_wp2
          go_loop [12, 87] (fun sd sr => ∃ (t d : Nat), t ≤ s ∧ d ≤ t ∧ sr = .int .i64 t ∧ sd = .int .i64 d ∧ Hid (∀ q, q < t → kept.getD q [] ≠ [] → q < d)) (fun _ sr => s - (intOf sr).toNat)
          case atStart => exact ⟨0, 0, by omega, by omega, rfl, rfl, fun q h => absurd h (Nat.not_lt_zero _)⟩
          case round =>
            obtain ⟨t, d, ht, hd, rfl, rfl, F1⟩ := hrel
            by_cases hlt : t < s
            · obtain ⟨b, off, rfl, hc⟩ := cameM_at HK.out (by omega)
              obtain ⟨ar, lr, cr, hcx, hrow⟩ := hc t hlt
              have hrl : (kept.getD t []).length = lr := hrow.1
              clear hc hrow
              have hlt' : (t : Int) < (s : Int) := by omega
              by_cases u1 : 0 < lr
              · have F2 : Hid (∀ q, q < t + 1 → kept.getD q [] ≠ [] → q < t + 1) := fun q hq _ => hq
                clear hrl F1
                go_wp2
                go_round
                case rel => exact ⟨t + 1, t + 1, by omega, by omega, by go_num, by go_num, F2⟩
                case measure => simp [intOf]; omega
              · have F2 : Hid (∀ q, q < t + 1 → kept.getD q [] ≠ [] → q < d) := by
                  intro q hq hne
                  by_cases e : q = t
                  · subst e
                    exact absurd (List.eq_nil_of_length_eq_zero (by omega)) hne
                  · exact F1.out q (by omega) hne
                clear hrl F1
                go_wp2
                go_round
                case rel => exact ⟨t + 1, d, by omega, by omega, by go_num, rfl, F2⟩
                case measure => simp [intOf]; omega
            · obtain rfl : t = s := by omega
              have F4 : Hid (∀ q, q < t → kept.getD q [] ≠ [] → q < d) := F1
              clear F1
              by_cases v1 : l1 < d
              · go_wp2
                go_ret
                exact ⟨fitsNo, rfl⟩
              have g5 : decide ((l1 : Int) < (d : Int)) = false := by simp; omega
              go_wp2
              go_loop [105] (fun sr => ∃ i : Nat, i ≤ r ∧ sr = .int .i64 i ∧ Hid (∀ q, q < i → (q : Int) ≠ self → d ≤ (held.getD q []).length)) (fun sr => r - (intOf sr).toNat)
              case atStart => exact ⟨0, by omega, rfl, fun q h => absurd h (Nat.not_lt_zero _)⟩
              case round =>
                obtain ⟨i, hi, rfl, F1⟩ := hrel
                by_cases hlt : i < r
                · by_cases hself : (i : Int) = self
                  · have tb : ((i : Int) != self) = false := by simpa using hself
                    have F2 : Hid (∀ q, q < i + 1 → (q : Int) ≠ self → d ≤ (held.getD q []).length) := by
                      intro q hq hne
                      by_cases e : q = i
                      · subst e; exact absurd hself hne
                      · exact F1.out q (by omega) hne
                    clear F1 hself
                    go_wp2
                    go_round
                    case rel => exact ⟨i + 1, by omega, by go_num, F2⟩
                    case measure => simp [intOf]; omega
                  · have tb : ((i : Int) != self) = true := by simpa using hself
                    obtain ⟨b, off, rfl, hc⟩ := cameM_at HH.out (by omega)
                    obtain ⟨ar, lr, cr, hcx, hrow⟩ := hc i hlt
                    have hrl : (held.getD i []).length = lr := hrow.1
                    clear hc hrow
                    have hlt' : (i : Int) < (r : Int) := by omega
                    by_cases u1 : lr < d
                    · clear hrl hself
                      go_wp2
                      go_ret
                      exact ⟨fitsNo, rfl⟩
                    · have F2 : Hid (∀ q, q < i + 1 → (q : Int) ≠ self → d ≤ (held.getD q []).length) := by
                        intro q hq hne
                        by_cases e : q = i
                        · subst e; omega
                        · exact F1.out q (by omega) hne
                      clear F1 hself hrl
                      go_wp2
                      go_round
                      case rel => exact ⟨i + 1, by omega, by go_num, F2⟩
                      case measure => simp [intOf]; omega
                · obtain rfl : i = r := by omega
                  have hl2 : held.length = i := HH.out.1
                  have hl3 : kept.length = t := HK.out.1
                  have FF : Hid (Fits self l1 held kept) := by
                    refine ⟨by omega, by omega, by omega, ?_, ?_, d, ?_, by omega, ?_⟩
                    · rw [hl2]; exact F1'.out
                    · rw [hl3]; exact F3.out
                    · rw [hl3]; exact F4.out
                    · rw [hl2]; exact F1.out
                  clear hl2 hl3
                  go_wp2
                  go_ret
                  exact ⟨.inr ⟨rfl, FF.out⟩, rfl⟩

end Go.Proofs.Qxb6601533a
