/- THE WALKS OF THE LAW's OWN MODEL: jsb1ParenKind, jsb1CountModel. By an AI agent. -/
import Derived.Test.Qxb6600907aLaw
import Derived.Test.Qxb6600907aCount
namespace Go.Proofs.Qxb6600907a
open Go.RowKit
set_option linter.unusedVariables false
set_option linter.unusedSimpArgs false

theorem drop_at (xs : List Int) (i k : Nat) (h : i + k < xs.length) : (xs.drop i)[k]? = some (xs.getD (i + k) 0) := by
  rw [List.getElem?_drop]; simp [List.getD, h]
theorem drop_past (xs : List Int) (i k : Nat) (h : xs.length ≤ i + k) : (xs.drop i)[k]? = none := by
  rw [List.getElem?_drop]; simp [h]

set_option maxHeartbeats 1000000 in
theorem parenKind_at (b off n cap j : Nat) (xs : List Int) (w : World) (hlen : xs.length = n) (hn : n ≤ 1048600) (hj : j < n)
    (hc : ∀ j, j < n → w.cell? ⟨b, off + j, none⟩ = some (.int .u16 (xs.getD j 0))) :
    Calls Try.prog 35 #[.slice (some ⟨b, off, none⟩) n cap, .int .i64 j] w fun e w' => e = .returned (.int .i64 (pKind (xs.drop (j + 1)))) ∧ w = w' := by
  by_cases h1 : n ≤ j + 1
  · have e : pKind (xs.drop (j + 1)) = 2 := by unfold pKind; rw [drop_past xs (j + 1) 0 (by omega)]; rfl
    rw [e]
    clear hc
    have t1 : decide ((n : Int) ≤ (j : Int) + 1) = true := by simp; omega
    go_enter Try.func35, Try.ntmps35
    go_wp2
    go_ret
    exact ⟨rfl, rfl⟩
  have k1 := drop_at xs (j + 1) 0 (by omega)
  have hc1 := hc (j + 1) (by omega)
  rw [Nat.add_zero] at k1
  generalize xs.getD (j + 1) 0 = c1 at k1 hc1
  have t1 : decide ((n : Int) ≤ (j : Int) + 1) = false := by simp; omega
  have b1 : ((j : Int) + 1) < (n : Int) := by omega
  by_cases h2 : c1 = 63
  rotate_left
  · have e : pKind (xs.drop (j + 1)) = 2 := by unfold pKind; rw [k1, if_neg (by simpa using h2)]
    rw [e]
    have t2 : (c1 != 63) = true := by simpa using h2
    clear hc h2 k1
    go_enter Try.func35, Try.ntmps35
    go_wp2
    go_ret
    exact ⟨rfl, rfl⟩
  subst h2
  by_cases h3 : n ≤ j + 2
  · have e : pKind (xs.drop (j + 1)) = 2 := by unfold pKind; rw [k1, drop_past xs (j + 1) 1 (by omega)]; rfl
    rw [e]
    clear hc k1
    go_enter Try.func35, Try.ntmps35
    go_wp2
    go_ret
    exact ⟨rfl, rfl⟩
  have k2 := drop_at xs (j + 1) 1 (by omega)
  have hc2 := hc (j + 2) (by omega)
  rw [show j + 1 + 1 = j + 2 by omega] at k2
  generalize xs.getD (j + 2) 0 = c2 at k2 hc2
  have b2 : ((j : Int) + 2) < (n : Int) := by omega
  by_cases h4 : c2 = 61
  · subst h4
    have e : pKind (xs.drop (j + 1)) = 0 := by unfold pKind; rw [k1, k2]; rfl
    rw [e]
    clear hc k1 k2
    go_enter Try.func35, Try.ntmps35
    go_wp2
    go_ret
    exact ⟨rfl, rfl⟩
  by_cases h5 : c2 = 33
  · subst h5
    have e : pKind (xs.drop (j + 1)) = 0 := by unfold pKind; rw [k1, k2]; rfl
    rw [e]
    clear hc k1 k2 h4
    go_enter Try.func35, Try.ntmps35
    go_wp2
    go_ret
    exact ⟨rfl, rfl⟩
  have t4 : (c2 == 61) = false := by simpa using h4
  have t5 : (c2 == 33) = false := by simpa using h5
  by_cases h6 : c2 = 60
  rotate_left
  · have e : pKind (xs.drop (j + 1)) = 2 := by
      unfold pKind; rw [k1, k2, if_pos rfl, if_neg (by simp [h4, h5]), if_neg (by simpa using h6)]
    rw [e]
    have t6 : (c2 != 60) = true := by simpa using h6
    clear hc k1 k2 h4 h5 h6
    go_enter Try.func35, Try.ntmps35
    go_wp2
    go_ret
    exact ⟨rfl, rfl⟩
  subst h6
  clear h4 h5 t4 t5
  by_cases h7 : n ≤ j + 3
  · have e : pKind (xs.drop (j + 1)) = 1 := by unfold pKind; rw [k1, k2, drop_past xs (j + 1) 2 (by omega)]; rfl
    rw [e]
    have t7 : decide ((j : Int) + 3 < (n : Int)) = false := by simp; omega
    clear hc k1 k2
    go_enter Try.func35, Try.ntmps35
    go_wp2
    go_ret
    exact ⟨rfl, rfl⟩
  have k3 := drop_at xs (j + 1) 2 (by omega)
  have hc3 := hc (j + 3) (by omega)
  rw [show j + 1 + 2 = j + 3 by omega] at k3
  generalize xs.getD (j + 3) 0 = c3 at k3 hc3
  have b3 : ((j : Int) + 3) < (n : Int) := by omega
  have t7 : decide ((j : Int) + 3 < (n : Int)) = true := by simp; omega
  by_cases h8 : c3 = 61
  · subst h8
    have e : pKind (xs.drop (j + 1)) = 0 := by unfold pKind; rw [k1, k2, k3]; rfl
    rw [e]
    clear hc k1 k2 k3
    go_enter Try.func35, Try.ntmps35
    go_wp2
    go_ret
    exact ⟨rfl, rfl⟩
  have t8 : (c3 == 61) = false := by simpa using h8
  by_cases h9 : c3 = 33
  · subst h9
    have e : pKind (xs.drop (j + 1)) = 0 := by unfold pKind; rw [k1, k2, k3]; rfl
    rw [e]
    clear hc k1 k2 k3 h8
    go_enter Try.func35, Try.ntmps35
    go_wp2
    go_ret
    exact ⟨rfl, rfl⟩
  have t9 : (c3 == 33) = false := by simpa using h9
  have e : pKind (xs.drop (j + 1)) = 1 := by
    unfold pKind; rw [k1, k2, k3, if_pos rfl, if_neg (by simp), if_pos rfl, if_neg (by simp [h8, h9])]
  rw [e]
  clear hc k1 k2 k3 h8 h9
  go_enter Try.func35, Try.ntmps35
  go_wp2
  go_ret
  exact ⟨rfl, rfl⟩

end Go.Proofs.Qxb6600907a
