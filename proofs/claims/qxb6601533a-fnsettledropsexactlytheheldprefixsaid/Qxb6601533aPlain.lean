/- THE PLAIN LAWS OF SETTLING. By an AI agent. -/
import Derived.Test.Qxb6601533aCmp
namespace Go.Proofs.Qxb6601533a
set_option linter.unusedVariables false
set_option linter.unusedSimpArgs false

/-- The least of this member's last and of the first i others' held, at place j. -/
def evTo (self : Int) (last : List Int) (held : List (List Int)) (j : Nat) : Nat → Int
  | 0 => last.getD j 0
  | i + 1 => if (i : Int) = self then evTo self last held j i else if (held.getD i []).getD j 0 < evTo self last held j i then (held.getD i []).getD j 0 else evTo self last held j i

theorem evTo_self {self : Int} {last : List Int} {held : List (List Int)} {j i : Nat} (h : (i : Int) = self) : evTo self last held j (i + 1) = evTo self last held j i := by rw [evTo, if_pos h]
theorem evTo_other {self : Int} {last : List Int} {held : List (List Int)} {j i : Nat} (h : (i : Int) ≠ self) :
    evTo self last held j (i + 1) = if (held.getD i []).getD j 0 < evTo self last held j i then (held.getD i []).getD j 0 else evTo self last held j i := by rw [evTo, if_neg h]

theorem le_evTo (self : Int) (last : List Int) (held : List (List Int)) (j : Nat) (s : Int) (n : Nat) : s ≤ evTo self last held j n ↔ s ≤ last.getD j 0 ∧ ∀ i, i < n → (i : Int) ≠ self → s ≤ (held.getD i []).getD j 0 := by
  induction n with
  | zero =>
    refine ⟨fun h => ⟨h, fun i hi => absurd hi (Nat.not_lt_zero _)⟩, fun h => h.1⟩
  | succ k ih =>
    by_cases hk : (k : Int) = self
    · rw [evTo_self hk, ih]
      refine ⟨fun ⟨h1, h2⟩ => ⟨h1, fun i hi hne => ?_⟩, fun ⟨h1, h2⟩ => ⟨h1, fun i hi hne => h2 i (by omega) hne⟩⟩
      by_cases e : i = k
      · subst e; exact absurd hk hne
      · exact h2 i (by omega) hne
    · rw [evTo_other hk]
      refine ⟨fun h => ?_, fun ⟨h1, h2⟩ => ?_⟩
      · have hle : s ≤ evTo self last held j k ∧ s ≤ (held.getD k []).getD j 0 := by
          split at h <;> omega
        obtain ⟨h1, h2⟩ := ih.1 hle.1
        refine ⟨h1, fun i hi hne => ?_⟩
        by_cases e : i = k
        · subst e; exact hle.2
        · exact h2 i (by omega) hne
      · have a := ih.2 ⟨h1, fun i hi hne => h2 i (by omega) hne⟩
        have b := h2 k (by omega) hk
        split <;> omega

/-- Everywhere: over all members. -/
def ev (self : Int) (last : List Int) (held : List (List Int)) (j : Nat) : Int := evTo self last held j held.length

theorem heldP_ev (self : Int) (last : List Int) (held : List (List Int)) (j : Nat) (s : Int) : HeldP self last held j s ↔ s ≤ ev self last held j := (le_evTo self last held j s held.length).symm

/-- How many leading Seqs are at most e. -/
def lead (e : Int) : List Int → Nat
  | [] => 0
  | x :: r => if x ≤ e then lead e r + 1 else 0

theorem lead_le (e : Int) (xs : List Int) : lead e xs ≤ xs.length := by
  induction xs with
  | nil => simp [lead]
  | cons x r ih => rw [lead]; split <;> simp <;> omega

theorem lead_eq (e : Int) (xs : List Int) : ∀ k, k ≤ xs.length → (∀ q, q < k → xs.getD q 0 ≤ e) → (k = xs.length ∨ e < xs.getD k 0) → lead e xs = k := by
  induction xs with
  | nil => intro k hk _ _; simp at hk; subst hk; rfl
  | cons x r ih =>
    intro k hk h1 h2
    rw [lead]
    cases k with
    | zero =>
      rcases h2 with h2 | h2
      · simp at h2
      · simp at h2; rw [if_neg (by omega)]
    | succ k =>
      have hx : x ≤ e := by simpa using h1 0 (by omega)
      rw [if_pos hx, ih k (by simpa using hk) (fun q hq => by simpa using h1 (q + 1) (by omega)) (by simpa using h2)]

/-- What settling leaves of a row. -/
def settled (self : Int) (last : List Int) (held : List (List Int)) (j : Nat) (xs : List Int) : List Int := xs.drop (lead (ev self last held j) xs)

theorem settled_nil (self : Int) (last : List Int) (held : List (List Int)) (j : Nat) : settled self last held j [] = [] := by simp [settled, lead]

end Go.Proofs.Qxb6601533a
