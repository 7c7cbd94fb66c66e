/- THE PLAIN LAWS OF A CHARACTER ESCAPE. By an AI agent. -/
import Derived.Test.Qxb6600907aPlainHex
namespace Go.Proofs.Qxb6600907a
open Go.RowKit
set_option linter.unusedSimpArgs false

/-- Is c an octal digit? -/
def isO (c : Int) : Bool := decide (48 ≤ c) && decide (c ≤ 55)
theorem isO_iff (c : Int) : isO c = true ↔ 48 ≤ c ∧ c ≤ 55 := by simp [isO]
theorem isO_not (c : Int) : isO c = false ↔ c < 48 ∨ 55 < c := by
  rw [Bool.eq_false_iff, ne_eq, isO_iff]; omega

/-- Does an octal digit stand at place k? -/
def octAt (xs : List Int) (k : Nat) : Bool := decide (k < xs.length) && isO (xs.getD k 0)

/-- Up to k octal digits more, as many as keep the value at most 255. -/
def octF : Nat → List Int → Nat → Int → Int × Nat
  | 0, _, pos, v => (v, pos)
  | k + 1, xs, pos, v => if octAt xs pos = true ∧ v < 32 then octF k xs (pos + 1) (v * 8 + (xs.getD pos 0 - 48)) else (v, pos)

theorem octF_zero (xs : List Int) (pos : Nat) (v : Int) : octF 0 xs pos v = (v, pos) := rfl
theorem octF_stop (k : Nat) (xs : List Int) (pos : Nat) (v : Int) (h : octAt xs pos = false ∨ 32 ≤ v) : octF k xs pos v = (v, pos) := by
  cases k with
  | zero => rfl
  | succ k =>
    rw [octF, if_neg]
    rintro ⟨h1, h2⟩
    rcases h with h | h
    · rw [h] at h1; cases h1
    · omega
theorem octF_step (k : Nat) (xs : List Int) (pos : Nat) (v : Int) (h : octAt xs pos = true) (hv : v < 32) : octF (k + 1) xs pos v = octF k xs (pos + 1) (v * 8 + (xs.getD pos 0 - 48)) := by
  rw [octF, if_pos ⟨h, hv⟩]

/-- The octal escape whose first digit stands at pos. -/
def octRes (xs : List Int) (pos : Nat) : Int × Nat := octF 2 xs (pos + 1) (xs.getD pos 0 - 48)

/-- WHAT A CHARACTER ESCAPE READS: the code unit and the place behind it. -/
def escRes (xs : List Int) (pos : Nat) : Int × Nat :=
  if xs.getD pos 0 = 102 then (12, pos + 1)
  else if xs.getD pos 0 = 110 then (10, pos + 1)
  else if xs.getD pos 0 = 114 then (13, pos + 1)
  else if xs.getD pos 0 = 116 then (9, pos + 1)
  else if xs.getD pos 0 = 118 then (11, pos + 1)
  else if xs.getD pos 0 = 120 ∧ (hexRes xs (pos + 1) 2).2 = true then ((hexRes xs (pos + 1) 2).1, pos + 1 + 2)
  else if xs.getD pos 0 = 117 ∧ (hexRes xs (pos + 1) 4).2 = true then ((hexRes xs (pos + 1) 4).1, pos + 1 + 4)
  else if isO (xs.getD pos 0) = true then octRes xs pos
  else (xs.getD pos 0, pos + 1)

theorem escRes_f {xs : List Int} {pos : Nat} (h : xs.getD pos 0 = 102) : escRes xs pos = (12, pos + 1) := by unfold escRes; rw [if_pos h]
theorem escRes_n {xs : List Int} {pos : Nat} (h : xs.getD pos 0 = 110) : escRes xs pos = (10, pos + 1) := by unfold escRes; rw [if_neg (by omega), if_pos h]
theorem escRes_r {xs : List Int} {pos : Nat} (h : xs.getD pos 0 = 114) : escRes xs pos = (13, pos + 1) := by unfold escRes; rw [if_neg (by omega), if_neg (by omega), if_pos h]
theorem escRes_t {xs : List Int} {pos : Nat} (h : xs.getD pos 0 = 116) : escRes xs pos = (9, pos + 1) := by unfold escRes; rw [if_neg (by omega), if_neg (by omega), if_neg (by omega), if_pos h]
theorem escRes_v {xs : List Int} {pos : Nat} (h : xs.getD pos 0 = 118) : escRes xs pos = (11, pos + 1) := by unfold escRes; rw [if_neg (by omega), if_neg (by omega), if_neg (by omega), if_neg (by omega), if_pos h]
theorem escRes_x {xs : List Int} {pos : Nat} (h : xs.getD pos 0 = 120) (hh : (hexRes xs (pos + 1) 2).2 = true) : escRes xs pos = ((hexRes xs (pos + 1) 2).1, pos + 1 + 2) := by
  unfold escRes; rw [if_neg (by omega), if_neg (by omega), if_neg (by omega), if_neg (by omega), if_neg (by omega), if_pos ⟨h, hh⟩]
theorem escRes_u {xs : List Int} {pos : Nat} (h : xs.getD pos 0 = 117) (hh : (hexRes xs (pos + 1) 4).2 = true) : escRes xs pos = ((hexRes xs (pos + 1) 4).1, pos + 1 + 4) := by
  unfold escRes; rw [if_neg (by omega), if_neg (by omega), if_neg (by omega), if_neg (by omega), if_neg (by omega), if_neg (by omega), if_pos ⟨h, hh⟩]
theorem escRes_x_no {xs : List Int} {pos : Nat} (h : xs.getD pos 0 = 120) (hh : (hexRes xs (pos + 1) 2).2 = false) : escRes xs pos = (120, pos + 1) := by
  unfold escRes; rw [if_neg (by omega), if_neg (by omega), if_neg (by omega), if_neg (by omega), if_neg (by omega), if_neg (by rw [hh]; simp), if_neg (by omega), if_neg (by rw [h]; decide), h]
theorem escRes_u_no {xs : List Int} {pos : Nat} (h : xs.getD pos 0 = 117) (hh : (hexRes xs (pos + 1) 4).2 = false) : escRes xs pos = (117, pos + 1) := by
  unfold escRes; rw [if_neg (by omega), if_neg (by omega), if_neg (by omega), if_neg (by omega), if_neg (by omega), if_neg (by omega), if_neg (by rw [hh]; simp), if_neg (by rw [h]; decide), h]
theorem escRes_o {xs : List Int} {pos : Nat} (h : isO (xs.getD pos 0) = true) : escRes xs pos = octRes xs pos := by
  have h' := (isO_iff _).1 h
  unfold escRes; rw [if_neg (by omega), if_neg (by omega), if_neg (by omega), if_neg (by omega), if_neg (by omega), if_neg (by omega), if_neg (by omega), if_pos h]
theorem escRes_other {xs : List Int} {pos : Nat} (h1 : xs.getD pos 0 ≠ 102) (h2 : xs.getD pos 0 ≠ 110) (h3 : xs.getD pos 0 ≠ 114) (h4 : xs.getD pos 0 ≠ 116) (h5 : xs.getD pos 0 ≠ 118) (h6 : xs.getD pos 0 ≠ 120) (h7 : xs.getD pos 0 ≠ 117) (h8 : isO (xs.getD pos 0) = false) :
    escRes xs pos = (xs.getD pos 0, pos + 1) := by
  unfold escRes; rw [if_neg h1, if_neg h2, if_neg h3, if_neg h4, if_neg h5, if_neg (by omega), if_neg (by omega), if_neg (by rw [h8]; simp)]

/-! ### Bounds -/
theorem hexN_bound (ys : List Int) (h : allHex ys = true) : 0 ≤ hexN ys ∧ hexN ys < 16 ^ ys.length := by
  induction ys with
  | nil => simp [hexN]
  | cons c r ih =>
    have hc : 0 ≤ hv c ∧ allHex r = true := by unfold allHex at *; simp_all
    have hi := ih hc.2
    have hl := hv_le c
    rw [hexN_cons, List.length_cons, Int.pow_succ]
    generalize (16 : Int) ^ r.length = p at hi ⊢
    have h1 : 0 ≤ hv c * p := Int.mul_nonneg hc.1 (by omega)
    have h2 : hv c * p ≤ 15 * p := Int.mul_le_mul_of_nonneg_right hl.2 (by omega)
    omega

theorem hexRes_bound2 (xs : List Int) (i : Nat) (h : (hexRes xs i 2).2 = true) : i + 2 ≤ xs.length ∧ 0 ≤ (hexRes xs i 2).1 ∧ (hexRes xs i 2).1 ≤ 255 := by
  unfold hexRes at h ⊢
  split at h
  · rename_i hh
    rw [if_pos hh]
    have hb := hexN_bound _ hh.2
    have hl : ((xs.drop i).take 2).length = 2 := by rw [List.length_take, List.length_drop]; omega
    rw [hl] at hb
    refine ⟨hh.1, ?_⟩
    show 0 ≤ wrap64 _ ∧ wrap64 _ ≤ 255
    unfold wrap64
    omega
  · cases h
theorem hexRes_bound4 (xs : List Int) (i : Nat) (h : (hexRes xs i 4).2 = true) : i + 4 ≤ xs.length ∧ 0 ≤ (hexRes xs i 4).1 ∧ (hexRes xs i 4).1 ≤ 65535 := by
  unfold hexRes at h ⊢
  split at h
  · rename_i hh
    rw [if_pos hh]
    have hb := hexN_bound _ hh.2
    have hl : ((xs.drop i).take 4).length = 4 := by rw [List.length_take, List.length_drop]; omega
    rw [hl] at hb
    refine ⟨hh.1, ?_⟩
    show 0 ≤ wrap64 _ ∧ wrap64 _ ≤ 65535
    unfold wrap64
    omega
  · cases h

theorem octAt_iff (xs : List Int) (k : Nat) : octAt xs k = true ↔ k < xs.length ∧ 48 ≤ xs.getD k 0 ∧ xs.getD k 0 ≤ 55 := by
  simp only [octAt, Bool.and_eq_true, decide_eq_true_eq, isO_iff]

theorem octF_bound (k : Nat) : ∀ (xs : List Int) (pos : Nat) (v : Int), 0 ≤ v → v ≤ 255 → pos ≤ xs.length →
    0 ≤ (octF k xs pos v).1 ∧ (octF k xs pos v).1 ≤ 255 ∧ pos ≤ (octF k xs pos v).2 ∧ (octF k xs pos v).2 ≤ pos + k ∧ (octF k xs pos v).2 ≤ xs.length := by
  induction k with
  | zero => intro xs pos v h0 h1 hp; rw [octF_zero]; omega
  | succ k ih =>
    intro xs pos v h0 h1 hp
    by_cases h : octAt xs pos = true ∧ v < 32
    · rw [octF_step k xs pos v h.1 h.2]
      have ho := (octAt_iff xs pos).1 h.1
      have := ih xs (pos + 1) (v * 8 + (xs.getD pos 0 - 48)) (by omega) (by omega) (by omega)
      omega
    · rw [octF_stop (k + 1) xs pos v (by cases ho : octAt xs pos <;> simp_all)]
      omega

/-- THE BOUNDS OF A CHARACTER ESCAPE. -/
theorem escRes_bound (xs : List Int) (pos : Nat) (hp : pos < xs.length) (h0 : 0 ≤ xs.getD pos 0) (h1 : xs.getD pos 0 ≤ 65535) :
    0 ≤ (escRes xs pos).1 ∧ (escRes xs pos).1 ≤ 65535 ∧ pos < (escRes xs pos).2 ∧ (escRes xs pos).2 ≤ xs.length ∧ (escRes xs pos).2 ≤ pos + 5 ∧
    (xs.getD pos 0 ≠ 120 → xs.getD pos 0 ≠ 117 → isO (xs.getD pos 0) = false → (escRes xs pos).2 = pos + 1) := by
  by_cases c1 : xs.getD pos 0 = 102
  · rw [escRes_f c1]; refine ⟨by omega, by omega, by omega, by omega, by omega, fun _ _ _ => rfl⟩
  by_cases c2 : xs.getD pos 0 = 110
  · rw [escRes_n c2]; refine ⟨by omega, by omega, by omega, by omega, by omega, fun _ _ _ => rfl⟩
  by_cases c3 : xs.getD pos 0 = 114
  · rw [escRes_r c3]; refine ⟨by omega, by omega, by omega, by omega, by omega, fun _ _ _ => rfl⟩
  by_cases c4 : xs.getD pos 0 = 116
  · rw [escRes_t c4]; refine ⟨by omega, by omega, by omega, by omega, by omega, fun _ _ _ => rfl⟩
  by_cases c5 : xs.getD pos 0 = 118
  · rw [escRes_v c5]; refine ⟨by omega, by omega, by omega, by omega, by omega, fun _ _ _ => rfl⟩
  by_cases c6 : xs.getD pos 0 = 120
  · cases hh : (hexRes xs (pos + 1) 2).2
    · rw [escRes_x_no c6 hh]; refine ⟨by omega, by omega, by omega, by omega, by omega, fun _ _ _ => rfl⟩
    · have := hexRes_bound2 xs (pos + 1) hh
      rw [escRes_x c6 hh]; refine ⟨by omega, by omega, by omega, by omega, by omega, fun h => absurd c6 h⟩
  by_cases c7 : xs.getD pos 0 = 117
  · cases hh : (hexRes xs (pos + 1) 4).2
    · rw [escRes_u_no c7 hh]; refine ⟨by omega, by omega, by omega, by omega, by omega, fun _ _ _ => rfl⟩
    · have := hexRes_bound4 xs (pos + 1) hh
      rw [escRes_u c7 hh]; refine ⟨by omega, by omega, by omega, by omega, by omega, fun _ h => absurd c7 h⟩
  cases c8 : isO (xs.getD pos 0)
  · rw [escRes_other c1 c2 c3 c4 c5 c6 c7 c8]; refine ⟨by omega, by omega, by omega, by omega, by omega, fun _ _ _ => rfl⟩
  · have h8 := (isO_iff _).1 c8
    have := octF_bound 2 xs (pos + 1) (xs.getD pos 0 - 48) (by omega) (by omega) (by omega)
    rw [escRes_o c8]
    unfold octRes
    refine ⟨by omega, by omega, by omega, by omega, by omega, fun _ _ h => by cases h⟩

end Go.Proofs.Qxb6600907a
