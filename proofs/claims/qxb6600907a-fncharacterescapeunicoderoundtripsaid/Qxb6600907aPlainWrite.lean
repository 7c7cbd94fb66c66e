/- THE PLAIN LAWS OF WRITTEN HEXADECIMAL DIGITS. By an AI agent. -/
import Derived.Test.Qxb6600907aPlainEsc
namespace Go.Proofs.Qxb6600907a
open Go.RowKit
set_option linter.unusedSimpArgs false

/-- The unit that writes the digit d. -/
def hch (d : Int) (u : Bool) : Int := if d < 10 then 48 + d else if u = true then 55 + d else 87 + d

theorem hv_hch (d : Int) (u : Bool) (h0 : 0 ≤ d) (h1 : d ≤ 15) : hv (hch d u) = d := by
  unfold hch hv
  cases u <;> by_cases hd : d < 10 <;> simp [hd] <;> repeat' split
  all_goals omega
theorem hch_bound (d : Int) (u : Bool) (h0 : 0 ≤ d) (h1 : d ≤ 15) : 0 ≤ hch d u ∧ hch d u ≤ 65535 := by
  unfold hch
  repeat' split
  all_goals omega

/-- v written as n digits. -/
def hexW (v : Nat) (u : Bool) : Nat → List Int
  | 0 => []
  | k + 1 => hch ((v / 16 ^ k % 16 : Nat) : Int) u :: hexW v u k

theorem hexW_length (v : Nat) (u : Bool) (n : Nat) : (hexW v u n).length = n := by
  induction n with
  | zero => rfl
  | succ k ih => simp [hexW, ih]

theorem hexW_hex (v : Nat) (u : Bool) (n : Nat) : allHex (hexW v u n) = true := by
  induction n with
  | zero => rfl
  | succ k ih =>
    rw [hexW]
    have hm := Nat.mod_lt (v / 16 ^ k) (by omega : 16 > 0)
    exact allHex_cons _ _ ih (by rw [hv_hch _ _ (by omega) (by omega)]; omega)

theorem hexW_bound (v : Nat) (u : Bool) (n : Nat) : ∀ x ∈ hexW v u n, 0 ≤ x ∧ x ≤ 65535 := by
  induction n with
  | zero => intro x hx; cases hx
  | succ k ih =>
    intro x hx
    rw [hexW, List.mem_cons] at hx
    have hm := Nat.mod_lt (v / 16 ^ k) (by omega : 16 > 0)
    rcases hx with rfl | hx
    · exact hch_bound _ _ (by omega) (by omega)
    · exact ih x hx

theorem hexN_hexW (v : Nat) (u : Bool) (n : Nat) : hexN (hexW v u n) = ((v % 16 ^ n : Nat) : Int) := by
  induction n with
  | zero => simp [hexW, hexN_nil, Nat.mod_one]
  | succ k ih =>
    have hm := Nat.mod_lt (v / 16 ^ k) (by omega : 16 > 0)
    rw [hexW, hexN_cons, hexW_length, ih, hv_hch _ _ (by omega) (by omega), Nat.pow_succ, Nat.mod_mul]
    simp only [Int.natCast_add, Int.natCast_mul, Int.natCast_pow]
    rw [Int.mul_comm, Int.add_comm]
    rfl

/-- WHAT IS WRITTEN READS BACK. -/
theorem hexRes_written (P S : List Int) (v : Nat) (u : Bool) (n : Nat) (hn : n ≤ 15) (hv : v < 16 ^ n) : hexRes (P ++ hexW v u n ++ S) P.length n = ((v : Int), true) := by
  have hl := hexW_length v u n
  have e : ((P ++ hexW v u n ++ S).drop P.length).take n = hexW v u n := by
    rw [List.append_assoc, List.drop_left, List.take_left' hl]
  rw [hexRes_ok _ _ _ (by simp [hl]) (by rw [e]; exact hexW_hex v u n), e, hexN_hexW, Nat.mod_eq_of_lt hv]
  have hp : (16 : Nat) ^ n ≤ 16 ^ 15 := Nat.pow_le_pow_right (by omega) hn
  have h15 : v < 1152921504606846976 := Nat.lt_of_lt_of_le hv hp
  have e2 : wrap64 (v : Int) = (v : Int) := by unfold wrap64; omega
  rw [e2]

end Go.Proofs.Qxb6600907a
