/- THE PLAIN LAWS OF HEXADECIMAL RUNS: no Go in sight, but for the wrap of a 64-bit int. By an AI agent. -/
import Derived.RowKit
namespace Go.Proofs.Qxb6600907a
open Go.RowKit
set_option linter.unusedSimpArgs false

/-- The value of a hexadecimal digit, or -1. -/
def hv (c : Int) : Int := if 48 ≤ c ∧ c ≤ 57 then c - 48 else if 97 ≤ c ∧ c ≤ 102 then c - 87 else if 65 ≤ c ∧ c ≤ 70 then c - 55 else -1

theorem hv_le (c : Int) : -1 ≤ hv c ∧ hv c ≤ 15 := by unfold hv; repeat' split <;> omega

/-- The positional value, unwrapped, read from the left. -/
def hexN (ys : List Int) : Int := ys.foldl (fun v c => v * 16 + hv c) 0

theorem hexN_nil : hexN [] = 0 := rfl
theorem hexN_snoc (ys : List Int) (c : Int) : hexN (ys ++ [c]) = hexN ys * 16 + hv c := by simp [hexN, List.foldl_append]

theorem hexN_from (ys : List Int) : ∀ v : Int, ys.foldl (fun v c => v * 16 + hv c) v = v * 16 ^ ys.length + hexN ys := by
  induction ys with
  | nil => intro v; simp [hexN]
  | cons c r ih =>
    intro v
    unfold hexN
    simp only [List.foldl_cons]
    rw [ih, ih]
    simp only [List.length_cons, Int.pow_succ]
    rw [Int.zero_mul, Int.zero_add, Int.add_mul, Int.mul_assoc, Int.mul_comm 16 (16 ^ r.length), Int.add_assoc]

/-- The positional value, read from the right. -/
theorem hexN_cons (c : Int) (r : List Int) : hexN (c :: r) = hv c * 16 ^ r.length + hexN r := by
  have := hexN_from r (hv c)
  show (c :: r).foldl (fun v c => v * 16 + hv c) 0 = _
  rw [List.foldl_cons, Int.zero_mul, Int.zero_add]
  exact this

/-- Are all units hexadecimal digits? -/
def allHex (ys : List Int) : Bool := ys.all (fun c => decide (0 ≤ hv c))
theorem allHex_nil : allHex [] = true := rfl
theorem allHex_snoc (ys : List Int) (c : Int) (h : allHex ys = true) (hc : 0 ≤ hv c) : allHex (ys ++ [c]) = true := by
  unfold allHex at *; simp_all
theorem allHex_cons (ys : List Int) (c : Int) (h : allHex ys = true) (hc : 0 ≤ hv c) : allHex (c :: ys) = true := by
  unfold allHex at *; simp_all
theorem allHex_not (ys : List Int) (k : Nat) (hk : k < ys.length) (hc : hv (ys.getD k 0) < 0) : allHex ys = false := by
  unfold allHex
  rw [List.all_eq_false]
  refine ⟨ys.getD k 0, ?_, by simpa using hc⟩
  simp [List.getD, hk]

theorem wrap64_step (a d : Int) : wrap64 (wrap64 (wrap64 a * 16) + d) = wrap64 (a * 16 + d) := by unfold wrap64; omega
theorem wrap64_step2 (a p d : Int) : wrap64 (wrap64 a + wrap64 (d * wrap64 p)) = wrap64 (d * p + a) := by
  have h1 : ∀ x : Int, ∃ q : Int, wrap64 x = x + q * 18446744073709551616 := by
    intro x
    refine ⟨-((x + 9223372036854775808) / 18446744073709551616), ?_⟩
    unfold wrap64
    omega
  have h2 : ∀ x q : Int, wrap64 (x + q * 18446744073709551616) = wrap64 x := by
    intro x q
    unfold wrap64
    omega
  obtain ⟨q1, e1⟩ := h1 a
  obtain ⟨q2, e2⟩ := h1 p
  obtain ⟨q3, e3⟩ := h1 (d * wrap64 p)
  rw [e1, e3, e2, Int.mul_add]
  have e : a + q1 * 18446744073709551616 + (d * p + d * (q2 * 18446744073709551616) + q3 * 18446744073709551616) = (d * p + a) + (q1 + d * q2 + q3) * 18446744073709551616 := by
    rw [← Int.mul_assoc]
    omega
  rw [e, h2]
theorem wrap64_zero : wrap64 0 = 0 := by unfold wrap64; omega
theorem wrap64_one : wrap64 1 = 1 := by unfold wrap64; omega
theorem wrap64_mul16 (p : Int) : wrap64 (wrap64 p * 16) = wrap64 (p * 16) := by unfold wrap64; omega

/-- What a read of n digits from i on answers. -/
def hexRes (xs : List Int) (i n : Nat) : Int × Bool :=
  if i + n ≤ xs.length ∧ allHex ((xs.drop i).take n) = true then (wrap64 (hexN ((xs.drop i).take n)), true) else (0, false)

theorem hexRes_short (xs : List Int) (i n : Nat) (h : xs.length < i + n) : hexRes xs i n = (0, false) := by
  unfold hexRes; rw [if_neg (by omega)]
theorem hexRes_miss (xs : List Int) (i n k : Nat) (h : i + n ≤ xs.length) (hk : k < n) (hc : hv (xs.getD (i + k) 0) < 0) : hexRes xs i n = (0, false) := by
  unfold hexRes
  have : allHex ((xs.drop i).take n) = false := by
    refine allHex_not _ k (by rw [List.length_take, List.length_drop]; omega) ?_
    have e : ((xs.drop i).take n).getD k 0 = xs.getD (i + k) 0 := by simp [List.getD, List.getElem?_take, hk]
    rw [e]; exact hc
  rw [this]
  simp
theorem hexRes_ok (xs : List Int) (i n : Nat) (h : i + n ≤ xs.length) (ha : allHex ((xs.drop i).take n) = true) : hexRes xs i n = (wrap64 (hexN ((xs.drop i).take n)), true) := by
  unfold hexRes; rw [if_pos ⟨h, ha⟩]

/-- 'c | 0x20' on sixteen bits. -/
theorem or32 (c : Nat) : c ||| 32 = 64 * (c / 64) + (if c % 64 % 64 < 32 then c % 64 + 32 else c % 64) := by
  have h1 : (c ||| 32) / 64 = c / 64 := by
    have := Nat.shiftRight_or_distrib (a := c) (b := 32) (i := 6)
    simpa [Nat.shiftRight_eq_div_pow] using this
  have h2 : (c ||| 32) % 64 = (c % 64) ||| 32 := by
    have := Nat.or_mod_two_pow (a := c) (b := 32) (n := 6)
    simpa using this
  have h3 : ∀ r, r < 64 → r ||| 32 = if r % 64 < 32 then r + 32 else r := by decide
  rw [h3 _ (Nat.mod_lt _ (by omega))] at h2
  have := Nat.div_add_mod (c ||| 32) 64
  omega

end Go.Proofs.Qxb6600907a
