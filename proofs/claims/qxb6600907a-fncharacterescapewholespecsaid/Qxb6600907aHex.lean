/- THE WALKS OF HEXADECIMAL RUNS: hexValue, jsb1HexDigit, hex, jsb1HexRun, ZZHex. By an AI agent. -/
import Derived.Test.Qxb6600907aLaw
import Derived.Test.Qxb6600907aPlainHex
namespace Go.Proofs.Qxb6600907a
open Go.RowKit
set_option linter.unusedVariables false
set_option linter.unusedSimpArgs false

theorem or_u16 (c : Nat) (h : c < 65536) : bits .or .u16 (c : Int) 32 = ((c ||| 32 : Nat) : Int) := by
  have hx : c ||| 32 < 2 ^ 16 := Nat.or_lt_two_pow (by omega) (by omega)
  have h1 : (BitVec.ofInt 16 (c : Int)).toNat = c := by
    rw [BitVec.ofInt_natCast, BitVec.toNat_ofNat]; exact Nat.mod_eq_of_lt (by omega)
  show IntKind.u16.wrap ((BitVec.ofInt 16 (c : Int) ||| BitVec.ofInt 16 (32 : Int)).toNat : Int) = _
  rw [BitVec.toNat_or, h1, show (BitVec.ofInt 16 (32 : Int)).toNat = 32 from by decide]
  simp only [IntKind.wrap, IntKind.signed, IntKind.bits, Bool.false_and]
  simp
  omega

theorem hexValue_any (c : Int) (w : World) (h0 : 0 ≤ c) (h1 : c ≤ 65535) : Calls Try.prog 36 #[.int .u16 c] w fun e w' => e = .returned (.int .i64 (hv c)) ∧ w = w' := by
  unfold hv
  by_cases hd : 48 ≤ c ∧ c ≤ 57
  · rw [if_pos hd]
    obtain ⟨a, b⟩ := hd
    go_enter Try.func36, Try.ntmps36
    go_wp2
    go_ret
    exact ⟨by go_num, rfl⟩
  rw [if_neg hd]
  by_cases hl : 97 ≤ c ∧ c ≤ 102
  · rw [if_pos hl]
    obtain ⟨a, b⟩ := hl
    clear hd
    go_enter Try.func36, Try.ntmps36
    go_wp2
    go_ret
    exact ⟨by go_num, rfl⟩
  rw [if_neg hl]
  by_cases hu : 65 ≤ c ∧ c ≤ 70
  · rw [if_pos hu]
    obtain ⟨a, b⟩ := hu
    clear hd hl
    go_enter Try.func36, Try.ntmps36
    go_wp2
    go_ret
    exact ⟨by go_num, rfl⟩
  rw [if_neg hu]
  rcases (show c < 48 ∨ (57 < c ∧ c < 65) ∨ (70 < c ∧ c < 97) ∨ 102 < c by omega) with h | ⟨h, h'⟩ | ⟨h, h'⟩ | h
  · clear hd hl hu
    go_enter Try.func36, Try.ntmps36
    go_wp2
    go_ret
    exact ⟨by go_num, rfl⟩
  · clear hd hl hu
    go_enter Try.func36, Try.ntmps36
    go_wp2
    go_ret
    exact ⟨by go_num, rfl⟩
  · clear hd hl hu
    go_enter Try.func36, Try.ntmps36
    go_wp2
    go_ret
    exact ⟨by go_num, rfl⟩
  · clear hd hl hu
    go_enter Try.func36, Try.ntmps36
    go_wp2
    go_ret
    exact ⟨by go_num, rfl⟩

theorem hexDigit_any (c : Int) (w : World) (h0 : 0 ≤ c) (h1 : c ≤ 65535) : Calls Try.prog 30 #[.int .u16 c] w fun e w' => e = .returned (.int .i64 (hv c)) ∧ w = w' := by
  obtain ⟨k, rfl⟩ := Int.eq_ofNat_of_zero_le h0
  have hL := or_u16 k (by omega)
  have e := or32 k
  generalize hLL : k ||| 32 = L at hL e
  clear hLL
  unfold hv
  by_cases hd : 48 ≤ (k : Int) ∧ (k : Int) ≤ 57
  · rw [if_pos hd]
    obtain ⟨a, b⟩ := hd
    clear e
    go_enter Try.func30, Try.ntmps30
    go_wp2
    go_ret
    exact ⟨by go_num, rfl⟩
  rw [if_neg hd]
  by_cases hl : 97 ≤ (k : Int) ∧ (k : Int) ≤ 102
  · rw [if_pos hl]
    have : (L : Int) = k := by rw [e]; split <;> omega
    obtain ⟨a, b⟩ := hl
    rw [this] at hL
    clear hd e this
    go_enter Try.func30, Try.ntmps30
    go_wp2
    go_ret
    exact ⟨by go_num, rfl⟩
  rw [if_neg hl]
  by_cases hu : 65 ≤ (k : Int) ∧ (k : Int) ≤ 70
  · rw [if_pos hu]
    have : (L : Int) = k + 32 := by rw [e]; split <;> omega
    obtain ⟨a, b⟩ := hu
    rw [this] at hL
    clear hd e this hl
    go_enter Try.func30, Try.ntmps30
    go_wp2
    go_ret
    exact ⟨by go_num, rfl⟩
  rw [if_neg hu]
  have hn : (L : Int) < 97 ∨ 102 < (L : Int) := by rw [e]; split <;> omega
  have hd' : (k : Int) < 48 ∨ 57 < (k : Int) := by omega
  have hLb : (L : Int) ≤ 65535 := by rw [e]; split <;> omega
  clear e hd hl hu
  rcases hd' with hd' | hd' <;> rcases hn with hn | hn
  · go_enter Try.func30, Try.ntmps30
    go_wp2
    go_ret
    exact ⟨by go_num, rfl⟩
  · go_enter Try.func30, Try.ntmps30
    go_wp2
    go_ret
    exact ⟨by go_num, rfl⟩
  · go_enter Try.func30, Try.ntmps30
    go_wp2
    go_ret
    exact ⟨by go_num, rfl⟩
  · go_enter Try.func30, Try.ntmps30
    go_wp2
    go_ret
    exact ⟨by go_num, rfl⟩

end Go.Proofs.Qxb6600907a
