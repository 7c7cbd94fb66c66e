/- THE WALKS OF WRITING DIGITS: jsb1Pow16, jsb1HexChar, jsb1AppendHex. By an AI agent. -/
import Derived.Test.Qxb6600907aLaw
import Derived.Test.Qxb6600907aPlainWrite
namespace Go.Proofs.Qxb6600907a
open Go.RowKit
set_option linter.unusedVariables false
set_option linter.unusedSimpArgs false

theorem pow_step (k : Nat) (p : Int) (h : p = ((16 ^ k : Nat) : Int)) : p * 16 = ((16 ^ (k + 1) : Nat) : Int) := by
  rw [h, Nat.pow_succ]; omega
theorem pow_le (k : Nat) (hk : k ≤ 14) : ((16 ^ k : Nat) : Int) ≤ 72057594037927936 := by
  have : (16 : Nat) ^ k ≤ 16 ^ 14 := Nat.pow_le_pow_right (by omega) hk
  omega

theorem pow16_any (n : Nat) (P : Int) (w : World) (hn : n ≤ 15) (hP : P = ((16 ^ n : Nat) : Int)) : Calls Try.prog 16 #[.int .i64 n] w fun e w' => e = .returned (.int .i64 P) ∧ w = w' := by
  have HP := hid hP
  clear hP
  go_enter Try.func16, Try.ntmps16
  go_wp2
  go_loop [3, 4] (fun sp sk => ∃ (k : Nat) (p : Int), k ≤ n ∧ sk = .int .i64 k ∧ sp = .int .i64 p ∧ 1 ≤ p ∧ Hid (p = ((16 ^ k : Nat) : Int))) (fun _ sk => n - (intOf sk).toNat)
  case atStart => exact ⟨0, 1, by omega, rfl, rfl, by omega, rfl⟩
  case round =>
    obtain ⟨k, p, hk, rfl, rfl, hp1, H⟩ := hrel
    by_cases hlt : k < n
    · have hp2 : p ≤ 72057594037927936 := by rw [H.out]; exact pow_le k (by omega)
      have H2 := hid (pow_step k p H.out)
      clear H
      go_wp2
      go_round
      case rel => exact ⟨k + 1, p * 16, by omega, by go_num, rfl, by omega, H2⟩
      case measure => simp [intOf]; omega
    · obtain rfl : k = n := by omega
      go_wp2
      go_ret
      have e : P = p := HP.out.trans H.out.symm
      rw [e]
      exact ⟨rfl, rfl⟩

theorem hexChar_any (d : Int) (u : Bool) (w : World) (h0 : 0 ≤ d) (h1 : d ≤ 15) : Calls Try.prog 31 #[.int .i64 d, .bool u] w fun e w' => e = .returned (.int .u16 (hch d u)) ∧ w = w' := by
  unfold hch
  by_cases hd : d < 10
  · rw [if_pos hd]
    go_enter Try.func31, Try.ntmps31
    go_wp2
    go_ret
    exact ⟨by go_num, rfl⟩
  rw [if_neg hd]
  cases u with
  | true =>
    rw [if_pos rfl]
    go_enter Try.func31, Try.ntmps31
    go_wp2
    go_ret
    exact ⟨by go_num, rfl⟩
  | false =>
    rw [if_neg (by simp)]
    go_enter Try.func31, Try.ntmps31
    go_wp2
    go_ret
    exact ⟨by go_num, rfl⟩

theorem and15 (x : Nat) (h : x < 9223372036854775808) : bits .and .i64 (x : Int) 15 = ((x % 16 : Nat) : Int) := by
  have h1 : (BitVec.ofInt 64 (x : Int)).toNat = x := by
    rw [BitVec.ofInt_natCast, BitVec.toNat_ofNat]; exact Nat.mod_eq_of_lt (by omega)
  have h2 : x &&& 15 = x % 16 := Nat.and_two_pow_sub_one_eq_mod x 4
  show IntKind.i64.wrap ((BitVec.ofInt 64 (x : Int) &&& BitVec.ofInt 64 (15 : Int)).toNat : Int) = _
  rw [BitVec.toNat_and, h1, show (BitVec.ofInt 64 (15 : Int)).toNat = 15 from by decide, h2]
  have := Nat.mod_lt x (by omega : 16 > 0)
  rw [IntKind.wrap_i64]
  omega


theorem dig_eq (v s : Nat) (h : v < 9223372036854775808) : bits .and .i64 ((v : Int) / 2 ^ (4 * s)) 15 = ((v / 16 ^ s % 16 : Nat) : Int) := by
  have e : (v : Int) / 2 ^ (4 * s) = ((v / 16 ^ s : Nat) : Int) := by
    rw [Nat.pow_mul 2 4 s |> fun h => show (2 : Int) ^ (4 * s) = ((16 ^ s : Nat) : Int) from by
      rw [show (16 : Nat) = 2 ^ 4 from rfl, ← h]; simp]
    simp
  rw [e, and15 _ (Nat.lt_of_le_of_lt (Nat.div_le_self _ _) h)]

theorem run_start' (n : Nat) : (n = 0 ∧ Value.int .i64 ((n : Int) - 1) = .int .i64 (-1)) ∨ ∃ s, n = s + 1 ∧ Value.int .i64 ((n : Int) - 1) = .int .i64 (s : Nat) := by
  cases n with
  | zero => exact .inl ⟨rfl, rfl⟩
  | succ k => exact .inr ⟨k, rfl, by congr 1; omega⟩

set_option maxHeartbeats 1000000 in
theorem appHex_any (g k cap B v n : Nat) (u : Bool) (xs : List Int) (w : World) (hown : w.ownsRow B 34 1 (.slice (some ⟨g, 0, none⟩) k cap) k (ints xs))
    (hfit : k + n ≤ cap) (hcap : cap ≤ 2097152) (hn : n ≤ 15) (hv : (v : Int) ≤ 9223372036854775807) :
    Calls Try.prog 18 #[.slice (some ⟨g, 0, none⟩) k cap, .int .i64 v, .int .i64 n, .bool u] w fun e w' => e = .returned (.slice (some ⟨g, 0, none⟩) (k + n) cap) ∧
      w'.ownsRow B 34 1 (.slice (some ⟨g, 0, none⟩) (k + n) cap) (k + n) (ints (xs ++ hexW v u n)) ∧ w.grownBy w' (some g) := by
  obtain ⟨i0, hi, hz0, hz1, hz2⟩ := info_parts info34
  go_enter Try.func18, Try.ntmps18
  go_wp2
  go_loopw [0, 9] (fun d sk wr => ∃ (t : Nat) (ws : List Int), t ≤ n ∧ ((t = 0 ∧ sk = .int .i64 (-1)) ∨ ∃ s : Nat, t = s + 1 ∧ sk = .int .i64 s) ∧ d = .slice (some ⟨g, 0, none⟩) (k + (n - t)) cap ∧ wr.ownsRow B 34 1 (.slice (some ⟨g, 0, none⟩) (k + (n - t)) cap) (k + (n - t)) (ints (xs ++ ws)) ∧ w.grownBy wr (some g) ∧ Hid (ws ++ hexW v u t = hexW v u n))
    (fun _ sk _ => (intOf sk + 1).toNat)
  case atStart => exact ⟨n, [], Nat.le_refl _, run_start' n, by simp, by simpa using hown, World.grownBy.refl _ _, rfl⟩
  case round =>
    obtain ⟨t, ws, ht, hsk, rfl, hown1, hgrow, H⟩ := hrel
    clear hown
    rcases hsk with ⟨rfl, rfl⟩ | ⟨s, rfl, rfl⟩
    · have e : ws = hexW v u n := by have := H.out; rw [hexW, List.append_nil] at this; exact this
      rw [e] at hown1
      clear e H
      go_wp2
      go_ret
      exact ⟨rfl, hown1, hgrow⟩
    · have hd := dig_eq v s (by omega)
      have hm := Nat.mod_lt (v / 16 ^ s) (by omega : 16 > 0)
      have H1 := H.out
      rw [hexW] at H1
      generalize hdd : ((v / 16 ^ s % 16 : Nat) : Int) = d at hd H1
      have hd0 : 0 ≤ d := by omega
      have hd1 : d ≤ 15 := by omega
      clear hdd hm H
      have V := hid (hexChar_any d u wr hd0 hd1)
      generalize hch d u = c at V H1
      have H2 : Hid ((ws ++ [c]) ++ hexW v u s = hexW v u n) := by show _ = _; rw [List.append_assoc]; exact H1
      have E1 : Hid (ints (xs ++ ws) ++ [.int .u16 c] = ints (xs ++ (ws ++ [c]))) := by show _ = _; rw [ints_snoc, List.append_assoc]
      clear H1
      go_wp2_with fail
      refine V.out.mono ?_
      rintro e w' ⟨rfl, rfl⟩
      go_wp2_with (at_builtin; refine wpList_append_fits _ rfl _ _ 22 rfl B 34 i0 1 Try.underlying22 hi hz1 g (k + (n - (s + 1))) cap _ rfl (hown1.alloc _) ⟨wr.heap.size, 0, none⟩ 1 1 [.int .u16 c] rfl rfl (cell_one_new _ _ _) (by intro u hu; simp at hu; subst hu; rfl) (by omega) ?_)
      intro w1 hown2 hgrow2
      have G := grownBy_trans (grownBy_trans hgrow (World.grownBy_alloc wr _ _)) hgrow2
      rw [E1.out] at hown2
      have e2 : k + (n - (s + 1)) + 1 = k + (n - s) := by omega
      rw [e2] at hown2 ⊢
      clear hown1 hgrow hgrow2 E1 e2 V
      go_wp2
      go_roundw
      case rel => exact ⟨s, ws ++ [c], by omega, run_start' s, rfl, hown2, G, H2⟩
      case measure => simp [intOf]

end Go.Proofs.Qxb6600907a
