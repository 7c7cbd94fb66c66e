/- THE WALK OF jsb1HexRun. By an AI agent. -/
import Derived.Test.Qxb6600907aHex2
namespace Go.Proofs.Qxb6600907a
open Go.RowKit
set_option linter.unusedVariables false
set_option linter.unusedSimpArgs false

theorem win_drop (xs : List Int) (i n s : Nat) (h : i + n ≤ xs.length) (hs : s < n) : ((xs.drop i).take n).drop s = xs.getD (i + s) 0 :: ((xs.drop i).take n).drop (s + 1) := by
  have hl : s < ((xs.drop i).take n).length := by rw [List.length_take, List.length_drop]; omega
  rw [List.drop_eq_getElem_cons hl]
  congr 1
  simp [List.getD, show i + s < xs.length by omega]
theorem win_len (xs : List Int) (i n s : Nat) (h : i + n ≤ xs.length) : (((xs.drop i).take n).drop s).length = n - s := by
  rw [List.length_drop, List.length_take, List.length_drop]; omega
theorem run_start (n : Nat) : (n = 0 ∧ Value.int .i64 ((n : Int) - 1) = .int .i64 (-1)) ∨ ∃ s, n = s + 1 ∧ Value.int .i64 ((n : Int) - 1) = .int .i64 (s : Nat) := by
  cases n with
  | zero => exact .inl ⟨rfl, rfl⟩
  | succ k => exact .inr ⟨k, rfl, by congr 1; omega⟩

set_option maxHeartbeats 1000000 in
theorem hexRun_at (b off m cap i n : Nat) (xs : List Int) (w : World) (hlen : xs.length = m) (hm : m ≤ 1048600)
    (hi : (i : Int) ≤ 9223372036854775807) (hn : n ≤ 65536) (hc : ∀ j, j < m → w.cell? ⟨b, off + j, none⟩ = some (.int .u16 (xs.getD j 0))) (hw : ∀ x ∈ xs, 0 ≤ x ∧ x ≤ 65535) :
    Calls Try.prog 14 #[.slice (some ⟨b, off, none⟩) m cap, .int .i64 i, .int .i64 n] w fun e w' => e = .returned (.tuple #[.int .i64 (hexRes xs i n).1, .bool (hexRes xs i n).2]) ∧ w = w' := by
  have HC := hid hc
  clear hc
  by_cases hshort : m < i + n
  · rw [hexRes_short xs i n (by omega)]
    clear hw hlen
    go_enter Try.func14, Try.ntmps14
    go_wp2
    go_ret2
    exact ⟨rfl, rfl⟩
  have HW := hid hw
  clear hw
  generalize hR : hexRes xs i n = R
  have HR := hid hR
  clear hR
  have ht : decide ((m : Int) - (i : Int) < (n : Int)) = false := by simp; omega
  go_enter Try.func14, Try.ntmps14
  go_wp2
  go_loop [8, 9, 10] (fun sv sp sk => ∃ (t : Nat) (v p : Int), t ≤ n ∧ ((t = 0 ∧ sk = .int .i64 (-1)) ∨ ∃ s : Nat, t = s + 1 ∧ sk = .int .i64 s) ∧ sv = .int .i64 v ∧ sp = .int .i64 p ∧
      Hid (v = wrap64 (hexN (((xs.drop i).take n).drop t)) ∧ p = wrap64 (16 ^ (n - t)) ∧ allHex (((xs.drop i).take n).drop t) = true)) (fun _ _ sk => (intOf sk + 1).toNat)
  case atStart =>
    refine ⟨n, 0, 1, by omega, run_start n, rfl, rfl, ?_⟩
    have e : ((xs.drop i).take n).drop n = [] := List.eq_nil_of_length_eq_zero (by rw [win_len xs i n n (by omega)]; omega)
    rw [e]
    exact ⟨wrap64_zero.symm, by rw [Nat.sub_self]; exact wrap64_one.symm, rfl⟩
  case round =>
    obtain ⟨t, v, p, hk, hsk, rfl, rfl, H⟩ := hrel
    rcases hsk with ⟨rfl, rfl⟩ | ⟨s, rfl, rfl⟩
    · have e := hexRes_ok xs i n (by omega) H.out.2.2
      rw [HR.out] at e
      have e1 := H.out.1
      rw [List.drop_zero] at e1
      rw [← e1] at e
      have E := hid e
      clear e e1
      go_wp2
      go_ret2
      rw [E.out]
      exact ⟨rfl, rfl⟩
    · have hcx := HC.out (i + s) (by omega)
      have hb := getD_in xs HW.out (i + s) (by omega)
      have HS := hid (win_drop xs i n s (by omega) (by omega))
      have HM := fun (h : hv (xs.getD (i + s) 0) < 0) => hexRes_miss xs i n s (by omega) (by omega) h
      generalize xs.getD (i + s) 0 = c at hcx hb HS HM
      have V := hid (hexDigit_any c w hb.1 hb.2)
      have hd := hv_le c
      have HT := hid (hexN_cons c (((xs.drop i).take n).drop (s + 1)))
      have HA := hid (allHex_cons (((xs.drop i).take n).drop (s + 1)) c)
      generalize hv c = d at V hd HT HA HM
      by_cases hneg : d < 0
      · have e := HM hneg
        rw [HR.out] at e
        have E := hid e
        clear e HM hb
        go_wp2_with fail
        refine V.out.mono ?_
        rintro e w' ⟨rfl, rfl⟩
        go_wp2
        go_ret2
        rw [E.out]
        exact ⟨rfl, rfl⟩
      · have H2 : Hid (wrap64 (v + wrap64 (d * p)) = wrap64 (hexN (((xs.drop i).take n).drop s)) ∧ wrap64 (p * 16) = wrap64 (16 ^ (n - s)) ∧ allHex (((xs.drop i).take n).drop s) = true) := by
          rw [HS.out, HT.out, win_len xs i n (s + 1) (by omega), H.out.1, H.out.2.1, wrap64_step2, wrap64_mul16]
          refine ⟨rfl, ?_, HA.out H.out.2.2 (by omega)⟩
          rw [show n - s = (n - (s + 1)) + 1 by omega, Int.pow_succ]
        clear HM hb H
        go_wp2_with fail
        refine V.out.mono ?_
        rintro e w' ⟨rfl, rfl⟩
        go_wp2
        go_round
        case rel => exact ⟨s, _, _, by omega, run_start s, rfl, rfl, H2⟩
        case measure => simp [intOf]

theorem hexRun_nil (i n : Nat) (w : World) (hi : (i : Int) ≤ 9223372036854775807) (hn : n ≤ 65536) :
    Calls Try.prog 14 #[.slice none 0 0, .int .i64 i, .int .i64 n] w fun e w' => e = .returned (.tuple #[.int .i64 (hexRes [] i n).1, .bool (hexRes [] i n).2]) ∧ w = w' := by
  by_cases h : 0 < i + n
  · rw [hexRes_short [] i n (by simpa using h)]
    go_enter Try.func14, Try.ntmps14
    go_wp2
    go_ret2
    exact ⟨rfl, rfl⟩
  · obtain rfl : i = 0 := by omega
    obtain rfl : n = 0 := by omega
    rw [hexRes_ok [] 0 0 (by simp) rfl, show wrap64 (hexN ((([] : List Int).drop 0).take 0)) = 0 from wrap64_zero]
    go_enter Try.func14, Try.ntmps14
    go_wp2
    refine wp_loop_rounds 1 ?_
    rw [rounds_succ]
    go_wp2
    go_ret2
    exact ⟨rfl, rfl⟩

theorem hexRun_any (B i n : Nat) (v : Value) (xs : List Int) (w : World) (hown : w.ownsRow B 34 1 v xs.length (ints xs)) (hm : xs.length ≤ 1048600) (hi : (i : Int) ≤ 9223372036854775807) (hn : n ≤ 65536) (hw : ∀ x ∈ xs, 0 ≤ x ∧ x ≤ 65535) :
    Calls Try.prog 14 #[v, .int .i64 i, .int .i64 n] w fun e w' => e = .returned (.tuple #[.int .i64 (hexRes xs i n).1, .bool (hexRes xs i n).2]) ∧ w = w' := by
  rcases hown.2 with ⟨rfl, hz⟩ | ⟨g, cap, cur, rfl, hb, hg, hnc, _⟩
  · obtain rfl := List.eq_nil_of_length_eq_zero hz
    exact hexRun_nil i n w hi hn
  · exact hexRun_at g 0 xs.length cap i n xs w rfl hm hi hn (fun j hj => by rw [Nat.zero_add]; exact own_cell hown j hj) hw

end Go.Proofs.Qxb6600907a
