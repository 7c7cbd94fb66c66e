/- THE WALKS OF HEXADECIMAL RUNS: hex, jsb1HexRun, ZZHex. By an AI agent. -/
import Derived.Test.Qxb6600907aHex
namespace Go.Proofs.Qxb6600907a
open Go.RowKit
set_option linter.unusedVariables false
set_option linter.unusedSimpArgs false

theorem win_snoc (xs : List Int) (i k : Nat) (h : i + k < xs.length) : (xs.drop i).take (k + 1) = (xs.drop i).take k ++ [xs.getD (i + k) 0] := by
  rw [take_snoc _ _ (by rw [List.length_drop]; omega)]
  simp [List.getD]

theorem getD_in (xs : List Int) (hw : ∀ x ∈ xs, 0 ≤ x ∧ x ≤ 65535) (k : Nat) (h : k < xs.length) : 0 ≤ xs.getD k 0 ∧ xs.getD k 0 ≤ 65535 := by
  have : xs.getD k 0 = xs[k] := by simp [List.getD, h]
  rw [this]
  exact hw _ (List.getElem_mem h)

set_option maxHeartbeats 1000000 in
theorem hex_at (pb b off m cap i n : Nat) (xs : List Int) (w : World) (hp : w.cell? ⟨pb, 0, none⟩ = some (.slice (some ⟨b, off, none⟩) m cap)) (hlen : xs.length = m) (hm : m ≤ 1048600) (hcap : m ≤ cap)
    (hi : (i : Int) ≤ 9223372036854775807) (hn : n ≤ 65536) (hc : ∀ j, j < m → w.cell? ⟨b, off + j, none⟩ = some (.int .u16 (xs.getD j 0))) (hw : ∀ x ∈ xs, 0 ≤ x ∧ x ≤ 65535) :
    Calls Try.prog 29 #[.pointer (some ⟨pb, 0, none⟩), .int .i64 i, .int .i64 n] w fun e w' => e = .returned (.tuple #[.int .i64 (hexRes xs i n).1, .bool (hexRes xs i n).2]) ∧ w = w' := by
  have HC := hid hc
  clear hc
  by_cases hshort : m < i + n
  · rw [hexRes_short xs i n (by omega)]
    clear hw hlen
    go_enter Try.func29, Try.ntmps29
    go_wp2
    go_ret2
    exact ⟨rfl, rfl⟩
  by_cases hce : cap = i
  · obtain rfl : n = 0 := by omega
    rw [hexRes_ok xs i 0 (by omega) rfl, show wrap64 (hexN ((xs.drop i).take 0)) = 0 from wrap64_zero]
    clear hw hlen
    go_enter Try.func29, Try.ntmps29
    go_wp2
    refine wp_loop_rounds 1 ?_
    rw [rounds_succ]
    go_wp2
    go_ret2
    exact ⟨rfl, rfl⟩
  have HW := hid hw
  clear hw
  generalize hR : hexRes xs i n = R
  have HR := hid hR
  clear hR
  have ht : decide ((m : Int) - (i : Int) < (n : Int)) = false := by simp; omega
  go_enter Try.func29, Try.ntmps29
  go_wp2
  rw [Nat.add_sub_cancel_left]
  go_loop [6, 30] (fun sv sk => ∃ (k : Nat) (v : Int), k ≤ n ∧ sk = .int .i64 k ∧ sv = .int .i64 v ∧ Hid (v = wrap64 (hexN ((xs.drop i).take k)) ∧ allHex ((xs.drop i).take k) = true)) (fun _ sk => n - (intOf sk).toNat)
  case atStart => exact ⟨0, 0, by omega, rfl, rfl, wrap64_zero.symm, rfl⟩
  case round =>
    obtain ⟨k, v, hk, rfl, rfl, H⟩ := hrel
    by_cases hlt : k < n
    · have hcx := HC.out (i + k) (by omega)
      have hb := getD_in xs HW.out (i + k) (by omega)
      have HS := hid (win_snoc xs i k (by omega))
      have HM := fun (h : hv (xs.getD (i + k) 0) < 0) => hexRes_miss xs i n k (by omega) hlt h
      rw [← Nat.add_assoc] at hcx
      generalize xs.getD (i + k) 0 = c at hcx hb HS HM
      have V := hid (hexValue_any c w hb.1 hb.2)
      have hd := hv_le c
      have HT := hid (hexN_snoc ((xs.drop i).take k) c)
      have HA := hid (allHex_snoc ((xs.drop i).take k) c)
      generalize hv c = d at V hd HT HA HM
      by_cases hneg : d < 0
      · have e := HM hneg
        rw [HR.out] at e
        have E := hid e
        clear e HM hb
        go_wp2_with fail
        refine V.out.mono ?_
        rintro e w' ⟨rfl, rfl⟩
        go_wp2
        go_ret2
        rw [E.out]
        exact ⟨rfl, rfl⟩
      · have H2 : Hid (wrap64 (wrap64 (v * 16) + d) = wrap64 (hexN ((xs.drop i).take (k + 1))) ∧ allHex ((xs.drop i).take (k + 1)) = true) := by
          rw [HS.out, HT.out, H.out.1, wrap64_step]
          exact ⟨rfl, HA.out H.out.2 (by omega)⟩
        clear HM hb H
        go_wp2_with fail
        refine V.out.mono ?_
        rintro e w' ⟨rfl, rfl⟩
        go_wp2
        go_round
        case rel => exact ⟨k + 1, _, by omega, by go_num, rfl, H2⟩
        case measure => simp [intOf]; omega
    · obtain rfl : k = n := by omega
      have e := hexRes_ok xs i k (by omega) H.out.2
      rw [HR.out, ← H.out.1] at e
      have E := hid e
      clear e
      go_wp2
      go_ret2
      rw [E.out]
      exact ⟨rfl, rfl⟩


theorem hex_nil (pb i n : Nat) (w : World) (hp : w.cell? ⟨pb, 0, none⟩ = some (.slice none 0 0)) (hi : (i : Int) ≤ 9223372036854775807) (hn : n ≤ 65536) :
    Calls Try.prog 29 #[.pointer (some ⟨pb, 0, none⟩), .int .i64 i, .int .i64 n] w fun e w' => e = .returned (.tuple #[.int .i64 (hexRes [] i n).1, .bool (hexRes [] i n).2]) ∧ w = w' := by
  by_cases h : 0 < i + n
  · rw [hexRes_short [] i n (by simpa using h)]
    go_enter Try.func29, Try.ntmps29
    go_wp2
    go_ret2
    exact ⟨rfl, rfl⟩
  · obtain rfl : i = 0 := by omega
    obtain rfl : n = 0 := by omega
    rw [hexRes_ok [] 0 0 (by simp) rfl, show wrap64 (hexN ((([] : List Int).drop 0).take 0)) = 0 from wrap64_zero]
    go_enter Try.func29, Try.ntmps29
    go_wp2
    refine wp_loop_rounds 1 ?_
    rw [rounds_succ]
    go_wp2
    go_ret2
    exact ⟨rfl, rfl⟩

theorem zzHex_any (B i n : Nat) (v : Value) (xs : List Int) (w : World) (hown : w.ownsRow B 34 1 v xs.length (ints xs)) (hm : xs.length ≤ 1048600) (hi : (i : Int) ≤ 9223372036854775807) (hn : n ≤ 65536) (hw : ∀ x ∈ xs, 0 ≤ x ∧ x ≤ 65535) :
    Calls Try.prog 13 #[v, .int .i64 i, .int .i64 n] w fun e w' => e = .returned (.tuple #[.int .i64 (hexRes xs i n).1, .bool (hexRes xs i n).2]) ∧ Below w.heap.size w w' := by
  rcases hown.2 with ⟨rfl, hz⟩ | ⟨g, cap, cur, rfl, hb, hg, hnc, _⟩
  · obtain rfl := List.eq_nil_of_length_eq_zero hz
    have C := hid (fun (wx : World) h1 => hex_nil w.heap.size i n wx h1 hi hn)
    generalize hexRes [] i n = R at C
    clear hown hz hw
    go_enter Try.func13, Try.ntmps13
    go_wp2_with fail
    refine (C.out _ (by simp)).mono ?_
    rintro e w' ⟨rfl, rfl⟩
    go_wp2
    go_ret2
    exact ⟨rfl, (Below.refl _ _).alloc (Nat.le_refl _) _⟩
  · have HC := hid (fun (j : Nat) (hj : j < xs.length) => own_cell hown j hj)
    have C := hid (fun (wx : World) h1 h2 => hex_at w.heap.size g 0 xs.length cap i n xs wx h1 rfl hm hnc hi hn h2 hw)
    generalize hexRes xs i n = R at C
    clear hown hg hw
    go_enter Try.func13, Try.ntmps13
    go_wp2_with fail
    refine (C.out _ (by simp) ?_).mono ?_
    · intro j hj
      rw [Nat.zero_add]
      exact cell_later ((Below.refl _ _).alloc (Nat.le_refl _) _) (HC.out j hj)
    rintro e w' ⟨rfl, rfl⟩
    go_wp2
    go_ret2
    exact ⟨rfl, (Below.refl _ _).alloc (Nat.le_refl _) _⟩

end Go.Proofs.Qxb6600907a
