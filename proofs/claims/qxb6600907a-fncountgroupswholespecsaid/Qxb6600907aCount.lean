/- THE WALKS OF COUNTING GROUPS: hasPrefix, countGroups, ZZCountGroups. By an AI agent. -/
import Derived.Test.Qxb6600907aBase
import Derived.Test.Qxb6600907aPlainCg
import Derived.Deep.QuietTactic
import Derived.BigQuiet
namespace Go.Proofs.Qxb6600907a
open Go.RowKit
set_option linter.unusedVariables false
set_option linter.unusedSimpArgs false

/-- A string's bytes as numbers. -/
def bl (s : ByteArray) : List Int := s.data.toList.map (fun c => (c.toNat : Int))
theorem bl_length (s : ByteArray) : (bl s).length = s.size := by simp [bl]
theorem bl_getD (s : ByteArray) (k : Nat) (h : k < s.size) : (bl s).getD k 0 = (s[k].toNat : Int) := by
  have h' : k < s.data.toList.length := by simpa using h
  simp only [bl, List.getD, List.getElem?_map, List.getElem?_eq_getElem h', Option.map_some, Option.getD_some]
  rfl
/-- Do the units begin with the string's bytes? -/
def pre (us : List Int) (s : ByteArray) : Bool := decide (us.take s.size = bl s)

theorem pre_short (us : List Int) (s : ByteArray) (h : us.length < s.size) : pre us s = false := by
  apply decide_eq_false
  intro e
  have := congrArg List.length e
  rw [bl_length, List.length_take] at this
  omega
theorem pre_miss (us : List Int) (s : ByteArray) (k : Nat) (h : k < s.size) (hn : s.size ≤ us.length) (hne : us.getD k 0 ≠ (s[k].toNat : Int)) : pre us s = false := by
  apply decide_eq_false
  intro e
  apply hne
  rw [← bl_getD s k h, ← e]
  simp [List.getD, List.getElem?_take, h]
theorem pre_step (us : List Int) (s : ByteArray) (k : Nat) (h : k < s.size) (hn : s.size ≤ us.length) (he : us.getD k 0 = (s[k].toNat : Int)) (ih : us.take k = (bl s).take k) : us.take (k + 1) = (bl s).take (k + 1) := by
  rw [take_snoc us k (by omega), take_snoc (bl s) k (by rw [bl_length]; exact h), ih, he, bl_getD s k h]
theorem pre_all (us : List Int) (s : ByteArray) (ih : us.take s.size = (bl s).take s.size) : pre us s = true := by
  apply decide_eq_true
  rw [ih, List.take_of_length_le (by rw [bl_length]; exact Nat.le_refl _)]

theorem byte_wrap (c : UInt8) : IntKind.u16.wrap (c.toNat : Int) = (c.toNat : Int) := by
  have := c.toNat_lt
  simp only [IntKind.wrap, IntKind.signed, IntKind.bits, Bool.false_and]
  simp
  omega

set_option maxHeartbeats 400000 in
theorem hasPrefix_at (b off n cap : Nat) (us : List Int) (s : ByteArray) (w : World) (hlen : us.length = n) (hn : n ≤ 2097152) (hs : s.size ≤ n)
    (hc : ∀ j, j < n → w.cell? ⟨b, off + j, none⟩ = some (.int .u16 (us.getD j 0))) :
    Calls Try.prog 39 #[.slice (some ⟨b, off, none⟩) n cap, .string s] w fun e w' => e = .returned (.bool (pre us s)) ∧ ∃ nq, w' = w.drewN nq := by
  go_enter Try.func39, Try.ntmps39
  go_wp2
  go_loopw [13] (fun i wr => ∃ k : Nat, k ≤ s.size ∧ i = .int .i64 k ∧ Hid (us.take k = (bl s).take k) ∧ ∃ nq, wr = w.drewN nq) (fun i _ => s.size - (intOf i).toNat)
  case atStart => exact ⟨0, Nat.zero_le _, rfl, rfl, 0, rfl⟩
  case round =>
    obtain ⟨k, hk, rfl, H, nq, rfl⟩ := hrel
    by_cases hlt : k < s.size
    · have hcx := hc k (by omega)
      have hkn : (k : Int) < (n : Int) := by omega
      have hks : (k : Int) < (s.size : Int) := by omega
      by_cases he : us.getD k 0 = (s[k].toNat : Int)
      · have H2 : Hid (us.take (k + 1) = (bl s).take (k + 1)) := pre_step us s k hlt (by omega) he H.out
        have ht : ((s[k].toNat : Int) != IntKind.u16.wrap (s[k].toNat : Int)) = false := by rw [byte_wrap]; simp
        rw [he] at hcx
        clear hc he H
        go_wp2
        go_quiet (fail)
        go_wp2
        go_roundw
        case rel => exact ⟨k + 1, by omega, by go_num, H2, _, rfl⟩
        case measure => simp [intOf]; omega
      · have H2 : Hid (pre us s = false) := pre_miss us s k hlt (by omega) he
        have ht : (us.getD k 0 != IntKind.u16.wrap (s[k].toNat : Int)) = true := by rw [byte_wrap]; simpa using he
        generalize us.getD k 0 = c at hcx ht
        clear hc he H
        go_wp2
        go_quiet (fail)
        go_wp2
        go_ret
        rw [H2.out]
        exact ⟨rfl, _, World.drewN_drewN _ _ _⟩
    · go_wp2
      go_ret
      obtain rfl : k = s.size := by omega
      rw [pre_all us s H.out]
      exact ⟨rfl, _, rfl⟩

theorem hasPrefix_any (ao : Option Addr) (n cap : Nat) (us : List Int) (s : ByteArray) (w : World) (v : Bool) (hlen : us.length = n) (hn : n ≤ 2097152) (hs : 1 ≤ s.size) (hs2 : s.size ≤ 8) (hnone : ao = none → n = 0)
    (hc : ∀ ad, ao = some ad → ∀ j, j < n → w.cell? (ad.add j) = some (.int .u16 (us.getD j 0))) (hv : pre us s = v) :
    Calls Try.prog 39 #[.slice ao n cap, .string s] w fun e w' => e = .returned (.bool v) ∧ ∃ nq, w' = w.drewN nq := by
  by_cases h : n < s.size
  · have hv' := pre_short us s (by omega)
    rw [hv] at hv'
    subst hv'
    clear hc hv hlen hnone
    go_enter Try.func39, Try.ntmps39
    go_wp2
    go_ret
    exact ⟨rfl, 0, rfl⟩
  · cases ao with
    | none => have := hnone rfl; omega
    | some ad =>
      have hc' := hc ad rfl
      obtain ⟨b, off, spot⟩ := ad
      obtain rfl : spot = none := by simpa [Addr.add] using World.cell?_spot (hc' 0 (by omega))
      have := hasPrefix_at b off n cap us s w hlen hn (by omega) (fun j hj => by simpa [Addr.add_lit] using hc' j hj)
      rw [hv] at this
      exact this


theorem pre_two (r : List Int) (a b : UInt8) : pre r ⟨#[a, b]⟩ = decide (r[0]? = some (a.toNat : Int) ∧ r[1]? = some (b.toNat : Int)) := by
  unfold pre bl
  match r with
  | [] => simp
  | [x] => simp [show (ByteArray.mk #[a, b]).size = 2 from rfl]
  | x :: y :: r => simp [show (ByteArray.mk #[a, b]).size = 2 from rfl]
theorem pre_three (r : List Int) (a b c : UInt8) : pre r ⟨#[a, b, c]⟩ = decide (r[0]? = some (a.toNat : Int) ∧ r[1]? = some (b.toNat : Int) ∧ r[2]? = some (c.toNat : Int)) := by
  unfold pre bl
  match r with
  | [] => simp
  | [x] => simp [show (ByteArray.mk #[a, b, c]).size = 3 from rfl]
  | [x, y] => simp [show (ByteArray.mk #[a, b, c]).size = 3 from rfl]
  | x :: y :: z :: r => simp [show (ByteArray.mk #[a, b, c]).size = 3 from rfl]

theorem kind_pre (r : List Int) :
    (pre r ⟨#[63, 61]⟩ = true ∧ pKind r = 0) ∨ (pre r ⟨#[63, 61]⟩ = false ∧ pre r ⟨#[63, 33]⟩ = true ∧ pKind r = 0) ∨
    (pre r ⟨#[63, 61]⟩ = false ∧ pre r ⟨#[63, 33]⟩ = false ∧ pre r ⟨#[63, 60, 61]⟩ = true ∧ pKind r = 0) ∨
    (pre r ⟨#[63, 61]⟩ = false ∧ pre r ⟨#[63, 33]⟩ = false ∧ pre r ⟨#[63, 60, 61]⟩ = false ∧ pre r ⟨#[63, 60, 33]⟩ = true ∧ pKind r = 0) ∨
    (pre r ⟨#[63, 61]⟩ = false ∧ pre r ⟨#[63, 33]⟩ = false ∧ pre r ⟨#[63, 60, 61]⟩ = false ∧ pre r ⟨#[63, 60, 33]⟩ = false ∧ pre r ⟨#[63, 60]⟩ = true ∧ pKind r = 1) ∨
    (pre r ⟨#[63, 61]⟩ = false ∧ pre r ⟨#[63, 33]⟩ = false ∧ pre r ⟨#[63, 60, 61]⟩ = false ∧ pre r ⟨#[63, 60, 33]⟩ = false ∧ pre r ⟨#[63, 60]⟩ = false ∧ pKind r = 2) := by
  simp only [pre_two, pre_three, pKind]
  have e63 : ((63 : UInt8).toNat : Int) = 63 := rfl
  have e61 : ((61 : UInt8).toNat : Int) = 61 := rfl
  have e33 : ((33 : UInt8).toNat : Int) = 33 := rfl
  have e60 : ((60 : UInt8).toNat : Int) = 60 := rfl
  simp only [e63, e61, e33, e60]
  generalize r[0]? = x
  generalize r[1]? = y
  generalize r[2]? = z
  by_cases h0 : x = some 63
  · subst h0
    by_cases h1 : y = some 61
    · subst h1; simp
    by_cases h2 : y = some 33
    · subst h2; simp
    by_cases h3 : y = some 60
    · subst h3
      by_cases h4 : z = some 61
      · subst h4; simp
      by_cases h5 : z = some 33
      · subst h5; simp
      simp [h4, h5]
    · simp [h1, h2, h3]
  · simp [h0]

theorem drop_cons (xs : List Int) (i : Nat) (h : i < xs.length) : xs.drop i = xs.getD i 0 :: xs.drop (i + 1) := by
  rw [List.drop_eq_getElem_cons h]; simp [List.getD, h]

set_option maxHeartbeats 1000000 in
theorem countGroups_at (pb b off n cap : Nat) (xs : List Int) (w : World) (hp : w.cell? ⟨pb, 0, none⟩ = some (.slice (some ⟨b, off, none⟩) n cap)) (hlen : xs.length = n) (hn : n ≤ 1048600) (hcap : n ≤ cap)
    (hc : ∀ j, j < n → w.cell? ⟨b, off + j, none⟩ = some (.int .u16 (xs.getD j 0))) :
    Calls Try.prog 34 #[.pointer (some ⟨pb, 0, none⟩)] w fun e w' => e = .returned (.tuple #[.int .i64 (cg xs false false 0 false).1, .bool (cg xs false false 0 false).2]) ∧ ∃ nq, w' = w.drewN nq := by
  generalize hR : cg xs false false 0 false = R
  have HR : Hid (cg xs false false 0 false = R) := hR
  clear hR
  go_enter Try.func34, Try.ntmps34
  go_wp2
  go_loopw [2, 3, 4, 5] (fun sg sn sc si wr => ∃ (i : Nat) (cl : Bool) (g : Int) (nm : Bool), i ≤ n + 1 ∧ 0 ≤ g ∧ g ≤ i ∧ si = .int .i64 i ∧ sg = .int .i64 g ∧ sn = .bool nm ∧ sc = .bool cl ∧ Hid (cg (xs.drop i) false cl g nm = R) ∧ ∃ nq, wr = w.drewN nq)
    (fun _ _ _ si _ => n + 1 - (intOf si).toNat)
  case atStart => exact ⟨0, false, 0, false, by omega, by omega, by omega, rfl, rfl, rfl, rfl, HR, 0, rfl⟩
  case round =>
    obtain ⟨i, cl, g, nm, hi, hg0, hgi, rfl, rfl, rfl, rfl, H, nq, rfl⟩ := hrel
    clear HR
    by_cases hlt : i < n
    · have hcx := hc i hlt
      have HD : Hid (xs.drop i = xs.getD i 0 :: xs.drop (i + 1)) := drop_cons xs i (by omega)
      generalize xs.getD i 0 = c at hcx HD
      by_cases h1 : c = 92
      · subst h1
        have H2 : Hid (cg (xs.drop (i + 1 + 1)) false cl g nm = R) := by
          have := H.out; rw [HD.out, cg_bs, cg_esc_drop, List.drop_drop] at this; exact this
        clear hc H HD
        go_wp2
        go_roundw
        case rel => exact ⟨i + 1 + 1, cl, g, nm, by omega, hg0, by omega, by go_num, rfl, rfl, rfl, H2, nq, rfl⟩
        case measure => simp [intOf]; omega
      have h1' : (c == 92) = false := by simpa using h1
      by_cases h2 : c = 91
      · subst h2
        have H2 : Hid (cg (xs.drop (i + 1)) false true g nm = R) := by
          have := H.out; rw [HD.out, cg_open] at this; exact this
        clear hc H HD
        go_wp2
        go_roundw
        case rel => exact ⟨i + 1, true, g, nm, by omega, hg0, by omega, by go_num, rfl, rfl, rfl, H2, nq, rfl⟩
        case measure => simp [intOf]; omega
      have h2' : (c == 91) = false := by simpa using h2
      by_cases h3 : c = 93
      · subst h3
        have H2 : Hid (cg (xs.drop (i + 1)) false false g nm = R) := by
          have := H.out; rw [HD.out, cg_shut] at this; exact this
        clear hc H HD
        go_wp2
        go_roundw
        case rel => exact ⟨i + 1, false, g, nm, by omega, hg0, by omega, by go_num, rfl, rfl, rfl, H2, nq, rfl⟩
        case measure => simp [intOf]; omega
      have h3' : (c == 93) = false := by simpa using h3
      by_cases h4 : c = 40
      · subst h4
        cases cl with
        | true =>
          have H2 : Hid (cg (xs.drop (i + 1)) false true g nm = R) := by
            have := H.out; rw [HD.out, cg_par_in] at this; exact this
          clear hc H HD
          go_wp2
          go_roundw
          case rel => exact ⟨i + 1, true, g, nm, by omega, hg0, by omega, by go_num, rfl, rfl, rfl, H2, nq, rfl⟩
          case measure => simp [intOf]; omega
        | false =>
          have hlr : (xs.drop (i + 1)).length = n - (i + 1) := by rw [List.length_drop, hlen]
          have HP : Hid (∀ (s : ByteArray) (v : Bool) (q : Nat), 1 ≤ s.size → s.size ≤ 8 → pre (xs.drop (i + 1)) s = v →
              Calls Try.prog 39 #[.slice (some (if cap = i + 1 then ⟨b, off, none⟩ else ⟨b, off + (i + 1), none⟩)) (n - (i + 1)) (cap - (i + 1)), .string s] (w.drewN q) fun e w' => e = .returned (.bool v) ∧ ∃ nq, w' = (w.drewN q).drewN nq) := by
            intro s v q hs1 hs2 hv
            refine hasPrefix_any _ _ _ (xs.drop (i + 1)) s (w.drewN q) v hlr (by omega) hs1 hs2 (by simp) ?_ hv
            intro ad had j hj
            rw [if_neg (by omega)] at had
            obtain rfl := Option.some.inj had
            rw [Addr.add_lit, World.cell?_drewN, Nat.add_assoc, hc (i + 1 + j) (by omega)]
            simp [List.getD]
          clear hc
          by_cases hce : cap = i + 1
          · have hr : xs.drop (i + 1) = [] := List.eq_nil_of_length_eq_zero (by omega)
            have hk : pKind (xs.drop (i + 1)) = 2 := by rw [hr]; rfl
            have p1 : pre (xs.drop (i + 1)) ⟨#[63, 61]⟩ = false := by rw [hr]; decide
            have p2 : pre (xs.drop (i + 1)) ⟨#[63, 33]⟩ = false := by rw [hr]; decide
            have p3 : pre (xs.drop (i + 1)) ⟨#[63, 60, 61]⟩ = false := by rw [hr]; decide
            have p4 : pre (xs.drop (i + 1)) ⟨#[63, 60, 33]⟩ = false := by rw [hr]; decide
            have p5 : pre (xs.drop (i + 1)) ⟨#[63, 60]⟩ = false := by rw [hr]; decide
            rw [if_pos hce, show cap - (i + 1) = 0 by omega, show n - (i + 1) = 0 by omega] at HP
            clear hr hlr
            obtain rfl : n = i + 1 := by omega
            subst hce
            have H2 : Hid (cg (xs.drop (i + 1)) false false (g + 1) nm = R) := by
              have := H.out; rw [HD.out, cg_par2 _ _ _ hk] at this; exact this
            have P1 : Hid (pre (xs.drop (i + 1)) ⟨#[63, 61]⟩ = false) := p1
            have P2 : Hid (pre (xs.drop (i + 1)) ⟨#[63, 33]⟩ = false) := p2
            have P3 : Hid (pre (xs.drop (i + 1)) ⟨#[63, 60, 61]⟩ = false) := p3
            have P4 : Hid (pre (xs.drop (i + 1)) ⟨#[63, 60, 33]⟩ = false) := p4
            have P5 : Hid (pre (xs.drop (i + 1)) ⟨#[63, 60]⟩ = false) := p5
            clear H HD hk p1 p2 p3 p4 p5
            go_wp2_with fail
            refine (HP.out ⟨#[63, 61]⟩ false _ (by decide) (by decide) P1.out).mono ?_
            rintro e w' ⟨rfl, q1, rfl⟩
            go_wp2_with fail
            refine (HP.out ⟨#[63, 33]⟩ false _ (by decide) (by decide) P2.out).mono ?_
            rintro e w' ⟨rfl, q2, rfl⟩
            go_wp2_with fail
            refine (HP.out ⟨#[63, 60, 61]⟩ false _ (by decide) (by decide) P3.out).mono ?_
            rintro e w' ⟨rfl, q3, rfl⟩
            go_wp2_with fail
            refine (HP.out ⟨#[63, 60, 33]⟩ false _ (by decide) (by decide) P4.out).mono ?_
            rintro e w' ⟨rfl, q4, rfl⟩
            go_wp2_with fail
            refine (HP.out ⟨#[63, 60]⟩ false _ (by decide) (by decide) P5.out).mono ?_
            rintro e w' ⟨rfl, q5, rfl⟩
            go_wp2_with fail
            go_roundw
            case rel => exact ⟨i + 1, false, (g + 1), nm, by omega, by omega, by omega, by go_num, rfl, rfl, rfl, H2, _, rfl⟩
            case measure => simp [intOf]; omega
          rw [if_neg hce] at HP
          clear hlr
          rcases kind_pre (xs.drop (i + 1)) with ⟨p1, hk⟩ | ⟨p1, p2, hk⟩ | ⟨p1, p2, p3, hk⟩ | ⟨p1, p2, p3, p4, hk⟩ | ⟨p1, p2, p3, p4, p5, hk⟩ | ⟨p1, p2, p3, p4, p5, hk⟩
          · have H2 : Hid (cg (xs.drop (i + 1)) false false g nm = R) := by
              have := H.out; rw [HD.out, cg_par0 _ _ _ hk] at this; exact this
            have P1 : Hid (pre (xs.drop (i + 1)) ⟨#[63, 61]⟩ = true) := p1
            clear H HD hk p1
            go_wp2_with fail
            refine (HP.out ⟨#[63, 61]⟩ true _ (by decide) (by decide) P1.out).mono ?_
            rintro e w' ⟨rfl, q1, rfl⟩
            go_wp2_with fail
            go_roundw
            case rel => exact ⟨i + 1, false, g, nm, by omega, hg0, by omega, by go_num, rfl, rfl, rfl, H2, _, rfl⟩
            case measure => simp [intOf]; omega
          · have H2 : Hid (cg (xs.drop (i + 1)) false false g nm = R) := by
              have := H.out; rw [HD.out, cg_par0 _ _ _ hk] at this; exact this
            have P1 : Hid (pre (xs.drop (i + 1)) ⟨#[63, 61]⟩ = false) := p1
            have P2 : Hid (pre (xs.drop (i + 1)) ⟨#[63, 33]⟩ = true) := p2
            clear H HD hk p1 p2
            go_wp2_with fail
            refine (HP.out ⟨#[63, 61]⟩ false _ (by decide) (by decide) P1.out).mono ?_
            rintro e w' ⟨rfl, q1, rfl⟩
            go_wp2_with fail
            refine (HP.out ⟨#[63, 33]⟩ true _ (by decide) (by decide) P2.out).mono ?_
            rintro e w' ⟨rfl, q2, rfl⟩
            go_wp2_with fail
            go_roundw
            case rel => exact ⟨i + 1, false, g, nm, by omega, hg0, by omega, by go_num, rfl, rfl, rfl, H2, _, rfl⟩
            case measure => simp [intOf]; omega
          · have H2 : Hid (cg (xs.drop (i + 1)) false false g nm = R) := by
              have := H.out; rw [HD.out, cg_par0 _ _ _ hk] at this; exact this
            have P1 : Hid (pre (xs.drop (i + 1)) ⟨#[63, 61]⟩ = false) := p1
            have P2 : Hid (pre (xs.drop (i + 1)) ⟨#[63, 33]⟩ = false) := p2
            have P3 : Hid (pre (xs.drop (i + 1)) ⟨#[63, 60, 61]⟩ = true) := p3
            clear H HD hk p1 p2 p3
            go_wp2_with fail
            refine (HP.out ⟨#[63, 61]⟩ false _ (by decide) (by decide) P1.out).mono ?_
            rintro e w' ⟨rfl, q1, rfl⟩
            go_wp2_with fail
            refine (HP.out ⟨#[63, 33]⟩ false _ (by decide) (by decide) P2.out).mono ?_
            rintro e w' ⟨rfl, q2, rfl⟩
            go_wp2_with fail
            refine (HP.out ⟨#[63, 60, 61]⟩ true _ (by decide) (by decide) P3.out).mono ?_
            rintro e w' ⟨rfl, q3, rfl⟩
            go_wp2_with fail
            go_roundw
            case rel => exact ⟨i + 1, false, g, nm, by omega, hg0, by omega, by go_num, rfl, rfl, rfl, H2, _, rfl⟩
            case measure => simp [intOf]; omega
          · have H2 : Hid (cg (xs.drop (i + 1)) false false g nm = R) := by
              have := H.out; rw [HD.out, cg_par0 _ _ _ hk] at this; exact this
            have P1 : Hid (pre (xs.drop (i + 1)) ⟨#[63, 61]⟩ = false) := p1
            have P2 : Hid (pre (xs.drop (i + 1)) ⟨#[63, 33]⟩ = false) := p2
            have P3 : Hid (pre (xs.drop (i + 1)) ⟨#[63, 60, 61]⟩ = false) := p3
            have P4 : Hid (pre (xs.drop (i + 1)) ⟨#[63, 60, 33]⟩ = true) := p4
            clear H HD hk p1 p2 p3 p4
            go_wp2_with fail
            refine (HP.out ⟨#[63, 61]⟩ false _ (by decide) (by decide) P1.out).mono ?_
            rintro e w' ⟨rfl, q1, rfl⟩
            go_wp2_with fail
            refine (HP.out ⟨#[63, 33]⟩ false _ (by decide) (by decide) P2.out).mono ?_
            rintro e w' ⟨rfl, q2, rfl⟩
            go_wp2_with fail
            refine (HP.out ⟨#[63, 60, 61]⟩ false _ (by decide) (by decide) P3.out).mono ?_
            rintro e w' ⟨rfl, q3, rfl⟩
            go_wp2_with fail
            refine (HP.out ⟨#[63, 60, 33]⟩ true _ (by decide) (by decide) P4.out).mono ?_
            rintro e w' ⟨rfl, q4, rfl⟩
            go_wp2_with fail
            go_roundw
            case rel => exact ⟨i + 1, false, g, nm, by omega, hg0, by omega, by go_num, rfl, rfl, rfl, H2, _, rfl⟩
            case measure => simp [intOf]; omega
          · have H2 : Hid (cg (xs.drop (i + 1)) false false (g + 1) true = R) := by
              have := H.out; rw [HD.out, cg_par1 _ _ _ hk] at this; exact this
            have P1 : Hid (pre (xs.drop (i + 1)) ⟨#[63, 61]⟩ = false) := p1
            have P2 : Hid (pre (xs.drop (i + 1)) ⟨#[63, 33]⟩ = false) := p2
            have P3 : Hid (pre (xs.drop (i + 1)) ⟨#[63, 60, 61]⟩ = false) := p3
            have P4 : Hid (pre (xs.drop (i + 1)) ⟨#[63, 60, 33]⟩ = false) := p4
            have P5 : Hid (pre (xs.drop (i + 1)) ⟨#[63, 60]⟩ = true) := p5
            clear H HD hk p1 p2 p3 p4 p5
            go_wp2_with fail
            refine (HP.out ⟨#[63, 61]⟩ false _ (by decide) (by decide) P1.out).mono ?_
            rintro e w' ⟨rfl, q1, rfl⟩
            go_wp2_with fail
            refine (HP.out ⟨#[63, 33]⟩ false _ (by decide) (by decide) P2.out).mono ?_
            rintro e w' ⟨rfl, q2, rfl⟩
            go_wp2_with fail
            refine (HP.out ⟨#[63, 60, 61]⟩ false _ (by decide) (by decide) P3.out).mono ?_
            rintro e w' ⟨rfl, q3, rfl⟩
            go_wp2_with fail
            refine (HP.out ⟨#[63, 60, 33]⟩ false _ (by decide) (by decide) P4.out).mono ?_
            rintro e w' ⟨rfl, q4, rfl⟩
            go_wp2_with fail
            refine (HP.out ⟨#[63, 60]⟩ true _ (by decide) (by decide) P5.out).mono ?_
            rintro e w' ⟨rfl, q5, rfl⟩
            go_wp2_with fail
            go_roundw
            case rel => exact ⟨i + 1, false, (g + 1), true, by omega, by omega, by omega, by go_num, rfl, rfl, rfl, H2, _, rfl⟩
            case measure => simp [intOf]; omega
          · have H2 : Hid (cg (xs.drop (i + 1)) false false (g + 1) nm = R) := by
              have := H.out; rw [HD.out, cg_par2 _ _ _ hk] at this; exact this
            have P1 : Hid (pre (xs.drop (i + 1)) ⟨#[63, 61]⟩ = false) := p1
            have P2 : Hid (pre (xs.drop (i + 1)) ⟨#[63, 33]⟩ = false) := p2
            have P3 : Hid (pre (xs.drop (i + 1)) ⟨#[63, 60, 61]⟩ = false) := p3
            have P4 : Hid (pre (xs.drop (i + 1)) ⟨#[63, 60, 33]⟩ = false) := p4
            have P5 : Hid (pre (xs.drop (i + 1)) ⟨#[63, 60]⟩ = false) := p5
            clear H HD hk p1 p2 p3 p4 p5
            go_wp2_with fail
            refine (HP.out ⟨#[63, 61]⟩ false _ (by decide) (by decide) P1.out).mono ?_
            rintro e w' ⟨rfl, q1, rfl⟩
            go_wp2_with fail
            refine (HP.out ⟨#[63, 33]⟩ false _ (by decide) (by decide) P2.out).mono ?_
            rintro e w' ⟨rfl, q2, rfl⟩
            go_wp2_with fail
            refine (HP.out ⟨#[63, 60, 61]⟩ false _ (by decide) (by decide) P3.out).mono ?_
            rintro e w' ⟨rfl, q3, rfl⟩
            go_wp2_with fail
            refine (HP.out ⟨#[63, 60, 33]⟩ false _ (by decide) (by decide) P4.out).mono ?_
            rintro e w' ⟨rfl, q4, rfl⟩
            go_wp2_with fail
            refine (HP.out ⟨#[63, 60]⟩ false _ (by decide) (by decide) P5.out).mono ?_
            rintro e w' ⟨rfl, q5, rfl⟩
            go_wp2_with fail
            go_roundw
            case rel => exact ⟨i + 1, false, (g + 1), nm, by omega, by omega, by omega, by go_num, rfl, rfl, rfl, H2, _, rfl⟩
            case measure => simp [intOf]; omega
      · have h4' : (c == 40) = false := by simpa using h4
        have H2 : Hid (cg (xs.drop (i + 1)) false cl g nm = R) := by
          have := H.out; rw [HD.out, cg_other _ _ _ _ _ h1 h2 h3 h4] at this; exact this
        clear hc H HD
        go_wp2
        go_roundw
        case rel => exact ⟨i + 1, cl, g, nm, by omega, hg0, by omega, by go_num, rfl, rfl, rfl, H2, nq, rfl⟩
        case measure => simp [intOf]; omega
    · go_wp2
      go_ret2
      have e := H.out
      rw [List.drop_of_length_le (by omega), cg_nil] at e
      subst e
      exact ⟨rfl, _, rfl⟩

theorem countGroups_nil (pb : Nat) (w : World) (hp : w.cell? ⟨pb, 0, none⟩ = some (.slice none 0 0)) :
    Calls Try.prog 34 #[.pointer (some ⟨pb, 0, none⟩)] w fun e w' => e = .returned (.tuple #[.int .i64 0, .bool false]) ∧ ∃ nq, w' = w.drewN nq := by
  go_enter Try.func34, Try.ntmps34
  go_wp2
  refine wp_loop_rounds 1 ?_
  rw [rounds_succ]
  go_wp2
  go_ret2
  exact ⟨rfl, 0, rfl⟩

end Go.Proofs.Qxb6600907a
