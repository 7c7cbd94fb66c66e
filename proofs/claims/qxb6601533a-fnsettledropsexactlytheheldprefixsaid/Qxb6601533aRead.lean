/- READERS: slices of slices that came in; zzBytes. By an AI agent. -/
import Derived.Test.Qxb6601533aBase
namespace Go.Proofs.Qxb6601533a
open Go.RowKit
set_option linter.unusedVariables false
set_option linter.unusedSimpArgs false

theorem hid {p : Prop} (h : p) : Hid p := h

/-- A slice of slices of uint64 that came in. -/
def CameM (w : World) (a : Option Addr) (len : Nat) (rows : List (List Int)) : Prop :=
  rows.length = len ∧ (a = none → len = 0) ∧ ∀ x, a = some x → ∀ r, r < len → ∃ ar lr cr, w.cell? (x.add r) = some (.slice ar lr cr) ∧ Came w ar lr (rows.getD r [])

theorem came_at {w : World} {a : Option Addr} {len : Nat} {xs : List Int} (h : Came w a len xs) (hl : 0 < len) :
    ∃ b off, a = some ⟨b, off, none⟩ ∧ ∀ j, j < len → w.cell? ⟨b, off + j, none⟩ = some (.int .u64 (xs.getD j 0)) := by
  obtain ⟨h1, h2, h3, _⟩ := h
  cases a with
  | none => have := h2 rfl; omega
  | some x =>
    have hc := h3 x rfl
    obtain ⟨b, off, spot⟩ := x
    obtain rfl : spot = none := by simpa [Addr.add] using World.cell?_spot (hc 0 hl)
    exact ⟨b, off, rfl, fun j hj => by simpa [Addr.add_lit] using hc j hj⟩

theorem cameM_at {w : World} {a : Option Addr} {len : Nat} {rows : List (List Int)} (h : CameM w a len rows) (hl : 0 < len) :
    ∃ b off, a = some ⟨b, off, none⟩ ∧ ∀ r, r < len → ∃ ar lr cr, w.cell? ⟨b, off + r, none⟩ = some (.slice ar lr cr) ∧ Came w ar lr (rows.getD r []) := by
  obtain ⟨h1, h2, h3⟩ := h
  cases a with
  | none => have := h2 rfl; omega
  | some x =>
    have hc := h3 x rfl
    obtain ⟨b, off, spot⟩ := x
    obtain ⟨ar, lr, cr, h0, _⟩ := hc 0 hl
    obtain rfl : spot = none := by simpa [Addr.add] using World.cell?_spot h0
    refine ⟨b, off, rfl, fun r hr => ?_⟩
    obtain ⟨ar, lr, cr, h0, h1⟩ := hc r hr
    exact ⟨ar, lr, cr, by simpa [Addr.add_lit] using h0, h1⟩

theorem came_later {w w1 : World} {a : Option Addr} {len : Nat} {xs : List Int} (h : Came w a len xs) (hb : Below w.heap.size w w1) : Came w1 a len xs :=
  ⟨h.1, h.2.1, fun x hx i hi => cell_later hb (h.2.2.1 x hx i hi), h.2.2.2⟩
theorem cameM_later {w w1 : World} {a : Option Addr} {len : Nat} {rows : List (List Int)} (h : CameM w a len rows) (hb : Below w.heap.size w w1) : CameM w1 a len rows :=
  ⟨h.1, h.2.1, fun x hx r hr => by
    obtain ⟨ar, lr, cr, h0, h1⟩ := h.2.2 x hx r hr
    exact ⟨ar, lr, cr, cell_later hb h0, came_later h1 hb⟩⟩

/-- It returned a bool. -/
def RetB (e : Ending) : Prop := ∃ b, e = .returned (.bool b)

theorem zz_big (self : Int) (a1 a2 a3 : Option Addr) (l1 c1 l2 c2 l3 c3 : Nat) (w : World) (h : 1048576 < l1) :
    Calls Try.prog 27 #[.int .i64 self, .slice a1 l1 c1, .slice a2 l2 c2, .slice a3 l3 c3] w fun e w' => RetB e ∧ w = w' := by
  go_enter Try.func27, Try.ntmps27
  go_wp2
  go_ret
  exact ⟨⟨_, rfl⟩, rfl⟩

set_option maxHeartbeats 2000000 in
theorem zz_any (self : Int) (a1 a2 a3 : Option Addr) (l1 c1 l2 c2 l3 c3 : Nat) (held kept : List (List Int)) (w : World) (hh : CameM w a2 l2 held) (hk : CameM w a3 l3 kept) :
    Calls Try.prog 27 #[.int .i64 self, .slice a1 l1 c1, .slice a2 l2 c2, .slice a3 l3 c3] w fun e w' => RetB e ∧ w = w' := by
  have HH := hid hh
  have HK := hid hk
  clear hh hk
  by_cases t1 : 1048576 < l1
  · exact zz_big self a1 a2 a3 l1 c1 l2 c2 l3 c3 w t1
  have g1 : decide ((1048576 : Int) < (l1 : Int)) = false := by simp; omega
  by_cases t2 : 1048576 < l2
  · go_enter Try.func27, Try.ntmps27
    go_wp2
    go_ret
    exact ⟨⟨_, rfl⟩, rfl⟩
  have g2 : decide ((1048576 : Int) < (l2 : Int)) = false := by simp; omega
  by_cases t3 : 1048576 < l1 + l2
  · go_enter Try.func27, Try.ntmps27
    go_wp2
    go_ret
    exact ⟨⟨_, rfl⟩, rfl⟩
  have g3 : decide ((1048576 : Int) < (l1 : Int) + (l2 : Int)) = false := by simp; omega
  go_enter Try.func27, Try.ntmps27
  go_wp2
  go_loop [9, 10] (fun sz sr => ∃ (r : Nat) (z : Int), r ≤ l2 ∧ 0 ≤ z ∧ z ≤ 1048576 ∧ sr = .int .i64 r ∧ sz = .int .i64 z) (fun _ sr => l2 - (intOf sr).toNat)
  case atStart => exact ⟨0, _, by omega, by omega, by omega, rfl, rfl⟩
  case round =>
    obtain ⟨r, z, hr, hz0, hz1, rfl, rfl⟩ := hrel
    by_cases hlt : r < l2
    · obtain ⟨b, off, rfl, hc⟩ := cameM_at HH.out (by omega)
      obtain ⟨ar, lr, cr, hcx, _⟩ := hc r hlt
      clear hc
      have hlt' : (r : Int) < (l2 : Int) := by omega
      by_cases u1 : 1048576 < lr
      · go_wp2
        go_ret
        exact ⟨⟨_, rfl⟩, rfl⟩
      by_cases u2 : 1048576 < z + lr
      · go_wp2
        go_ret
        exact ⟨⟨_, rfl⟩, rfl⟩
      · go_wp2
        go_round
        case rel => exact ⟨r + 1, z + lr, by omega, by omega, by omega, by go_num, rfl⟩
        case measure => simp [intOf]; omega
    · by_cases t4 : 1048576 < l3
      · go_wp2
        go_ret
        exact ⟨⟨_, rfl⟩, rfl⟩
      have g4 : decide ((1048576 : Int) < (l3 : Int)) = false := by simp; omega
      by_cases t5 : 1048576 < z + l3
      · go_wp2
        go_ret
        exact ⟨⟨_, rfl⟩, rfl⟩
      have g5 : decide ((1048576 : Int) < z + (l3 : Int)) = false := by simp; omega
      go_wp2
      go_loop [9, 11] (fun sz sr => ∃ (r : Nat) (z : Int), r ≤ l3 ∧ 0 ≤ z ∧ z ≤ 1048576 ∧ sr = .int .i64 r ∧ sz = .int .i64 z) (fun _ sr => l3 - (intOf sr).toNat)
      case atStart => exact ⟨0, _, by omega, by omega, by omega, rfl, rfl⟩
      case round =>
        obtain ⟨r3, z3, hr3, hz03, hz13, rfl, rfl⟩ := hrel
        by_cases hlt3 : r3 < l3
        · obtain ⟨b, off, rfl, hc⟩ := cameM_at HK.out (by omega)
          obtain ⟨ar, lr, cr, hcx, _⟩ := hc r3 hlt3
          clear hc
          have hlt' : (r3 : Int) < (l3 : Int) := by omega
          by_cases u1 : 1048576 < lr
          · go_wp2
            go_ret
            exact ⟨⟨_, rfl⟩, rfl⟩
          by_cases u2 : 1048576 < z3 + lr
          · go_wp2
            go_ret
            exact ⟨⟨_, rfl⟩, rfl⟩
          · go_wp2
            go_round
            case rel => exact ⟨r3 + 1, z3 + lr, by omega, by omega, by omega, by go_num, rfl⟩
            case measure => simp [intOf]; omega
        · go_wp2
          go_ret
          exact ⟨⟨_, rfl⟩, rfl⟩

end Go.Proofs.Qxb6601533a
