/- SHARED BY THE LAWS: from a slice that came in to its numbers; the bounds on total length. By an AI agent. -/
import Derived.Test.Qxb6600907aBase
namespace Go.Proofs.Qxb6600907a
open Go.RowKit
set_option linter.unusedVariables false
set_option linter.unusedSimpArgs false

theorem hid {p : Prop} (h : p) : Hid p := h

theorem came_of {w : World} {a : Option Addr} {len cap : Nat} {zs : List Int}
    (h : (a = none ∧ len = 0 ∧ cap = 0 ∧ zs = []) ∨ ∃ x, a = some x ∧ len ≤ cap ∧ cap ≤ maxLen ∧ zs.length = cap ∧ (∀ i, i < zs.length → w.cell? (x.add i) = some (.int .u16 (zs.getD i 0))) ∧ ∀ n ∈ zs, (Lit.int .u16 n).wf = true) :
    ∃ xs, Came w a len xs := by
  rcases h with ⟨rfl, rfl, rfl, rfl⟩ | ⟨x, rfl, hl, hm, hz, hc, hw⟩
  · refine ⟨[], rfl, fun _ => rfl, ?_, ?_⟩
    · intro x h; cases h
    · intro n h; cases h
  · refine ⟨zs.take len, by rw [List.length_take]; omega, ?_, ?_, ?_⟩
    · intro h; cases h
    · intro y hy i hi
      obtain rfl := Option.some.inj hy
      rw [hc i (by omega)]
      simp [List.getD, List.getElem?_take, hi]
    · intro n hn
      have := hw n (List.mem_of_mem_take hn)
      simp only [Lit.wf, IntKind.min, IntKind.max, IntKind.signed, IntKind.bits, Bool.and_eq_true, decide_eq_true_eq] at this
      simp at this
      omega

/-- The address of a slice that came in and has elements. -/
theorem came_at {w : World} {a : Option Addr} {len : Nat} {xs : List Int} (h : Came w a len xs) (hl : 0 < len) :
    ∃ b off, a = some ⟨b, off, none⟩ ∧ ∀ j, j < len → w.cell? ⟨b, off + j, none⟩ = some (.int .u16 (xs.getD j 0)) := by
  obtain ⟨h1, h2, h3, _⟩ := h
  cases a with
  | none => have := h2 rfl; omega
  | some x =>
    have hc := h3 x rfl
    obtain ⟨b, off, spot⟩ := x
    obtain rfl : spot = none := by simpa [Addr.add] using World.cell?_spot (hc 0 hl)
    exact ⟨b, off, rfl, fun j hj => by simpa [Addr.add_lit] using hc j hj⟩

theorem zz27_yes (a : Option Addr) (len cap : Nat) (w : World) (h : len ≤ 1048576) : Calls Try.prog 27 #[.slice a len cap] w fun e w' => e = .returned (.bool true) ∧ w = w' := by
  go_enter Try.func27, Try.ntmps27
  go_wp2
  go_ret
  exact ⟨rfl, rfl⟩
theorem zz27_no (a : Option Addr) (len cap : Nat) (w : World) (h : 1048576 < len) : Calls Try.prog 27 #[.slice a len cap] w fun e w' => e = .returned (.bool false) ∧ w = w' := by
  go_enter Try.func27, Try.ntmps27
  go_wp2
  go_ret
  exact ⟨rfl, rfl⟩

theorem zz24_yes (a : Option Addr) (len cap : Nat) (w : World) (h : len ≤ 1048576) : Calls Try.prog 24 #[.slice a len cap] w fun e w' => e = .returned (.bool true) ∧ w = w' := by
  go_enter Try.func24, Try.ntmps24
  go_wp2
  go_ret
  exact ⟨rfl, rfl⟩
theorem zz24_no (a : Option Addr) (len cap : Nat) (w : World) (h : 1048576 < len) : Calls Try.prog 24 #[.slice a len cap] w fun e w' => e = .returned (.bool false) ∧ w = w' := by
  go_enter Try.func24, Try.ntmps24
  go_wp2
  go_ret
  exact ⟨rfl, rfl⟩
theorem zz11_yes (a : Option Addr) (len cap : Nat) (i n : Int) (w : World) (h : len ≤ 1048576) : Calls Try.prog 11 #[.slice a len cap, .int .i64 i, .int .i64 n] w fun e w' => e = .returned (.bool true) ∧ w = w' := by
  go_enter Try.func11, Try.ntmps11
  go_wp2
  go_ret
  exact ⟨rfl, rfl⟩
theorem zz11_no (a : Option Addr) (len cap : Nat) (i n : Int) (w : World) (h : 1048576 < len) : Calls Try.prog 11 #[.slice a len cap, .int .i64 i, .int .i64 n] w fun e w' => e = .returned (.bool false) ∧ w = w' := by
  go_enter Try.func11, Try.ntmps11
  go_wp2
  go_ret
  exact ⟨rfl, rfl⟩
theorem zz19_yes (a : Option Addr) (len cap : Nat) (i : Int) (w : World) (h : len ≤ 1048576) : Calls Try.prog 19 #[.slice a len cap, .int .i64 i] w fun e w' => e = .returned (.bool true) ∧ w = w' := by
  go_enter Try.func19, Try.ntmps19
  go_wp2
  go_ret
  exact ⟨rfl, rfl⟩
theorem zz19_no (a : Option Addr) (len cap : Nat) (i : Int) (w : World) (h : 1048576 < len) : Calls Try.prog 19 #[.slice a len cap, .int .i64 i] w fun e w' => e = .returned (.bool false) ∧ w = w' := by
  go_enter Try.func19, Try.ntmps19
  go_wp2
  go_ret
  exact ⟨rfl, rfl⟩
theorem zz22_yes (a : Option Addr) (len cap : Nat) (i : Int) (w : World) (h : len ≤ 1048576) : Calls Try.prog 22 #[.slice a len cap, .int .i64 i] w fun e w' => e = .returned (.bool true) ∧ w = w' := by
  go_enter Try.func22, Try.ntmps22
  go_wp2
  go_ret
  exact ⟨rfl, rfl⟩
theorem zz22_no (a : Option Addr) (len cap : Nat) (i : Int) (w : World) (h : 1048576 < len) : Calls Try.prog 22 #[.slice a len cap, .int .i64 i] w fun e w' => e = .returned (.bool false) ∧ w = w' := by
  go_enter Try.func22, Try.ntmps22
  go_wp2
  go_ret
  exact ⟨rfl, rfl⟩
theorem zz15_yes (a a' : Option Addr) (len cap len' cap' : Nat) (v n : Int) (u : Bool) (w : World) (h : len + len' ≤ 1048576) : Calls Try.prog 15 #[.slice a len cap, .int .i64 v, .int .i64 n, .bool u, .slice a' len' cap'] w fun e w' => e = .returned (.bool true) ∧ w = w' := by
  go_enter Try.func15, Try.ntmps15
  go_wp2
  go_ret
  exact ⟨rfl, rfl⟩
theorem zz15_no (a a' : Option Addr) (len cap len' cap' : Nat) (v n : Int) (u : Bool) (w : World) (h : 1048576 < len + len') : Calls Try.prog 15 #[.slice a len cap, .int .i64 v, .int .i64 n, .bool u, .slice a' len' cap'] w fun e w' => e = .returned (.bool false) ∧ w = w' := by
  by_cases h1 : 1048576 < len
  · go_enter Try.func15, Try.ntmps15
    go_wp2
    go_ret
    exact ⟨rfl, rfl⟩
  by_cases h2 : 1048576 < len'
  · go_enter Try.func15, Try.ntmps15
    go_wp2
    go_ret
    exact ⟨rfl, rfl⟩
  go_enter Try.func15, Try.ntmps15
  go_wp2
  go_ret
  exact ⟨rfl, rfl⟩
theorem zz23_yes (a a' : Option Addr) (len cap len' cap' : Nat) (v : Int) (u : Bool) (w : World) (h : len + len' ≤ 1048576) : Calls Try.prog 23 #[.slice a len cap, .int .u16 v, .bool u, .slice a' len' cap'] w fun e w' => e = .returned (.bool true) ∧ w = w' := by
  go_enter Try.func23, Try.ntmps23
  go_wp2
  go_ret
  exact ⟨rfl, rfl⟩
theorem zz23_no (a a' : Option Addr) (len cap len' cap' : Nat) (v : Int) (u : Bool) (w : World) (h : 1048576 < len + len') : Calls Try.prog 23 #[.slice a len cap, .int .u16 v, .bool u, .slice a' len' cap'] w fun e w' => e = .returned (.bool false) ∧ w = w' := by
  by_cases h1 : 1048576 < len
  · go_enter Try.func23, Try.ntmps23
    go_wp2
    go_ret
    exact ⟨rfl, rfl⟩
  by_cases h2 : 1048576 < len'
  · go_enter Try.func23, Try.ntmps23
    go_wp2
    go_ret
    exact ⟨rfl, rfl⟩
  go_enter Try.func23, Try.ntmps23
  go_wp2
  go_ret
  exact ⟨rfl, rfl⟩
end Go.Proofs.Qxb6600907a
