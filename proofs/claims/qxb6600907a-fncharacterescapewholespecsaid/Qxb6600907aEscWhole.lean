/- THE WALK OF FnCharacterEscapeWholeSpec. By an AI agent. -/
import Derived.Test.Qxb6600907aEsc3
import Derived.Test.Qxb6600907aModelOct
namespace Go.Proofs.Qxb6600907a
open Go.RowKit
set_option linter.unusedVariables false
set_option linter.unusedSimpArgs false

set_option maxHeartbeats 2000000 in
theorem escWhole_walk (a0 : Option Addr) (len0 cap0 : Nat) (a1 : Int) (xs : List Int) (w : World) (hx : Came w a0 len0 xs) :
    Calls Try.prog 5 #[.slice a0 len0 cap0, .int .i64 a1] w fun e w' => e = .returned (.bool true) ∧ Below w.heap.size w w' := by
  have hlen : xs.length = len0 := hx.1
  have hwf := hx.2.2.2
  by_cases hbig : 1048576 < len0
  · clear hwf
    go_enter Try.func5, Try.ntmps5
    go_wp2_with fail
    refine (zz19_no _ _ _ _ _ hbig).mono ?_
    rintro e w' ⟨rfl, rfl⟩
    go_wp2_with fail
    go_ret
    exact ⟨rfl, Below.refl _ _⟩
  by_cases hmid : 524288 < len0
  · clear hwf
    go_enter Try.func5, Try.ntmps5
    go_wp2_with fail
    refine (zz19_yes _ _ _ _ _ (by omega)).mono ?_
    rintro e w' ⟨rfl, rfl⟩
    go_wp2_with fail
    go_ret
    exact ⟨rfl, Below.refl _ _⟩
  by_cases hneg : a1 < 0
  · clear hwf
    go_enter Try.func5, Try.ntmps5
    go_wp2_with fail
    refine (zz19_yes _ _ _ _ _ (by omega)).mono ?_
    rintro e w' ⟨rfl, rfl⟩
    go_wp2_with fail
    go_ret
    exact ⟨rfl, Below.refl _ _⟩
  have g1 : decide (a1 < 0) = false := by simpa using hneg
  by_cases hpast : (len0 : Int) ≤ a1
  · clear hwf
    go_enter Try.func5, Try.ntmps5
    go_wp2_with fail
    refine (zz19_yes _ _ _ _ _ (by omega)).mono ?_
    rintro e w' ⟨rfl, rfl⟩
    go_wp2_with fail
    go_ret
    exact ⟨rfl, Below.refl _ _⟩
  have g2 : decide ((len0 : Int) ≤ a1) = false := by simpa using hpast
  obtain ⟨pos, rfl⟩ := Int.eq_ofNat_of_zero_le (by omega : 0 ≤ a1)
  have hpm : pos < len0 := by omega
  have hpm' : (pos : Int) < (len0 : Int) := by omega
  have K := hid (copy_any a0 len0 cap0 xs w hx (by omega))
  have C0 := hid (fun (B : Nat) (v : Value) (wx : World) (ho : wx.ownsRow B 34 1 v len0 (ints xs)) => zzEsc_any B pos v xs wx (by rw [hlen]; exact ho) (by omega) (by omega) hwf)
  have C1 : Hid (∀ (B : Nat) (v : Value) (wx : World), wx.ownsRow B 34 1 v len0 (ints xs) → Calls Try.prog 21 #[v, .int .i64 pos] wx fun e w' => e = .returned (.tuple #[.int .i64 (escRes xs pos).1, .int .i64 ((escRes xs pos).2 : Nat)]) ∧ wx = w') := by
    intro B v wx ho
    rcases ho.2 with ⟨rfl, hz⟩ | ⟨g, cap, cur, rfl, hb, hg, hnc, _⟩
    · omega
    · have hcells : ∀ j, j < len0 → wx.cell? ⟨g, 0 + j, none⟩ = some (.int .u16 (xs.getD j 0)) := fun j hj => by rw [Nat.zero_add]; exact own_cell ho j hj
      cases hO : isO (xs.getD pos 0)
      · exact escModel_plain g 0 len0 cap pos xs wx hlen (by omega) hpm hcells hwf hO
      · exact escModel_oct g 0 len0 cap pos xs wx hlen (by omega) hpm hcells hO
  generalize escRes xs pos = R at C0 C1
  clear hx hlen hwf
  go_enter Try.func5, Try.ntmps5
  go_wp2_with fail
  refine (zz19_yes _ _ _ _ _ (by omega)).mono ?_
  rintro e w' ⟨rfl, rfl⟩
  go_wp2_with fail
  refine K.out.mono ?_
  rintro e w1 ⟨v, rfl, hown1, hbel1⟩
  have D0 := hid (C0.out _ _ _ hown1)
  have HO := hid hown1
  have HB := hid hbel1
  clear hown1 hbel1 K
  go_wp2_with fail
  refine D0.out.mono ?_
  rintro e w2 ⟨rfl, hbel2⟩
  have D1 := hid (C1.out _ _ _ (own_below HO.out hbel2))
  have HB2 := hid (HB.out.trans (hbel2.mono HB.out.size))
  clear hbel2 D0 C0 C1
  go_wp2_with fail
  refine D1.out.mono ?_
  rintro e w3 ⟨rfl, rfl⟩
  go_wp2
  go_ret
  exact ⟨by simp, HB2.out⟩

end Go.Proofs.Qxb6600907a
