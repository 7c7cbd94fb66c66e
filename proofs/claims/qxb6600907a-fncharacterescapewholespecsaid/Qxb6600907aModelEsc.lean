/- THE WALK OF THE LAW's OWN MODEL OF A CHARACTER ESCAPE: jsb1EscapeModel. By an AI agent. -/
import Derived.Test.Qxb6600907aOctV
namespace Go.Proofs.Qxb6600907a
open Go.RowKit
set_option linter.unusedVariables false
set_option linter.unusedSimpArgs false

/-- Where the unit at pos is no octal digit. -/
theorem escModel_plain (b off m cap pos : Nat) (xs : List Int) (w : World) (hlen : xs.length = m) (hm : m ≤ 1048600) (hpos : pos < m) (hc : ∀ j, j < m → w.cell? ⟨b, off + j, none⟩ = some (.int .u16 (xs.getD j 0))) (hw : ∀ x ∈ xs, 0 ≤ x ∧ x ≤ 65535) (hO : isO (xs.getD pos 0) = false) :
    Calls Try.prog 21 #[.slice (some ⟨b, off, none⟩) m cap, .int .i64 pos] w fun e w' => e = .returned (.tuple #[.int .i64 (escRes xs pos).1, .int .i64 ((escRes xs pos).2 : Nat)]) ∧ w = w' := by
  have hcx := hc pos hpos
  have hb := getD_in xs hw pos (by omega)
  have hpm : (pos : Int) < (m : Int) := by omega
  have C2 : Hid (Calls Try.prog 14 #[.slice (some ⟨b, off, none⟩) m cap, .int .i64 ((pos : Int) + 1), .int .i64 2] w fun e w' => e = .returned (.tuple #[.int .i64 (hexRes xs (pos + 1) 2).1, .bool (hexRes xs (pos + 1) 2).2]) ∧ w = w') := by
    have := hexRun_at b off m cap (pos + 1) 2 xs w hlen hm (by omega) (by omega) hc hw
    rw [show ((pos + 1 : Nat) : Int) = (pos : Int) + 1 by omega] at this
    exact this
  have C4 : Hid (Calls Try.prog 14 #[.slice (some ⟨b, off, none⟩) m cap, .int .i64 ((pos : Int) + 1), .int .i64 4] w fun e w' => e = .returned (.tuple #[.int .i64 (hexRes xs (pos + 1) 4).1, .bool (hexRes xs (pos + 1) 4).2]) ∧ w = w') := by
    have := hexRun_at b off m cap (pos + 1) 4 xs w hlen hm (by omega) (by omega) hc hw
    rw [show ((pos + 1 : Nat) : Int) = (pos : Int) + 1 by omega] at this
    exact this
  clear hc hw
  by_cases cf : xs.getD pos 0 = 102
  · rw [escRes_f cf]
    rw [cf] at hcx
    clear C2 C4 hO  cf hb
    go_enter Try.func21, Try.ntmps21
    go_wp2
    go_ret2
    exact ⟨rfl, rfl⟩
  by_cases cn : xs.getD pos 0 = 110
  · rw [escRes_n cn]
    rw [cn] at hcx
    clear C2 C4 hO cf cn hb
    go_enter Try.func21, Try.ntmps21
    go_wp2
    go_ret2
    exact ⟨rfl, rfl⟩
  by_cases cr : xs.getD pos 0 = 114
  · rw [escRes_r cr]
    rw [cr] at hcx
    clear C2 C4 hO cf cn cr hb
    go_enter Try.func21, Try.ntmps21
    go_wp2
    go_ret2
    exact ⟨rfl, rfl⟩
  by_cases ct : xs.getD pos 0 = 116
  · rw [escRes_t ct]
    rw [ct] at hcx
    clear C2 C4 hO cf cn cr ct hb
    go_enter Try.func21, Try.ntmps21
    go_wp2
    go_ret2
    exact ⟨rfl, rfl⟩
  by_cases cv : xs.getD pos 0 = 118
  · rw [escRes_v cv]
    rw [cv] at hcx
    clear C2 C4 hO cf cn cr ct cv hb
    go_enter Try.func21, Try.ntmps21
    go_wp2
    go_ret2
    exact ⟨rfl, rfl⟩
  by_cases cx : xs.getD pos 0 = 120
  · cases hh : (hexRes xs (pos + 1) 2).2
    · rw [escRes_x_no cx hh]
      have D := hid C2.out
      rw [hh] at D
      rw [cx] at hcx
      clear C2 C4 hO cf cn cr ct cv cx hb hh
      generalize (hexRes xs (pos + 1) 2).1 = h at D
      go_enter Try.func21, Try.ntmps21
      go_wp2_with fail
      refine D.out.mono ?_
      rintro e w' ⟨rfl, rfl⟩
      go_wp2
      go_ret2
      exact ⟨rfl, rfl⟩
    · rw [escRes_x cx hh]
      have D := hid C2.out
      rw [hh] at D
      rw [cx] at hcx
      clear C2 C4 hO cf cn cr ct cv cx hb hh
      generalize (hexRes xs (pos + 1) 2).1 = h at D
      go_enter Try.func21, Try.ntmps21
      go_wp2_with fail
      refine D.out.mono ?_
      rintro e w' ⟨rfl, rfl⟩
      go_wp2
      go_ret2
      exact ⟨rfl, rfl⟩
  by_cases cu : xs.getD pos 0 = 117
  · cases hh : (hexRes xs (pos + 1) 4).2
    · rw [escRes_u_no cu hh]
      have D := hid C4.out
      rw [hh] at D
      rw [cu] at hcx
      clear C2 C4 hO cf cn cr ct cv cx cu hb hh
      generalize (hexRes xs (pos + 1) 4).1 = h at D
      go_enter Try.func21, Try.ntmps21
      go_wp2_with fail
      refine D.out.mono ?_
      rintro e w' ⟨rfl, rfl⟩
      go_wp2
      go_ret2
      exact ⟨rfl, rfl⟩
    · rw [escRes_u cu hh]
      have D := hid C4.out
      rw [hh] at D
      rw [cu] at hcx
      clear C2 C4 hO cf cn cr ct cv cx cu hb hh
      generalize (hexRes xs (pos + 1) 4).1 = h at D
      go_enter Try.func21, Try.ntmps21
      go_wp2_with fail
      refine D.out.mono ?_
      rintro e w' ⟨rfl, rfl⟩
      go_wp2
      go_ret2
      exact ⟨rfl, rfl⟩
  rw [escRes_other cf cn cr ct cv cx cu hO]
  generalize xs.getD pos 0 = c at *
  have t1 : (c == 102) = false := by simpa using cf
  have t2 : (c == 110) = false := by simpa using cn
  have t3 : (c == 114) = false := by simpa using cr
  have t4 : (c == 116) = false := by simpa using ct
  have t5 : (c == 118) = false := by simpa using cv
  have t6 : (c == 120) = false := by simpa using cx
  have t7 : (c == 117) = false := by simpa using cu
  obtain ⟨hb1, hb2⟩ := hb
  rcases (isO_not c).1 hO with h | h
  · have t8 : decide (48 ≤ c) = false := by simpa using h
    clear C2 C4 cf cn cr ct cv cx cu hO
    go_enter Try.func21, Try.ntmps21
    go_wp2
    go_ret2
    exact ⟨by rfl, rfl⟩
  · have t8 : decide (c ≤ 55) = false := by simpa using h
    clear C2 C4 cf cn cr ct cv cx cu hO
    go_enter Try.func21, Try.ntmps21
    go_wp2
    go_ret2
    exact ⟨by rfl, rfl⟩

end Go.Proofs.Qxb6600907a
