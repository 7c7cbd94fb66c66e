/- THE WALK OF characterEscape. By an AI agent. -/
import Derived.Test.Qxb6600907aEsc
namespace Go.Proofs.Qxb6600907a
open Go.RowKit
set_option linter.unusedVariables false
set_option linter.unusedSimpArgs false

theorem par_new' {W : World} {pb : Nat} {x : Value} {a : Int} {k : Nat} (h : W.cell? ⟨pb, 1, none⟩ = some x) (hk : a = (k : Int)) : (W.setCell ⟨pb, 1, none⟩ (.int .i64 a)).cell? ⟨pb, 1, none⟩ = some (.int .i64 (k : Nat)) := by
  rw [hk]; exact par_new _ h

theorem bel_set {w W : World} {pb : Nat} {v : Value} (h : Below pb w W) : Below pb w (W.setCell ⟨pb, 1, none⟩ v) := h.setCell (Nat.le_refl _) _

set_option maxHeartbeats 2000000 in
theorem charEsc_at (pb b off m cap pos : Nat) (xs : List Int) (w : World) (hp0 : w.cell? ⟨pb, 0, none⟩ = some (.slice (some ⟨b, off, none⟩) m cap)) (hp1 : w.cell? ⟨pb, 1, none⟩ = some (.int .i64 pos)) (hf : w.frozen? ⟨pb, 1, none⟩ = false)
    (hbp : b < pb) (hlen : xs.length = m) (hm : m ≤ 1048600) (hcap : m ≤ cap) (hpos : pos < m) (hc : ∀ j, j < m → w.cell? ⟨b, off + j, none⟩ = some (.int .u16 (xs.getD j 0))) (hw : ∀ x ∈ xs, 0 ≤ x ∧ x ≤ 65535) :
    Calls Try.prog 32 #[.pointer (some ⟨pb, 0, none⟩)] w fun e w' => e = .returned (.int .i64 (escRes xs pos).1) ∧ w'.cell? ⟨pb, 1, none⟩ = some (.int .i64 ((escRes xs pos).2 : Nat)) ∧ Below pb w w' := by
  have hcx := hc pos hpos
  have hb := getD_in xs hw pos (by omega)
  have hpm : (pos : Int) < (m : Int) := by omega
  have C2 : Hid (∀ wx : World, wx.cell? ⟨pb, 0, none⟩ = some (.slice (some ⟨b, off, none⟩) m cap) → Below pb w wx →
      Calls Try.prog 29 #[.pointer (some ⟨pb, 0, none⟩), .int .i64 ((pos : Int) + 1), .int .i64 2] wx fun e w' => e = .returned (.tuple #[.int .i64 (hexRes xs (pos + 1) 2).1, .bool (hexRes xs (pos + 1) 2).2]) ∧ wx = w') := by
    intro wx h1 h2
    have := hex_at pb b off m cap (pos + 1) 2 xs wx h1 hlen hm hcap (by omega) (by omega) (fun j hj => (h2.cell (p := ⟨b, off + j, none⟩) hbp).trans (hc j hj)) hw
    rw [show ((pos + 1 : Nat) : Int) = (pos : Int) + 1 by omega] at this
    exact this
  have C4 : Hid (∀ wx : World, wx.cell? ⟨pb, 0, none⟩ = some (.slice (some ⟨b, off, none⟩) m cap) → Below pb w wx →
      Calls Try.prog 29 #[.pointer (some ⟨pb, 0, none⟩), .int .i64 ((pos : Int) + 1), .int .i64 4] wx fun e w' => e = .returned (.tuple #[.int .i64 (hexRes xs (pos + 1) 4).1, .bool (hexRes xs (pos + 1) 4).2]) ∧ wx = w') := by
    intro wx h1 h2
    have := hex_at pb b off m cap (pos + 1) 4 xs wx h1 hlen hm hcap (by omega) (by omega) (fun j hj => (h2.cell (p := ⟨b, off + j, none⟩) hbp).trans (hc j hj)) hw
    rw [show ((pos + 1 : Nat) : Int) = (pos : Int) + 1 by omega] at this
    exact this
  have C8 : Hid (∀ (wx : World) (d : Int), wx.cell? ⟨pb, 0, none⟩ = some (.slice (some ⟨b, off, none⟩) m cap) → wx.cell? ⟨pb, 1, none⟩ = some (.int .i64 ((pos : Int) + 1)) → wx.frozen? ⟨pb, 1, none⟩ = false → Below pb w wx → 0 ≤ d → d ≤ 255 →
      Calls Try.prog 38 #[.pointer (some ⟨pb, 0, none⟩), .int .i64 d] wx fun e w' => e = .returned (.int .i64 (octF 2 xs (pos + 1) d).1) ∧ w'.cell? ⟨pb, 1, none⟩ = some (.int .i64 ((octF 2 xs (pos + 1) d).2 : Nat)) ∧ Below pb wx w') := by
    intro wx d h1 h2 h3 h4 h5 h6
    exact octal_at pb b off m cap (pos + 1) d xs wx h1 (by rw [h2]; congr 2) h3 hbp hlen hm (by omega) h5 h6 (fun j hj => (h4.cell (p := ⟨b, off + j, none⟩) hbp).trans (hc j hj))
  clear hc hw
  by_cases cf : xs.getD pos 0 = 102
  · rw [escRes_f cf]
    rw [cf] at hcx
    clear C2 C4 C8 cf hb
    go_enter Try.func32, Try.ntmps32
    go_wp2
    go_quiet (fail)
    go_wp2
    go_ret
    exact ⟨rfl, par_new' (by exact hp1) (by omega), bel_set (below_drewN (Below.refl _ _) _)⟩
  by_cases cn : xs.getD pos 0 = 110
  · rw [escRes_n cn]
    rw [cn] at hcx
    clear C2 C4 C8 cf cn hb
    go_enter Try.func32, Try.ntmps32
    go_wp2
    go_quiet (fail)
    go_wp2
    go_ret
    exact ⟨rfl, par_new' (by exact hp1) (by omega), bel_set (below_drewN (Below.refl _ _) _)⟩
  by_cases cr : xs.getD pos 0 = 114
  · rw [escRes_r cr]
    rw [cr] at hcx
    clear C2 C4 C8 cf cn cr hb
    go_enter Try.func32, Try.ntmps32
    go_wp2
    go_quiet (fail)
    go_wp2
    go_ret
    exact ⟨rfl, par_new' (by exact hp1) (by omega), bel_set (below_drewN (Below.refl _ _) _)⟩
  by_cases ct : xs.getD pos 0 = 116
  · rw [escRes_t ct]
    rw [ct] at hcx
    clear C2 C4 C8 cf cn cr ct hb
    go_enter Try.func32, Try.ntmps32
    go_wp2
    go_quiet (fail)
    go_wp2
    go_ret
    exact ⟨rfl, par_new' (by exact hp1) (by omega), bel_set (below_drewN (Below.refl _ _) _)⟩
  by_cases cv : xs.getD pos 0 = 118
  · rw [escRes_v cv]
    rw [cv] at hcx
    clear C2 C4 C8 cf cn cr ct cv hb
    go_enter Try.func32, Try.ntmps32
    go_wp2
    go_quiet (fail)
    go_wp2
    go_ret
    exact ⟨rfl, par_new' (by exact hp1) (by omega), bel_set (below_drewN (Below.refl _ _) _)⟩
  by_cases cx : xs.getD pos 0 = 120
  · cases hh : (hexRes xs (pos + 1) 2).2
    · have E := hid (escRes_x_no cx hh)
      rw [E.out]
      have D := hid (fun (wx : World) h1 h2 => C2.out wx h1 h2)
      rw [hh] at D
      rw [cx] at hcx
      clear C2 C4 C8 cf cn cr ct cv cx hb hh E
      generalize (hexRes xs (pos + 1) 2).1 = h at D
      have PN : Hid (isO 120 = false) := by show isO 120 = false; decide
      go_enter Try.func32, Try.ntmps32
      go_wp2
      go_quiet (fail)
      go_wp2_with fail
      refine (D.out _ (par_stay _ (by exact hp0)) (bel_set (below_drewN (Below.refl _ _) _))).mono ?_
      rintro e w' ⟨rfl, rfl⟩
      go_wp2_with fail
      refine (isOctal_any 120 false _ PN.out).mono ?_
      rintro e w' ⟨rfl, rfl⟩
      go_wp2
      go_ret
      exact ⟨rfl, par_new' (by exact hp1) (by omega), bel_set (below_drewN (Below.refl _ _) _)⟩
    · have E := hid (escRes_x cx hh)
      rw [E.out]
      have D := hid (fun (wx : World) h1 h2 => C2.out wx h1 h2)
      rw [hh] at D
      rw [cx] at hcx
      clear C2 C4 C8 cf cn cr ct cv cx hb hh E
      generalize (hexRes xs (pos + 1) 2).1 = h at D
      go_enter Try.func32, Try.ntmps32
      go_wp2
      go_quiet (fail)
      go_wp2_with fail
      refine (D.out _ (par_stay _ (by exact hp0)) (bel_set (below_drewN (Below.refl _ _) _))).mono ?_
      rintro e w' ⟨rfl, rfl⟩
      have k1 := par_new (.int .i64 ((pos : Int) + 1)) hp1
      go_wp2
      go_ret
      exact ⟨rfl, par_new' (by exact k1) (by omega), bel_set (bel_set (below_drewN (Below.refl _ _) _))⟩
  by_cases cu : xs.getD pos 0 = 117
  · cases hh : (hexRes xs (pos + 1) 4).2
    · have E := hid (escRes_u_no cu hh)
      rw [E.out]
      have D := hid (fun (wx : World) h1 h2 => C4.out wx h1 h2)
      rw [hh] at D
      rw [cu] at hcx
      clear C2 C4 C8 cf cn cr ct cv cx cu hb hh E
      generalize (hexRes xs (pos + 1) 4).1 = h at D
      have PN : Hid (isO 117 = false) := by show isO 117 = false; decide
      go_enter Try.func32, Try.ntmps32
      go_wp2
      go_quiet (fail)
      go_wp2_with fail
      refine (D.out _ (par_stay _ (by exact hp0)) (bel_set (below_drewN (Below.refl _ _) _))).mono ?_
      rintro e w' ⟨rfl, rfl⟩
      go_wp2_with fail
      refine (isOctal_any 117 false _ PN.out).mono ?_
      rintro e w' ⟨rfl, rfl⟩
      go_wp2
      go_ret
      exact ⟨rfl, par_new' (by exact hp1) (by omega), bel_set (below_drewN (Below.refl _ _) _)⟩
    · have E := hid (escRes_u cu hh)
      rw [E.out]
      have D := hid (fun (wx : World) h1 h2 => C4.out wx h1 h2)
      rw [hh] at D
      rw [cu] at hcx
      clear C2 C4 C8 cf cn cr ct cv cx cu hb hh E
      generalize (hexRes xs (pos + 1) 4).1 = h at D
      go_enter Try.func32, Try.ntmps32
      go_wp2
      go_quiet (fail)
      go_wp2_with fail
      refine (D.out _ (par_stay _ (by exact hp0)) (bel_set (below_drewN (Below.refl _ _) _))).mono ?_
      rintro e w' ⟨rfl, rfl⟩
      have k1 := par_new (.int .i64 ((pos : Int) + 1)) hp1
      go_wp2
      go_ret
      exact ⟨rfl, par_new' (by exact k1) (by omega), bel_set (bel_set (below_drewN (Below.refl _ _) _))⟩
  cases hO : isO (xs.getD pos 0)
  · rw [escRes_other cf cn cr ct cv cx cu hO]
    generalize xs.getD pos 0 = c at *
    have PN := hid hO
    have t1 : (c == 102) = false := by simpa using cf
    have t2 : (c == 110) = false := by simpa using cn
    have t3 : (c == 114) = false := by simpa using cr
    have t4 : (c == 116) = false := by simpa using ct
    have t5 : (c == 118) = false := by simpa using cv
    have t6 : (c == 120) = false := by simpa using cx
    have t7 : (c == 117) = false := by simpa using cu
    obtain ⟨hb1, hb2⟩ := hb
    clear C2 C4 C8 cf cn cr ct cv cx cu hO
    go_enter Try.func32, Try.ntmps32
    go_wp2
    go_quiet (fail)
    go_wp2_with fail
    refine (isOctal_any c false _ PN.out).mono ?_
    rintro e w' ⟨rfl, rfl⟩
    go_wp2
    go_ret
    exact ⟨by go_num, par_new' (by exact hp1) (by omega), bel_set (below_drewN (Below.refl _ _) _)⟩
  · have hO' := (isO_iff _).1 hO
    have E := escRes_o hO
    unfold octRes at E
    rw [E]
    generalize xs.getD pos 0 = c at *
    have PN := hid hO
    obtain ⟨hb1, hb2⟩ := hO'
    have D := hid (fun (wx : World) h1 h2 h3 h4 => C8.out wx (c - 48) h1 h2 h3 h4 (by omega) (by omega))
    generalize octF 2 xs (pos + 1) (c - 48) = R at D
    clear C2 C4 C8 cf cn cr ct cv cx cu hO E hb
    go_enter Try.func32, Try.ntmps32
    go_wp2
    go_quiet (fail)
    go_wp2_with fail
    refine (isOctal_any c true _ PN.out).mono ?_
    rintro e w' ⟨rfl, rfl⟩
    go_wp2_with fail
    refine (D.out _ (par_stay _ (by exact hp0)) (par_new _ (by exact hp1)) (by rw [World.frozen?_setCell]; exact hf) (bel_set (below_drewN (Below.refl _ _) _))).mono ?_
    rintro e w' ⟨rfl, hk, hbel⟩
    go_wp2
    go_ret
    exact ⟨rfl, hk, (bel_set (below_drewN (Below.refl _ _) _)).trans hbel⟩

end Go.Proofs.Qxb6600907a
