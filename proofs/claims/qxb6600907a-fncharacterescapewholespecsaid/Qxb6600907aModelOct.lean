/- THE WALK OF THE LAW's OWN MODEL OF A CHARACTER ESCAPE, AT AN OCTAL DIGIT. By an AI agent. -/
import Derived.Test.Qxb6600907aModelEsc
namespace Go.Proofs.Qxb6600907a
open Go.RowKit
set_option linter.unusedVariables false
set_option linter.unusedSimpArgs false

theorem octAt_not (xs : List Int) (k : Nat) (h : octAt xs k = false) : xs.length ≤ k ∨ (k < xs.length ∧ xs.getD k 0 < 48) ∨ (k < xs.length ∧ 55 < xs.getD k 0) := by
  by_cases hk : k < xs.length
  · have : isO (xs.getD k 0) = false := by
      cases hO : isO (xs.getD k 0)
      · rfl
      · unfold octAt at h; rw [hO] at h; simp [hk] at h
    rcases (isO_not _).1 this with h | h
    · exact .inr (.inl ⟨hk, h⟩)
    · exact .inr (.inr ⟨hk, h⟩)
  · exact .inl (by omega)

set_option maxHeartbeats 2000000 in
theorem escModel_oct (b off m cap pos : Nat) (xs : List Int) (w : World) (hlen : xs.length = m) (hm : m ≤ 1048600) (hpos : pos < m) (hc : ∀ j, j < m → w.cell? ⟨b, off + j, none⟩ = some (.int .u16 (xs.getD j 0))) (hO : isO (xs.getD pos 0) = true) :
    Calls Try.prog 21 #[.slice (some ⟨b, off, none⟩) m cap, .int .i64 pos] w fun e w' => e = .returned (.tuple #[.int .i64 (escRes xs pos).1, .int .i64 ((escRes xs pos).2 : Nat)]) ∧ w = w' := by
  have k0 := hc pos hpos
  have hpm : (pos : Int) < (m : Int) := by omega
  obtain ⟨l0, u0⟩ := (isO_iff _).1 hO
  have E := escRes_o hO
  unfold octRes at E
  clear hO
  cases h1 : octAt xs (pos + 1)
  · rw [octF_stop 2 xs (pos + 1) _ (.inl h1)] at E
    rw [E]
    generalize xs.getD pos 0 = c0 at *
    have V1 := hid (octV1 b off m cap pos c0 w hm hpos k0 l0 u0)
    rcases octAt_not xs (pos + 1) h1 with hx | ⟨hx, hy⟩ | ⟨hx, hy⟩
    · have t1 : decide ((pos : Int) + 1 < (m : Int)) = false := by simp; omega
      clear hc E h1 hx
      go_enter Try.func21, Try.ntmps21
      go_wp2
      refine wp_loop_rounds 1 ?_
      rw [rounds_succ]
      go_wp2_with fail
      refine V1.out.mono ?_
      rintro e w' ⟨rfl, rfl⟩
      go_wp2_with fail
      go_ret2
      exact ⟨rfl, rfl⟩
    · have k1 := hc (pos + 1) (by omega)
      generalize xs.getD (pos + 1) 0 = c1 at k1 hy
      have t1 : decide (48 ≤ c1) = false := by simpa using hy
      have t0 : (pos : Int) + 1 < (m : Int) := by omega
      clear hc E h1 hx
      go_enter Try.func21, Try.ntmps21
      go_wp2
      refine wp_loop_rounds 1 ?_
      rw [rounds_succ]
      go_wp2_with fail
      refine V1.out.mono ?_
      rintro e w' ⟨rfl, rfl⟩
      go_wp2_with fail
      go_ret2
      exact ⟨rfl, rfl⟩
    · have k1 := hc (pos + 1) (by omega)
      generalize xs.getD (pos + 1) 0 = c1 at k1 hy
      have t1 : decide (c1 ≤ 55) = false := by simpa using hy
      have t0 : (pos : Int) + 1 < (m : Int) := by omega
      clear hc E h1 hx
      go_enter Try.func21, Try.ntmps21
      go_wp2
      refine wp_loop_rounds 1 ?_
      rw [rounds_succ]
      go_wp2_with fail
      refine V1.out.mono ?_
      rintro e w' ⟨rfl, rfl⟩
      go_wp2_with fail
      go_ret2
      exact ⟨rfl, rfl⟩
  have h1' := (octAt_iff xs (pos + 1)).1 h1
  rw [octF_step 1 xs (pos + 1) _ h1 (by omega)] at E
  obtain ⟨p1, l1, u1⟩ := h1'
  have k1 := hc (pos + 1) (by omega)
  have t0 : (pos : Int) + 1 < (m : Int) := by omega
  clear h1
  cases h2 : octAt xs (pos + 2)
  · rw [octF_stop 1 xs (pos + 1 + 1) _ (.inl h2)] at E
    rw [E]
    generalize xs.getD pos 0 = c0 at *
    generalize xs.getD (pos + 1) 0 = c1 at *
    have V2 := hid (octV2 b off m cap pos c0 c1 w hm (by omega) k0 l0 u0 k1 l1 u1)
    have q : decide ((255 : Int) < (c0 - 48) * 8 + (c1 - 48)) = false := by simp; omega
    rcases octAt_not xs (pos + 2) h2 with hx | ⟨hx, hy⟩ | ⟨hx, hy⟩
    · have t1 : decide ((pos : Int) + 2 < (m : Int)) = false := by simp; omega
      clear hc E h2 hx
      go_enter Try.func21, Try.ntmps21
      go_wp2
      refine wp_loop_rounds 2 ?_
      rw [rounds_succ]
      go_wp2_with fail
      rw [rounds_succ]
      go_wp2_with fail
      refine V2.out.mono ?_
      rintro e w' ⟨rfl, rfl⟩
      go_wp2_with fail
      go_ret2
      exact ⟨rfl, rfl⟩
    · have k2 := hc (pos + 2) (by omega)
      generalize xs.getD (pos + 2) 0 = c2 at k2 hy
      have t1 : decide (48 ≤ c2) = false := by simpa using hy
      have t2 : (pos : Int) + 2 < (m : Int) := by omega
      clear hc E h2 hx
      go_enter Try.func21, Try.ntmps21
      go_wp2
      refine wp_loop_rounds 2 ?_
      rw [rounds_succ]
      go_wp2_with fail
      rw [rounds_succ]
      go_wp2_with fail
      refine V2.out.mono ?_
      rintro e w' ⟨rfl, rfl⟩
      go_wp2_with fail
      go_ret2
      exact ⟨rfl, rfl⟩
    · have k2 := hc (pos + 2) (by omega)
      generalize xs.getD (pos + 2) 0 = c2 at k2 hy
      have t1 : decide (c2 ≤ 55) = false := by simpa using hy
      have t2 : (pos : Int) + 2 < (m : Int) := by omega
      clear hc E h2 hx
      go_enter Try.func21, Try.ntmps21
      go_wp2
      refine wp_loop_rounds 2 ?_
      rw [rounds_succ]
      go_wp2_with fail
      rw [rounds_succ]
      go_wp2_with fail
      refine V2.out.mono ?_
      rintro e w' ⟨rfl, rfl⟩
      go_wp2_with fail
      go_ret2
      exact ⟨rfl, rfl⟩
  obtain ⟨p2, l2, u2⟩ := (octAt_iff xs (pos + 2)).1 h2
  have k2 := hc (pos + 2) (by omega)
  have t2 : (pos : Int) + 2 < (m : Int) := by omega
  by_cases h3 : (xs.getD pos 0 - 48) * 8 + (xs.getD (pos + 1) 0 - 48) < 32
  · rw [octF_step 0 xs (pos + 1 + 1) _ h2 h3, octF_zero] at E
    rw [E]
    rw [show pos + 1 + 1 = pos + 2 by omega]
    generalize xs.getD pos 0 = c0 at *
    generalize xs.getD (pos + 1) 0 = c1 at *
    generalize xs.getD (pos + 2) 0 = c2 at *
    have V3 := hid (octV3 b off m cap pos c0 c1 c2 w hm (by omega) k0 l0 u0 k1 l1 u1 k2 l2 u2)
    have q : decide ((255 : Int) < ((c0 - 48) * 8 + (c1 - 48)) * 8 + (c2 - 48)) = false := by simp; omega
    clear hc E h2
    go_enter Try.func21, Try.ntmps21
    go_wp2
    refine wp_loop_rounds 3 ?_
    rw [rounds_succ]
    go_wp2_with fail
    rw [rounds_succ]
    go_wp2_with fail
    rw [rounds_succ]
    go_wp2_with fail
    refine V3.out.mono ?_
    rintro e w' ⟨rfl, rfl⟩
    go_wp2_with fail
    go_ret2
    exact ⟨rfl, rfl⟩
  · rw [octF_stop 1 xs (pos + 1 + 1) _ (.inr (by omega))] at E
    rw [E]
    generalize xs.getD pos 0 = c0 at *
    generalize xs.getD (pos + 1) 0 = c1 at *
    generalize xs.getD (pos + 2) 0 = c2 at *
    have V3 := hid (octV3 b off m cap pos c0 c1 c2 w hm (by omega) k0 l0 u0 k1 l1 u1 k2 l2 u2)
    have V2 := hid (octV2 b off m cap pos c0 c1 w hm (by omega) k0 l0 u0 k1 l1 u1)
    have q : decide ((255 : Int) < ((c0 - 48) * 8 + (c1 - 48)) * 8 + (c2 - 48)) = true := by simp; omega
    clear hc E h2
    go_enter Try.func21, Try.ntmps21
    go_wp2
    refine wp_loop_rounds 3 ?_
    rw [rounds_succ]
    go_wp2_with fail
    rw [rounds_succ]
    go_wp2_with fail
    rw [rounds_succ]
    go_wp2_with fail
    refine V3.out.mono ?_
    rintro e w' ⟨rfl, rfl⟩
    go_wp2_with fail
    refine V2.out.mono ?_
    rintro e w' ⟨rfl, rfl⟩
    go_wp2_with fail
    go_ret2
    exact ⟨rfl, rfl⟩

end Go.Proofs.Qxb6600907a
