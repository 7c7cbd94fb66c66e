/- THE WALKS OF THE LAW's OWN MODEL OF A CHARACTER ESCAPE: jsb1OctalValue. By an AI agent. -/
import Derived.Test.Qxb6600907aHexRun
import Derived.Test.Qxb6600907aPlainEsc
namespace Go.Proofs.Qxb6600907a
open Go.RowKit
set_option linter.unusedVariables false
set_option linter.unusedSimpArgs false

theorem octV1 (b off m cap pos : Nat) (c0 : Int) (w : World) (hm : m ≤ 1048600) (hp : pos < m) (k0 : w.cell? ⟨b, off + pos, none⟩ = some (.int .u16 c0)) (l0 : 48 ≤ c0) (u0 : c0 ≤ 55) :
    Calls Try.prog 33 #[.slice (some ⟨b, off, none⟩) m cap, .int .i64 pos, .int .i64 1] w fun e w' => e = .returned (.int .i64 (c0 - 48)) ∧ w = w' := by
  go_enter Try.func33, Try.ntmps33
  go_wp2
  refine wp_loop_rounds 2 ?_
  rw [rounds_succ]
  go_wp2
  rw [rounds_succ]
  go_wp2
  go_ret
  exact ⟨by go_num, rfl⟩

theorem octV2 (b off m cap pos : Nat) (c0 c1 : Int) (w : World) (hm : m ≤ 1048600) (hp : pos + 1 < m) (k0 : w.cell? ⟨b, off + pos, none⟩ = some (.int .u16 c0)) (l0 : 48 ≤ c0) (u0 : c0 ≤ 55)
    (k1 : w.cell? ⟨b, off + (pos + 1), none⟩ = some (.int .u16 c1)) (l1 : 48 ≤ c1) (u1 : c1 ≤ 55) :
    Calls Try.prog 33 #[.slice (some ⟨b, off, none⟩) m cap, .int .i64 pos, .int .i64 2] w fun e w' => e = .returned (.int .i64 ((c0 - 48) * 8 + (c1 - 48))) ∧ w = w' := by
  go_enter Try.func33, Try.ntmps33
  go_wp2
  refine wp_loop_rounds 3 ?_
  rw [rounds_succ]
  go_wp2
  rw [rounds_succ]
  go_wp2
  rw [rounds_succ]
  go_wp2
  go_ret
  exact ⟨by go_num, rfl⟩

theorem octV3 (b off m cap pos : Nat) (c0 c1 c2 : Int) (w : World) (hm : m ≤ 1048600) (hp : pos + 2 < m) (k0 : w.cell? ⟨b, off + pos, none⟩ = some (.int .u16 c0)) (l0 : 48 ≤ c0) (u0 : c0 ≤ 55)
    (k1 : w.cell? ⟨b, off + (pos + 1), none⟩ = some (.int .u16 c1)) (l1 : 48 ≤ c1) (u1 : c1 ≤ 55) (k2 : w.cell? ⟨b, off + (pos + 2), none⟩ = some (.int .u16 c2)) (l2 : 48 ≤ c2) (u2 : c2 ≤ 55) :
    Calls Try.prog 33 #[.slice (some ⟨b, off, none⟩) m cap, .int .i64 pos, .int .i64 3] w fun e w' => e = .returned (.int .i64 (((c0 - 48) * 8 + (c1 - 48)) * 8 + (c2 - 48))) ∧ w = w' := by
  go_enter Try.func33, Try.ntmps33
  go_wp2
  refine wp_loop_rounds 4 ?_
  rw [rounds_succ]
  go_wp2
  rw [rounds_succ]
  go_wp2
  rw [rounds_succ]
  go_wp2
  rw [rounds_succ]
  go_wp2
  go_ret
  exact ⟨by go_num, rfl⟩

end Go.Proofs.Qxb6600907a
