/- THE PLAIN LAW OF WRITTEN ESCAPES. By an AI agent. -/
import Derived.Test.Qxb6600907aPlainWrite
namespace Go.Proofs.Qxb6600907a
open Go.RowKit
set_option linter.unusedSimpArgs false

theorem at_end (P Q : List Int) (c : Int) : (P ++ [c] ++ Q).getD P.length 0 = c := by
  simp [List.getD]

/-- u and four digits. -/
theorem escRes_written_u (P S : List Int) (v : Nat) (u : Bool) (hv : v < 65536) : escRes (P ++ [117] ++ hexW v u 4 ++ S) P.length = ((v : Int), P.length + 5) := by
  have hr := hexRes_written (P ++ [117]) S v u 4 (by omega) hv
  rw [show (P ++ [(117 : Int)]).length = P.length + 1 from by simp] at hr
  have hc : (P ++ [117] ++ hexW v u 4 ++ S).getD P.length 0 = 117 := by rw [List.append_assoc]; exact at_end P _ 117
  rw [escRes_u hc (by rw [hr]), hr]

/-- x and two digits. -/
theorem escRes_written_x (P S : List Int) (v : Nat) (u : Bool) (hv : v < 256) : escRes (P ++ [120] ++ hexW v u 2 ++ S) P.length = ((v : Int), P.length + 3) := by
  have hr := hexRes_written (P ++ [120]) S v u 2 (by omega) hv
  rw [show (P ++ [(120 : Int)]).length = P.length + 1 from by simp] at hr
  have hc : (P ++ [120] ++ hexW v u 2 ++ S).getD P.length 0 = 120 := by rw [List.append_assoc]; exact at_end P _ 120
  rw [escRes_x hc (by rw [hr]), hr]

end Go.Proofs.Qxb6600907a
