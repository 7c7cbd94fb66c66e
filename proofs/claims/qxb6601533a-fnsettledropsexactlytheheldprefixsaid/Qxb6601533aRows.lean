/-
  No cell of these rows narrows 'for every input' (looked for: loops, veiled, ifaces, maps, wideKeys, modest, calm, conditions, laid).
  DERIVED. THE GIVEN ROWS OF THIS SEAT. 5 by the template 'for every input the law returns true; each argument reads behind the call as it read before'; 0 by the template 'total and deterministic' (their statements: Qxb6601533aTotals.lean).
  GIVEN WITH THE SEED: the statements are not yours to turn. If you find one false, say at which input.
  Laid BY PROGRAM, IN A SANDBOX (cutbox-rows.mjs): the forced cells as the released guide's own fill.sh prints them over the translation bc04d4f6e6c3716c… (all of the seat's roots in one cut). By AI agents, Wed Nov 11 2026. No macro, syntax, notation, axiom, sorry.
-/
import Derived.Test.Qxb6601533aChecked
import GoSem.Claim
import GoSem.ClaimJoined
import GoSem.ClaimMapViews
import Derived.JoinedTies
import Derived.KernelRfl
namespace Go.Proofs.Qxb6601533a
/- THE CELL 'sum', in the pinned program and in every row, IS THE sha256 OF THE DUMP (.gsa) THAT Qxb6601533aProg.lean LOADS. Nothing in Lean hashes anything: it is a label: what it is worth is what the hold of that sum in a sandbox is worth. -/
noncomputable def Try.pinned : Pinned := { name := "qxb6601533a", sum := "bc04d4f6e6c3716c4725dc2ce5dc609d4faac8c50691fc9a04363ac4bcd8ea98", checked := Try.checked }
namespace Rows
def none {H : Type} : Left H := { results := [], args := [] }

/-- 'zzlaws_root_b1.FnInflowReadMatchesModel': WHATEVER THE INPUT: true; the input reads as it did. -/
def fnInflowReadMatchesModelSpec : ChangeSpec := { name := "fnInflowReadMatchesModel", fn := fun _ => fun
  | [d1, d2, d3, d4, d5] => { results := [.lit (.bool true)], args := [d1, d2, d3, d4, d5] }
  | _ => none }
def fnInflowReadMatchesModelRow : OpenClaim := { program := "qxb6601533a", sum := "bc04d4f6e6c3716c4725dc2ce5dc609d4faac8c50691fc9a04363ac4bcd8ea98", func := "example.com/antiphon/antiphon/zzlaws_root_b1.FnInflowReadMatchesModel", spec := "fnInflowReadMatchesModel", apart := false }
def FnInflowReadMatchesModelSaid : Prop := fnInflowReadMatchesModelRow.holds Try.pinned (OpenSpec.ofChange fnInflowReadMatchesModelSpec)

/-- ITS FALSE NEIGHBOUR: 'it returns false'. Refute it at one input. -/
def fnInflowReadMatchesModelWrong : ChangeSpec := { name := "fnInflowReadMatchesModel", fn := fun _ => fun
  | [d1, d2, d3, d4, d5] => { results := [.lit (.bool false)], args := [d1, d2, d3, d4, d5] }
  | _ => none }
def FnInflowReadMatchesModelWrongFalsely : Prop := fnInflowReadMatchesModelRow.holds Try.pinned (OpenSpec.ofChange fnInflowReadMatchesModelWrong)

/-- 'zzlaws_root_b1.FnInflowReadInTwoStepsIsReadOnce': WHATEVER THE INPUT: true; the input reads as it did. -/
def fnInflowReadInTwoStepsIsReadOnceSpec : ChangeSpec := { name := "fnInflowReadInTwoStepsIsReadOnce", fn := fun _ => fun
  | [d1, d2, d3, d4, d5, d6] => { results := [.lit (.bool true)], args := [d1, d2, d3, d4, d5, d6] }
  | _ => none }
def fnInflowReadInTwoStepsIsReadOnceRow : OpenClaim := { program := "qxb6601533a", sum := "bc04d4f6e6c3716c4725dc2ce5dc609d4faac8c50691fc9a04363ac4bcd8ea98", func := "example.com/antiphon/antiphon/zzlaws_root_b1.FnInflowReadInTwoStepsIsReadOnce", spec := "fnInflowReadInTwoStepsIsReadOnce", apart := false }
def FnInflowReadInTwoStepsIsReadOnceSaid : Prop := fnInflowReadInTwoStepsIsReadOnceRow.holds Try.pinned (OpenSpec.ofChange fnInflowReadInTwoStepsIsReadOnceSpec)

/-- ITS FALSE NEIGHBOUR: 'it returns false'. Refute it at one input. -/
def fnInflowReadInTwoStepsIsReadOnceWrong : ChangeSpec := { name := "fnInflowReadInTwoStepsIsReadOnce", fn := fun _ => fun
  | [d1, d2, d3, d4, d5, d6] => { results := [.lit (.bool false)], args := [d1, d2, d3, d4, d5, d6] }
  | _ => none }
def FnInflowReadInTwoStepsIsReadOnceWrongFalsely : Prop := fnInflowReadInTwoStepsIsReadOnceRow.holds Try.pinned (OpenSpec.ofChange fnInflowReadInTwoStepsIsReadOnceWrong)

/-- 'zzlaws_root_b1.FnSettleDropsExactlyTheHeldPrefix': WHATEVER THE INPUT: true; the input reads as it did. -/
def fnSettleDropsExactlyTheHeldPrefixSpec : ChangeSpec := { name := "fnSettleDropsExactlyTheHeldPrefix", fn := fun _ => fun
  | [d1, d2, d3, d4] => { results := [.lit (.bool true)], args := [d1, d2, d3, d4] }
  | _ => none }
def fnSettleDropsExactlyTheHeldPrefixRow : OpenClaim := { program := "qxb6601533a", sum := "bc04d4f6e6c3716c4725dc2ce5dc609d4faac8c50691fc9a04363ac4bcd8ea98", func := "example.com/antiphon/antiphon/zzlaws_root_b1.FnSettleDropsExactlyTheHeldPrefix", spec := "fnSettleDropsExactlyTheHeldPrefix", apart := false }
def FnSettleDropsExactlyTheHeldPrefixSaid : Prop := fnSettleDropsExactlyTheHeldPrefixRow.holds Try.pinned (OpenSpec.ofChange fnSettleDropsExactlyTheHeldPrefixSpec)

/-- ITS FALSE NEIGHBOUR: 'it returns false'. Refute it at one input. -/
def fnSettleDropsExactlyTheHeldPrefixWrong : ChangeSpec := { name := "fnSettleDropsExactlyTheHeldPrefix", fn := fun _ => fun
  | [d1, d2, d3, d4] => { results := [.lit (.bool false)], args := [d1, d2, d3, d4] }
  | _ => none }
def FnSettleDropsExactlyTheHeldPrefixWrongFalsely : Prop := fnSettleDropsExactlyTheHeldPrefixRow.holds Try.pinned (OpenSpec.ofChange fnSettleDropsExactlyTheHeldPrefixWrong)

/-- 'zzlaws_root_b1.FnSettleIsIdempotent': WHATEVER THE INPUT: true; the input reads as it did. -/
def fnSettleIsIdempotentSpec : ChangeSpec := { name := "fnSettleIsIdempotent", fn := fun _ => fun
  | [d1, d2, d3, d4] => { results := [.lit (.bool true)], args := [d1, d2, d3, d4] }
  | _ => none }
def fnSettleIsIdempotentRow : OpenClaim := { program := "qxb6601533a", sum := "bc04d4f6e6c3716c4725dc2ce5dc609d4faac8c50691fc9a04363ac4bcd8ea98", func := "example.com/antiphon/antiphon/zzlaws_root_b1.FnSettleIsIdempotent", spec := "fnSettleIsIdempotent", apart := false }
def FnSettleIsIdempotentSaid : Prop := fnSettleIsIdempotentRow.holds Try.pinned (OpenSpec.ofChange fnSettleIsIdempotentSpec)

/-- ITS FALSE NEIGHBOUR: 'it returns false'. Refute it at one input. -/
def fnSettleIsIdempotentWrong : ChangeSpec := { name := "fnSettleIsIdempotent", fn := fun _ => fun
  | [d1, d2, d3, d4] => { results := [.lit (.bool false)], args := [d1, d2, d3, d4] }
  | _ => none }
def FnSettleIsIdempotentWrongFalsely : Prop := fnSettleIsIdempotentRow.holds Try.pinned (OpenSpec.ofChange fnSettleIsIdempotentWrong)

/-- 'zzlaws_root_b1.FnSettleForgetsNoLessWithMoreAcks': WHATEVER THE INPUT: true; the input reads as it did. -/
def fnSettleForgetsNoLessWithMoreAcksSpec : ChangeSpec := { name := "fnSettleForgetsNoLessWithMoreAcks", fn := fun _ => fun
  | [d1, d2, d3, d4, d5, d6, d7] => { results := [.lit (.bool true)], args := [d1, d2, d3, d4, d5, d6, d7] }
  | _ => none }
def fnSettleForgetsNoLessWithMoreAcksRow : OpenClaim := { program := "qxb6601533a", sum := "bc04d4f6e6c3716c4725dc2ce5dc609d4faac8c50691fc9a04363ac4bcd8ea98", func := "example.com/antiphon/antiphon/zzlaws_root_b1.FnSettleForgetsNoLessWithMoreAcks", spec := "fnSettleForgetsNoLessWithMoreAcks", apart := false }
def FnSettleForgetsNoLessWithMoreAcksSaid : Prop := fnSettleForgetsNoLessWithMoreAcksRow.holds Try.pinned (OpenSpec.ofChange fnSettleForgetsNoLessWithMoreAcksSpec)

/-- ITS FALSE NEIGHBOUR: 'it returns false'. Refute it at one input. -/
def fnSettleForgetsNoLessWithMoreAcksWrong : ChangeSpec := { name := "fnSettleForgetsNoLessWithMoreAcks", fn := fun _ => fun
  | [d1, d2, d3, d4, d5, d6, d7] => { results := [.lit (.bool false)], args := [d1, d2, d3, d4, d5, d6, d7] }
  | _ => none }
def FnSettleForgetsNoLessWithMoreAcksWrongFalsely : Prop := fnSettleForgetsNoLessWithMoreAcksRow.holds Try.pinned (OpenSpec.ofChange fnSettleForgetsNoLessWithMoreAcksWrong)

end Rows
end Go.Proofs.Qxb6601533a
