/-
  No cell of these rows narrows 'for every input' (looked for: loops, veiled, ifaces, maps, wideKeys, modest, calm, conditions, laid).
  DERIVED. THE GIVEN ROWS OF THIS SEAT. 8 by the template 'for every input the law returns true; each argument reads behind the call as it read before'; 0 by the template 'total and deterministic' (their statements: Qxb6600907aTotals.lean).
  GIVEN WITH THE SEED: the statements are not yours to turn. If you find one false, say at which input.
  Laid BY PROGRAM, IN A SANDBOX (cutbox-rows.mjs): the forced cells as the released guide's own fill.sh prints them over the translation ca78689f618786aa… (all of the seat's roots in one cut). By AI agents, Wed Nov 11 2026. No macro, syntax, notation, axiom, sorry.
-/
import Derived.Test.Qxb6600907aChecked
import GoSem.Claim
import GoSem.ClaimJoined
import GoSem.ClaimMapViews
import Derived.JoinedTies
import Derived.KernelRfl
namespace Go.Proofs.Qxb6600907a
/- THE CELL 'sum', in the pinned program and in every row, IS THE sha256 OF THE DUMP (.gsa) THAT Qxb6600907aProg.lean LOADS. Nothing in Lean hashes anything: it is a label: what it is worth is what the hold of that sum in a sandbox is worth. -/
noncomputable def Try.pinned : Pinned := { name := "qxb6600907a", sum := "ca78689f618786aa9e1ea1da4433af0163dfa4c0200b03ae982b208cbe5a53c4", checked := Try.checked }
namespace Rows
def none {H : Type} : Left H := { results := [], args := [] }

/-- 'zzlaws_pkg_jsregexp_b1.FnHexWholeSpec': WHATEVER THE INPUT: true; the input reads as it did. -/
def fnHexWholeSpecSpec : ChangeSpec := { name := "fnHexWholeSpec", fn := fun _ => fun
  | [d1, d2, d3] => { results := [.lit (.bool true)], args := [d1, d2, d3] }
  | _ => none }
def fnHexWholeSpecRow : OpenClaim := { program := "qxb6600907a", sum := "ca78689f618786aa9e1ea1da4433af0163dfa4c0200b03ae982b208cbe5a53c4", func := "example.com/uncaria/uncaria/zzlaws_pkg_jsregexp_b1.FnHexWholeSpec", spec := "fnHexWholeSpec", apart := false }
def FnHexWholeSpecSaid : Prop := fnHexWholeSpecRow.holds Try.pinned (OpenSpec.ofChange fnHexWholeSpecSpec)

/-- ITS FALSE NEIGHBOUR: 'it returns false'. Refute it at one input. -/
def fnHexWholeSpecWrong : ChangeSpec := { name := "fnHexWholeSpec", fn := fun _ => fun
  | [d1, d2, d3] => { results := [.lit (.bool false)], args := [d1, d2, d3] }
  | _ => none }
def FnHexWholeSpecWrongFalsely : Prop := fnHexWholeSpecRow.holds Try.pinned (OpenSpec.ofChange fnHexWholeSpecWrong)

/-- 'zzlaws_pkg_jsregexp_b1.FnHexReadsWhatIsWritten': WHATEVER THE INPUT: true; the input reads as it did. -/
def fnHexReadsWhatIsWrittenSpec : ChangeSpec := { name := "fnHexReadsWhatIsWritten", fn := fun _ => fun
  | [d1, d2, d3, d4, d5] => { results := [.lit (.bool true)], args := [d1, d2, d3, d4, d5] }
  | _ => none }
def fnHexReadsWhatIsWrittenRow : OpenClaim := { program := "qxb6600907a", sum := "ca78689f618786aa9e1ea1da4433af0163dfa4c0200b03ae982b208cbe5a53c4", func := "example.com/uncaria/uncaria/zzlaws_pkg_jsregexp_b1.FnHexReadsWhatIsWritten", spec := "fnHexReadsWhatIsWritten", apart := false }
def FnHexReadsWhatIsWrittenSaid : Prop := fnHexReadsWhatIsWrittenRow.holds Try.pinned (OpenSpec.ofChange fnHexReadsWhatIsWrittenSpec)

/-- ITS FALSE NEIGHBOUR: 'it returns false'. Refute it at one input. -/
def fnHexReadsWhatIsWrittenWrong : ChangeSpec := { name := "fnHexReadsWhatIsWritten", fn := fun _ => fun
  | [d1, d2, d3, d4, d5] => { results := [.lit (.bool false)], args := [d1, d2, d3, d4, d5] }
  | _ => none }
def FnHexReadsWhatIsWrittenWrongFalsely : Prop := fnHexReadsWhatIsWrittenRow.holds Try.pinned (OpenSpec.ofChange fnHexReadsWhatIsWrittenWrong)

/-- 'zzlaws_pkg_jsregexp_b1.FnCharacterEscapeWholeSpec': WHATEVER THE INPUT: true; the input reads as it did. -/
def fnCharacterEscapeWholeSpecSpec : ChangeSpec := { name := "fnCharacterEscapeWholeSpec", fn := fun _ => fun
  | [d1, d2] => { results := [.lit (.bool true)], args := [d1, d2] }
  | _ => none }
def fnCharacterEscapeWholeSpecRow : OpenClaim := { program := "qxb6600907a", sum := "ca78689f618786aa9e1ea1da4433af0163dfa4c0200b03ae982b208cbe5a53c4", func := "example.com/uncaria/uncaria/zzlaws_pkg_jsregexp_b1.FnCharacterEscapeWholeSpec", spec := "fnCharacterEscapeWholeSpec", apart := false }
def FnCharacterEscapeWholeSpecSaid : Prop := fnCharacterEscapeWholeSpecRow.holds Try.pinned (OpenSpec.ofChange fnCharacterEscapeWholeSpecSpec)

/-- ITS FALSE NEIGHBOUR: 'it returns false'. Refute it at one input. -/
def fnCharacterEscapeWholeSpecWrong : ChangeSpec := { name := "fnCharacterEscapeWholeSpec", fn := fun _ => fun
  | [d1, d2] => { results := [.lit (.bool false)], args := [d1, d2] }
  | _ => none }
def FnCharacterEscapeWholeSpecWrongFalsely : Prop := fnCharacterEscapeWholeSpecRow.holds Try.pinned (OpenSpec.ofChange fnCharacterEscapeWholeSpecWrong)

/-- 'zzlaws_pkg_jsregexp_b1.FnCharacterEscapeStaysInBounds': WHATEVER THE INPUT: true; the input reads as it did. -/
def fnCharacterEscapeStaysInBoundsSpec : ChangeSpec := { name := "fnCharacterEscapeStaysInBounds", fn := fun _ => fun
  | [d1, d2] => { results := [.lit (.bool true)], args := [d1, d2] }
  | _ => none }
def fnCharacterEscapeStaysInBoundsRow : OpenClaim := { program := "qxb6600907a", sum := "ca78689f618786aa9e1ea1da4433af0163dfa4c0200b03ae982b208cbe5a53c4", func := "example.com/uncaria/uncaria/zzlaws_pkg_jsregexp_b1.FnCharacterEscapeStaysInBounds", spec := "fnCharacterEscapeStaysInBounds", apart := false }
def FnCharacterEscapeStaysInBoundsSaid : Prop := fnCharacterEscapeStaysInBoundsRow.holds Try.pinned (OpenSpec.ofChange fnCharacterEscapeStaysInBoundsSpec)

/-- ITS FALSE NEIGHBOUR: 'it returns false'. Refute it at one input. -/
def fnCharacterEscapeStaysInBoundsWrong : ChangeSpec := { name := "fnCharacterEscapeStaysInBounds", fn := fun _ => fun
  | [d1, d2] => { results := [.lit (.bool false)], args := [d1, d2] }
  | _ => none }
def FnCharacterEscapeStaysInBoundsWrongFalsely : Prop := fnCharacterEscapeStaysInBoundsRow.holds Try.pinned (OpenSpec.ofChange fnCharacterEscapeStaysInBoundsWrong)

/-- 'zzlaws_pkg_jsregexp_b1.FnCharacterEscapeUnicodeRoundTrip': WHATEVER THE INPUT: true; the input reads as it did. -/
def fnCharacterEscapeUnicodeRoundTripSpec : ChangeSpec := { name := "fnCharacterEscapeUnicodeRoundTrip", fn := fun _ => fun
  | [d1, d2, d3, d4] => { results := [.lit (.bool true)], args := [d1, d2, d3, d4] }
  | _ => none }
def fnCharacterEscapeUnicodeRoundTripRow : OpenClaim := { program := "qxb6600907a", sum := "ca78689f618786aa9e1ea1da4433af0163dfa4c0200b03ae982b208cbe5a53c4", func := "example.com/uncaria/uncaria/zzlaws_pkg_jsregexp_b1.FnCharacterEscapeUnicodeRoundTrip", spec := "fnCharacterEscapeUnicodeRoundTrip", apart := false }
def FnCharacterEscapeUnicodeRoundTripSaid : Prop := fnCharacterEscapeUnicodeRoundTripRow.holds Try.pinned (OpenSpec.ofChange fnCharacterEscapeUnicodeRoundTripSpec)

/-- ITS FALSE NEIGHBOUR: 'it returns false'. Refute it at one input. -/
def fnCharacterEscapeUnicodeRoundTripWrong : ChangeSpec := { name := "fnCharacterEscapeUnicodeRoundTrip", fn := fun _ => fun
  | [d1, d2, d3, d4] => { results := [.lit (.bool false)], args := [d1, d2, d3, d4] }
  | _ => none }
def FnCharacterEscapeUnicodeRoundTripWrongFalsely : Prop := fnCharacterEscapeUnicodeRoundTripRow.holds Try.pinned (OpenSpec.ofChange fnCharacterEscapeUnicodeRoundTripWrong)

/-- 'zzlaws_pkg_jsregexp_b1.FnCountGroupsWholeSpec': WHATEVER THE INPUT: true; the input reads as it did. -/
def fnCountGroupsWholeSpecSpec : ChangeSpec := { name := "fnCountGroupsWholeSpec", fn := fun _ => fun
  | [d] => { results := [.lit (.bool true)], args := [d] }
  | _ => none }
def fnCountGroupsWholeSpecRow : OpenClaim := { program := "qxb6600907a", sum := "ca78689f618786aa9e1ea1da4433af0163dfa4c0200b03ae982b208cbe5a53c4", func := "example.com/uncaria/uncaria/zzlaws_pkg_jsregexp_b1.FnCountGroupsWholeSpec", spec := "fnCountGroupsWholeSpec", apart := false }
def FnCountGroupsWholeSpecSaid : Prop := fnCountGroupsWholeSpecRow.holds Try.pinned (OpenSpec.ofChange fnCountGroupsWholeSpecSpec)

/-- ITS FALSE NEIGHBOUR: 'it returns false'. Refute it at one input. -/
def fnCountGroupsWholeSpecWrong : ChangeSpec := { name := "fnCountGroupsWholeSpec", fn := fun _ => fun
  | [d] => { results := [.lit (.bool false)], args := [d] }
  | _ => none }
def FnCountGroupsWholeSpecWrongFalsely : Prop := fnCountGroupsWholeSpecRow.holds Try.pinned (OpenSpec.ofChange fnCountGroupsWholeSpecWrong)

/-- 'zzlaws_pkg_jsregexp_b1.FnCountGroupsWrapPlain': WHATEVER THE INPUT: true; the input reads as it did. -/
def fnCountGroupsWrapPlainSpec : ChangeSpec := { name := "fnCountGroupsWrapPlain", fn := fun _ => fun
  | [d] => { results := [.lit (.bool true)], args := [d] }
  | _ => none }
def fnCountGroupsWrapPlainRow : OpenClaim := { program := "qxb6600907a", sum := "ca78689f618786aa9e1ea1da4433af0163dfa4c0200b03ae982b208cbe5a53c4", func := "example.com/uncaria/uncaria/zzlaws_pkg_jsregexp_b1.FnCountGroupsWrapPlain", spec := "fnCountGroupsWrapPlain", apart := false }
def FnCountGroupsWrapPlainSaid : Prop := fnCountGroupsWrapPlainRow.holds Try.pinned (OpenSpec.ofChange fnCountGroupsWrapPlainSpec)

/-- ITS FALSE NEIGHBOUR: 'it returns false'. Refute it at one input. -/
def fnCountGroupsWrapPlainWrong : ChangeSpec := { name := "fnCountGroupsWrapPlain", fn := fun _ => fun
  | [d] => { results := [.lit (.bool false)], args := [d] }
  | _ => none }
def FnCountGroupsWrapPlainWrongFalsely : Prop := fnCountGroupsWrapPlainRow.holds Try.pinned (OpenSpec.ofChange fnCountGroupsWrapPlainWrong)

/-- 'zzlaws_pkg_jsregexp_b1.FnCountGroupsAtMostParens': WHATEVER THE INPUT: true; the input reads as it did. -/
def fnCountGroupsAtMostParensSpec : ChangeSpec := { name := "fnCountGroupsAtMostParens", fn := fun _ => fun
  | [d] => { results := [.lit (.bool true)], args := [d] }
  | _ => none }
def fnCountGroupsAtMostParensRow : OpenClaim := { program := "qxb6600907a", sum := "ca78689f618786aa9e1ea1da4433af0163dfa4c0200b03ae982b208cbe5a53c4", func := "example.com/uncaria/uncaria/zzlaws_pkg_jsregexp_b1.FnCountGroupsAtMostParens", spec := "fnCountGroupsAtMostParens", apart := false }
def FnCountGroupsAtMostParensSaid : Prop := fnCountGroupsAtMostParensRow.holds Try.pinned (OpenSpec.ofChange fnCountGroupsAtMostParensSpec)

/-- ITS FALSE NEIGHBOUR: 'it returns false'. Refute it at one input. -/
def fnCountGroupsAtMostParensWrong : ChangeSpec := { name := "fnCountGroupsAtMostParens", fn := fun _ => fun
  | [d] => { results := [.lit (.bool false)], args := [d] }
  | _ => none }
def FnCountGroupsAtMostParensWrongFalsely : Prop := fnCountGroupsAtMostParensRow.holds Try.pinned (OpenSpec.ofChange fnCountGroupsAtMostParensWrong)

end Rows
end Go.Proofs.Qxb6600907a
