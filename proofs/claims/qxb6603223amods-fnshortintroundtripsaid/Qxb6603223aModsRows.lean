/-
  No cell of these rows narrows 'for every input' (looked for: loops, veiled, ifaces, maps, wideKeys, modest, calm, conditions, laid).
  DERIVED. THE GIVEN ROWS OF THIS SEAT. 7 by the template 'for every input the law returns true; each argument reads behind the call as it read before'; 0 by the template 'total and deterministic' (their statements: Qxb6603223aModsTotals.lean).
  GIVEN WITH THE SEED: the statements are not yours to turn. If you find one false, say at which input.
  Laid BY PROGRAM, IN A SANDBOX (cutbox-rows.mjs): the forced cells as the released guide's own fill.sh prints them over the translation ba867ef08b2c319a… (all of the seat's roots in one cut). By AI agents, Wed Nov 11 2026. No macro, syntax, notation, axiom, sorry.
-/
import Derived.Test.Qxb6603223aModsChecked
import GoSem.Claim
import GoSem.ClaimJoined
import GoSem.ClaimMapViews
import Derived.JoinedTies
import Derived.KernelRfl
namespace Go.Proofs.Qxb6603223aMods
/- THE CELL 'sum', in the pinned program and in every row, IS THE sha256 OF THE DUMP (.gsa) THAT Qxb6603223aModsProg.lean LOADS. Nothing in Lean hashes anything: it is a label: what it is worth is what the hold of that sum in a sandbox is worth. -/
noncomputable def Trym.pinned : Pinned := { name := "qxb6603223amods", sum := "ba867ef08b2c319a79eae2621da0753a8abcaa7260164fbcbd95b352f492e161", checked := Trym.checked }
namespace Rows
def none {H : Type} : Left H := { results := [], args := [] }

/-- 'zzlaws_pkg_wire_b1.FnHexDigitMatchesTable': WHATEVER THE INPUT: true; the input reads as it did. -/
def fnHexDigitMatchesTableSpec : ChangeSpec := { name := "fnHexDigitMatchesTable", fn := fun _ => fun
  | [d] => { results := [.lit (.bool true)], args := [d] }
  | _ => none }
def fnHexDigitMatchesTableRow : OpenClaim := { program := "qxb6603223amods", sum := "ba867ef08b2c319a79eae2621da0753a8abcaa7260164fbcbd95b352f492e161", func := "example.com/events-into-jobs/events-into-jobs/zzlaws_pkg_wire_b1.FnHexDigitMatchesTable", spec := "fnHexDigitMatchesTable", make := .lifted ["publicsums"], apart := false }
def FnHexDigitMatchesTableSaid : Prop := fnHexDigitMatchesTableRow.holds Trym.pinned (OpenSpec.ofChange fnHexDigitMatchesTableSpec)

/-- ITS FALSE NEIGHBOUR: 'it returns false'. Refute it at one input. -/
def fnHexDigitMatchesTableWrong : ChangeSpec := { name := "fnHexDigitMatchesTable", fn := fun _ => fun
  | [d] => { results := [.lit (.bool false)], args := [d] }
  | _ => none }
def FnHexDigitMatchesTableWrongFalsely : Prop := fnHexDigitMatchesTableRow.holds Trym.pinned (OpenSpec.ofChange fnHexDigitMatchesTableWrong)

/-- 'zzlaws_pkg_wire_b1.FnHexDigitFormatsBack': WHATEVER THE INPUT: true; the input reads as it did. -/
def fnHexDigitFormatsBackSpec : ChangeSpec := { name := "fnHexDigitFormatsBack", fn := fun _ => fun
  | [d] => { results := [.lit (.bool true)], args := [d] }
  | _ => none }
def fnHexDigitFormatsBackRow : OpenClaim := { program := "qxb6603223amods", sum := "ba867ef08b2c319a79eae2621da0753a8abcaa7260164fbcbd95b352f492e161", func := "example.com/events-into-jobs/events-into-jobs/zzlaws_pkg_wire_b1.FnHexDigitFormatsBack", spec := "fnHexDigitFormatsBack", make := .lifted ["publicsums"], apart := false }
def FnHexDigitFormatsBackSaid : Prop := fnHexDigitFormatsBackRow.holds Trym.pinned (OpenSpec.ofChange fnHexDigitFormatsBackSpec)

/-- ITS FALSE NEIGHBOUR: 'it returns false'. Refute it at one input. -/
def fnHexDigitFormatsBackWrong : ChangeSpec := { name := "fnHexDigitFormatsBack", fn := fun _ => fun
  | [d] => { results := [.lit (.bool false)], args := [d] }
  | _ => none }
def FnHexDigitFormatsBackWrongFalsely : Prop := fnHexDigitFormatsBackRow.holds Trym.pinned (OpenSpec.ofChange fnHexDigitFormatsBackWrong)

/-- 'zzlaws_pkg_wire_b1.FnEscapedRuneSpec': WHATEVER THE INPUT: true; the input reads as it did. -/
def fnEscapedRuneSpecSpec : ChangeSpec := { name := "fnEscapedRuneSpec", fn := fun _ => fun
  | [d] => { results := [.lit (.bool true)], args := [d] }
  | _ => none }
def fnEscapedRuneSpecRow : OpenClaim := { program := "qxb6603223amods", sum := "ba867ef08b2c319a79eae2621da0753a8abcaa7260164fbcbd95b352f492e161", func := "example.com/events-into-jobs/events-into-jobs/zzlaws_pkg_wire_b1.FnEscapedRuneSpec", spec := "fnEscapedRuneSpec", make := .lifted ["publicsums"], apart := false }
def FnEscapedRuneSpecSaid : Prop := fnEscapedRuneSpecRow.holds Trym.pinned (OpenSpec.ofChange fnEscapedRuneSpecSpec)

/-- ITS FALSE NEIGHBOUR: 'it returns false'. Refute it at one input. -/
def fnEscapedRuneSpecWrong : ChangeSpec := { name := "fnEscapedRuneSpec", fn := fun _ => fun
  | [d] => { results := [.lit (.bool false)], args := [d] }
  | _ => none }
def FnEscapedRuneSpecWrongFalsely : Prop := fnEscapedRuneSpecRow.holds Trym.pinned (OpenSpec.ofChange fnEscapedRuneSpecWrong)

/-- 'zzlaws_pkg_wire_b1.FnEscapedRuneReadsOnlySixBytes': WHATEVER THE INPUT: true; the input reads as it did. -/
def fnEscapedRuneReadsOnlySixBytesSpec : ChangeSpec := { name := "fnEscapedRuneReadsOnlySixBytes", fn := fun _ => fun
  | [d] => { results := [.lit (.bool true)], args := [d] }
  | _ => none }
def fnEscapedRuneReadsOnlySixBytesRow : OpenClaim := { program := "qxb6603223amods", sum := "ba867ef08b2c319a79eae2621da0753a8abcaa7260164fbcbd95b352f492e161", func := "example.com/events-into-jobs/events-into-jobs/zzlaws_pkg_wire_b1.FnEscapedRuneReadsOnlySixBytes", spec := "fnEscapedRuneReadsOnlySixBytes", make := .lifted ["publicsums"], apart := false }
def FnEscapedRuneReadsOnlySixBytesSaid : Prop := fnEscapedRuneReadsOnlySixBytesRow.holds Trym.pinned (OpenSpec.ofChange fnEscapedRuneReadsOnlySixBytesSpec)

/-- ITS FALSE NEIGHBOUR: 'it returns false'. Refute it at one input. -/
def fnEscapedRuneReadsOnlySixBytesWrong : ChangeSpec := { name := "fnEscapedRuneReadsOnlySixBytes", fn := fun _ => fun
  | [d] => { results := [.lit (.bool false)], args := [d] }
  | _ => none }
def FnEscapedRuneReadsOnlySixBytesWrongFalsely : Prop := fnEscapedRuneReadsOnlySixBytesRow.holds Trym.pinned (OpenSpec.ofChange fnEscapedRuneReadsOnlySixBytesWrong)

/-- 'zzlaws_pkg_wire_b1.FnEscapedRuneRoundTrip': WHATEVER THE INPUT: true; the input reads as it did. -/
def fnEscapedRuneRoundTripSpec : ChangeSpec := { name := "fnEscapedRuneRoundTrip", fn := fun _ => fun
  | [d1, d2, d3] => { results := [.lit (.bool true)], args := [d1, d2, d3] }
  | _ => none }
def fnEscapedRuneRoundTripRow : OpenClaim := { program := "qxb6603223amods", sum := "ba867ef08b2c319a79eae2621da0753a8abcaa7260164fbcbd95b352f492e161", func := "example.com/events-into-jobs/events-into-jobs/zzlaws_pkg_wire_b1.FnEscapedRuneRoundTrip", spec := "fnEscapedRuneRoundTrip", make := .lifted ["publicsums"], apart := false }
def FnEscapedRuneRoundTripSaid : Prop := fnEscapedRuneRoundTripRow.holds Trym.pinned (OpenSpec.ofChange fnEscapedRuneRoundTripSpec)

/-- ITS FALSE NEIGHBOUR: 'it returns false'. Refute it at one input. -/
def fnEscapedRuneRoundTripWrong : ChangeSpec := { name := "fnEscapedRuneRoundTrip", fn := fun _ => fun
  | [d1, d2, d3] => { results := [.lit (.bool false)], args := [d1, d2, d3] }
  | _ => none }
def FnEscapedRuneRoundTripWrongFalsely : Prop := fnEscapedRuneRoundTripRow.holds Trym.pinned (OpenSpec.ofChange fnEscapedRuneRoundTripWrong)

/-- 'zzlaws_pkg_wire_b1.FnShortIntRoundTrip': WHATEVER THE INPUT: true; the input reads as it did. -/
def fnShortIntRoundTripSpec : ChangeSpec := { name := "fnShortIntRoundTrip", fn := fun _ => fun
  | [d] => { results := [.lit (.bool true)], args := [d] }
  | _ => none }
def fnShortIntRoundTripRow : OpenClaim := { program := "qxb6603223amods", sum := "ba867ef08b2c319a79eae2621da0753a8abcaa7260164fbcbd95b352f492e161", func := "example.com/events-into-jobs/events-into-jobs/zzlaws_pkg_wire_b1.FnShortIntRoundTrip", spec := "fnShortIntRoundTrip", make := .lifted ["publicsums"], apart := false }
def FnShortIntRoundTripSaid : Prop := fnShortIntRoundTripRow.holds Trym.pinned (OpenSpec.ofChange fnShortIntRoundTripSpec)

/-- ITS FALSE NEIGHBOUR: 'it returns false'. Refute it at one input. -/
def fnShortIntRoundTripWrong : ChangeSpec := { name := "fnShortIntRoundTrip", fn := fun _ => fun
  | [d] => { results := [.lit (.bool false)], args := [d] }
  | _ => none }
def FnShortIntRoundTripWrongFalsely : Prop := fnShortIntRoundTripRow.holds Trym.pinned (OpenSpec.ofChange fnShortIntRoundTripWrong)

/-- 'zzlaws_pkg_wire_b1.FnShortIntNegation': WHATEVER THE INPUT: true; the input reads as it did. -/
def fnShortIntNegationSpec : ChangeSpec := { name := "fnShortIntNegation", fn := fun _ => fun
  | [d] => { results := [.lit (.bool true)], args := [d] }
  | _ => none }
def fnShortIntNegationRow : OpenClaim := { program := "qxb6603223amods", sum := "ba867ef08b2c319a79eae2621da0753a8abcaa7260164fbcbd95b352f492e161", func := "example.com/events-into-jobs/events-into-jobs/zzlaws_pkg_wire_b1.FnShortIntNegation", spec := "fnShortIntNegation", make := .lifted ["publicsums"], apart := false }
def FnShortIntNegationSaid : Prop := fnShortIntNegationRow.holds Trym.pinned (OpenSpec.ofChange fnShortIntNegationSpec)

/-- ITS FALSE NEIGHBOUR: 'it returns false'. Refute it at one input. -/
def fnShortIntNegationWrong : ChangeSpec := { name := "fnShortIntNegation", fn := fun _ => fun
  | [d] => { results := [.lit (.bool false)], args := [d] }
  | _ => none }
def FnShortIntNegationWrongFalsely : Prop := fnShortIntNegationRow.holds Trym.pinned (OpenSpec.ofChange fnShortIntNegationWrong)

end Rows
end Go.Proofs.Qxb6603223aMods
