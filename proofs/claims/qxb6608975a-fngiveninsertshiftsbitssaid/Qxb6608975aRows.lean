/-
  NARROWER THAN 'FOR EVERY INPUT', by the rows' own cells (each row's printed sentence says how): FnMeetSingleValueBothWays: maps · FnMeetReflexiveSymmetric: maps.
  DERIVED. THE GIVEN ROWS OF THIS SEAT. 4 by the template 'for every input the law returns true; each argument reads behind the call as it read before'; 0 by the template 'total and deterministic' (their statements: Qxb6608975aTotals.lean).
  GIVEN WITH THE SEED: the statements are not yours to turn. If you find one false, say at which input.
  Laid BY PROGRAM, IN A SANDBOX (cutbox-rows.mjs): the forced cells as the released guide's own fill.sh prints them over the translation 32a98ce5331cc782… (all of the seat's roots in one cut). By AI agents, Wed Nov 11 2026. No macro, syntax, notation, axiom, sorry.
-/
import Derived.Test.Qxb6608975aChecked
import GoSem.Claim
import GoSem.ClaimJoined
import GoSem.ClaimMapViews
import Derived.JoinedTies
import Derived.KernelRfl
namespace Go.Proofs.Qxb6608975a
/- THE CELL 'sum', in the pinned program and in every row, IS THE sha256 OF THE DUMP (.gsa) THAT Qxb6608975aProg.lean LOADS. Nothing in Lean hashes anything: it is a label: what it is worth is what the hold of that sum in a sandbox is worth. -/
noncomputable def Try.pinned : Pinned := { name := "qxb6608975a", sum := "32a98ce5331cc782f41d67ba1842128a7f2ac4fbb82cf7ecc1438cef31c83bb5", checked := Try.checked }
namespace Rows
def none {H : Type} : Left H := { results := [], args := [] }

/-- 'zzlaws_pkg_hold_b1.FnGivenInsertShiftsBits': WHATEVER THE INPUT: true; the input reads as it did. -/
def fnGivenInsertShiftsBitsSpec : ChangeSpec := { name := "fnGivenInsertShiftsBits", fn := fun _ => fun
  | [d1, d2, d3] => { results := [.lit (.bool true)], args := [d1, d2, d3] }
  | _ => none }
def fnGivenInsertShiftsBitsRow : OpenClaim := { program := "qxb6608975a", sum := "32a98ce5331cc782f41d67ba1842128a7f2ac4fbb82cf7ecc1438cef31c83bb5", func := "example.com/rescind/rescind/zzlaws_pkg_hold_b1.FnGivenInsertShiftsBits", spec := "fnGivenInsertShiftsBits", apart := false }
def FnGivenInsertShiftsBitsSaid : Prop := fnGivenInsertShiftsBitsRow.holds Try.pinned (OpenSpec.ofChange fnGivenInsertShiftsBitsSpec)

/-- ITS FALSE NEIGHBOUR: 'it returns false'. Refute it at one input. -/
def fnGivenInsertShiftsBitsWrong : ChangeSpec := { name := "fnGivenInsertShiftsBits", fn := fun _ => fun
  | [d1, d2, d3] => { results := [.lit (.bool false)], args := [d1, d2, d3] }
  | _ => none }
def FnGivenInsertShiftsBitsWrongFalsely : Prop := fnGivenInsertShiftsBitsRow.holds Try.pinned (OpenSpec.ofChange fnGivenInsertShiftsBitsWrong)

/-- 'zzlaws_pkg_hold_b1.FnGivenReplaceSetsOneBit': WHATEVER THE INPUT: true; the input reads as it did. -/
def fnGivenReplaceSetsOneBitSpec : ChangeSpec := { name := "fnGivenReplaceSetsOneBit", fn := fun _ => fun
  | [d1, d2, d3] => { results := [.lit (.bool true)], args := [d1, d2, d3] }
  | _ => none }
def fnGivenReplaceSetsOneBitRow : OpenClaim := { program := "qxb6608975a", sum := "32a98ce5331cc782f41d67ba1842128a7f2ac4fbb82cf7ecc1438cef31c83bb5", func := "example.com/rescind/rescind/zzlaws_pkg_hold_b1.FnGivenReplaceSetsOneBit", spec := "fnGivenReplaceSetsOneBit", apart := false }
def FnGivenReplaceSetsOneBitSaid : Prop := fnGivenReplaceSetsOneBitRow.holds Try.pinned (OpenSpec.ofChange fnGivenReplaceSetsOneBitSpec)

/-- ITS FALSE NEIGHBOUR: 'it returns false'. Refute it at one input. -/
def fnGivenReplaceSetsOneBitWrong : ChangeSpec := { name := "fnGivenReplaceSetsOneBit", fn := fun _ => fun
  | [d1, d2, d3] => { results := [.lit (.bool false)], args := [d1, d2, d3] }
  | _ => none }
def FnGivenReplaceSetsOneBitWrongFalsely : Prop := fnGivenReplaceSetsOneBitRow.holds Try.pinned (OpenSpec.ofChange fnGivenReplaceSetsOneBitWrong)

/-- 'zzlaws_pkg_hold_b1.FnMeetSingleValueBothWays': WHATEVER THE INPUT: true; the input reads as it did. -/
def fnMeetSingleValueBothWaysSpec : ChangeSpec := { name := "fnMeetSingleValueBothWays", fn := fun _ => fun
  | [d1, d2, d3, d4, d5] => { results := [.lit (.bool true)], args := [d1, d2, d3, d4, d5] }
  | _ => none }
def fnMeetSingleValueBothWaysRow : OpenClaim := { program := "qxb6608975a", sum := "32a98ce5331cc782f41d67ba1842128a7f2ac4fbb82cf7ecc1438cef31c83bb5", func := "example.com/rescind/rescind/zzlaws_pkg_hold_b1.FnMeetSingleValueBothWays", spec := "fnMeetSingleValueBothWays", maps := true, apart := false }
def FnMeetSingleValueBothWaysSaid : Prop := fnMeetSingleValueBothWaysRow.holds Try.pinned (OpenSpec.ofChange fnMeetSingleValueBothWaysSpec)

/-- ITS FALSE NEIGHBOUR: 'it returns false'. Refute it at one input. -/
def fnMeetSingleValueBothWaysWrong : ChangeSpec := { name := "fnMeetSingleValueBothWays", fn := fun _ => fun
  | [d1, d2, d3, d4, d5] => { results := [.lit (.bool false)], args := [d1, d2, d3, d4, d5] }
  | _ => none }
def FnMeetSingleValueBothWaysWrongFalsely : Prop := fnMeetSingleValueBothWaysRow.holds Try.pinned (OpenSpec.ofChange fnMeetSingleValueBothWaysWrong)

/-- 'zzlaws_pkg_hold_b1.FnMeetReflexiveSymmetric': WHATEVER THE INPUT: true; the input reads as it did. -/
def fnMeetReflexiveSymmetricSpec : ChangeSpec := { name := "fnMeetReflexiveSymmetric", fn := fun _ => fun
  | [d1, d2, d3, d4] => { results := [.lit (.bool true)], args := [d1, d2, d3, d4] }
  | _ => none }
def fnMeetReflexiveSymmetricRow : OpenClaim := { program := "qxb6608975a", sum := "32a98ce5331cc782f41d67ba1842128a7f2ac4fbb82cf7ecc1438cef31c83bb5", func := "example.com/rescind/rescind/zzlaws_pkg_hold_b1.FnMeetReflexiveSymmetric", spec := "fnMeetReflexiveSymmetric", maps := true, apart := false }
def FnMeetReflexiveSymmetricSaid : Prop := fnMeetReflexiveSymmetricRow.holds Try.pinned (OpenSpec.ofChange fnMeetReflexiveSymmetricSpec)

/-- ITS FALSE NEIGHBOUR: 'it returns false'. Refute it at one input. -/
def fnMeetReflexiveSymmetricWrong : ChangeSpec := { name := "fnMeetReflexiveSymmetric", fn := fun _ => fun
  | [d1, d2, d3, d4] => { results := [.lit (.bool false)], args := [d1, d2, d3, d4] }
  | _ => none }
def FnMeetReflexiveSymmetricWrongFalsely : Prop := fnMeetReflexiveSymmetricRow.holds Try.pinned (OpenSpec.ofChange fnMeetReflexiveSymmetricWrong)

end Rows
end Go.Proofs.Qxb6608975a
