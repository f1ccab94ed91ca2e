/-
  No cell of these rows narrows 'for every input' (looked for: loops, veiled, ifaces, maps, wideKeys, modest, calm, conditions, laid).
  DERIVED. THE GIVEN ROWS OF THIS SEAT. 5 by the template 'for every input the law returns true; each argument reads behind the call as it read before'; 0 by the template 'total and deterministic' (their statements: Qxb6616889aTotals.lean).
  GIVEN WITH THE SEED: the statements are not yours to turn. If you find one false, say at which input.
  Laid BY PROGRAM, IN A SANDBOX (cutbox-rows.mjs): the forced cells as the released guide's own fill.sh prints them over the translation 0a2f6683e2030298… (all of the seat's roots in one cut). By AI agents, Wed Nov 11 2026. No macro, syntax, notation, axiom, sorry.
-/
import Derived.Test.Qxb6616889aChecked
import GoSem.Claim
import GoSem.ClaimJoined
import GoSem.ClaimMapViews
import Derived.JoinedTies
import Derived.KernelRfl
namespace Go.Proofs.Qxb6616889a
/- THE CELL 'sum', in the pinned program and in every row, IS THE sha256 OF THE DUMP (.gsa) THAT Qxb6616889aProg.lean LOADS. Nothing in Lean hashes anything: it is a label: what it is worth is what the hold of that sum in a sandbox is worth. -/
noncomputable def Try.pinned : Pinned := { name := "qxb6616889a", sum := "0a2f6683e203029818c25cf3deb3b4b071d974bfa11d27e6dd680d31dcc86d06", checked := Try.checked }
namespace Rows
def none {H : Type} : Left H := { results := [], args := [] }

/-- 'zzlaws_internal_protocol_b1.FnStretchSplitAtAnyPoint': WHATEVER THE INPUT: true; the input reads as it did. -/
def fnStretchSplitAtAnyPointSpec : ChangeSpec := { name := "fnStretchSplitAtAnyPoint", fn := fun _ => fun
  | [d1, d2, d3, d4] => { results := [.lit (.bool true)], args := [d1, d2, d3, d4] }
  | _ => none }
def fnStretchSplitAtAnyPointRow : OpenClaim := { program := "qxb6616889a", sum := "0a2f6683e203029818c25cf3deb3b4b071d974bfa11d27e6dd680d31dcc86d06", func := "example.com/unanimus/unanimus/zzlaws_internal_protocol_b1.FnStretchSplitAtAnyPoint", spec := "fnStretchSplitAtAnyPoint", apart := false }
def FnStretchSplitAtAnyPointSaid : Prop := fnStretchSplitAtAnyPointRow.holds Try.pinned (OpenSpec.ofChange fnStretchSplitAtAnyPointSpec)

/-- ITS FALSE NEIGHBOUR: 'it returns false'. Refute it at one input. -/
def fnStretchSplitAtAnyPointWrong : ChangeSpec := { name := "fnStretchSplitAtAnyPoint", fn := fun _ => fun
  | [d1, d2, d3, d4] => { results := [.lit (.bool false)], args := [d1, d2, d3, d4] }
  | _ => none }
def FnStretchSplitAtAnyPointWrongFalsely : Prop := fnStretchSplitAtAnyPointRow.holds Try.pinned (OpenSpec.ofChange fnStretchSplitAtAnyPointWrong)

/-- 'zzlaws_internal_protocol_b1.FnStretchShiftAndEdges': WHATEVER THE INPUT: true; the input reads as it did. -/
def fnStretchShiftAndEdgesSpec : ChangeSpec := { name := "fnStretchShiftAndEdges", fn := fun _ => fun
  | [d1, d2, d3, d4] => { results := [.lit (.bool true)], args := [d1, d2, d3, d4] }
  | _ => none }
def fnStretchShiftAndEdgesRow : OpenClaim := { program := "qxb6616889a", sum := "0a2f6683e203029818c25cf3deb3b4b071d974bfa11d27e6dd680d31dcc86d06", func := "example.com/unanimus/unanimus/zzlaws_internal_protocol_b1.FnStretchShiftAndEdges", spec := "fnStretchShiftAndEdges", apart := false }
def FnStretchShiftAndEdgesSaid : Prop := fnStretchShiftAndEdgesRow.holds Try.pinned (OpenSpec.ofChange fnStretchShiftAndEdgesSpec)

/-- ITS FALSE NEIGHBOUR: 'it returns false'. Refute it at one input. -/
def fnStretchShiftAndEdgesWrong : ChangeSpec := { name := "fnStretchShiftAndEdges", fn := fun _ => fun
  | [d1, d2, d3, d4] => { results := [.lit (.bool false)], args := [d1, d2, d3, d4] }
  | _ => none }
def FnStretchShiftAndEdgesWrongFalsely : Prop := fnStretchShiftAndEdgesRow.holds Try.pinned (OpenSpec.ofChange fnStretchShiftAndEdgesWrong)

/-- 'zzlaws_internal_protocol_b1.FnEncoderU32OrdersAndConcatenates': WHATEVER THE INPUT: true; the input reads as it did. -/
def fnEncoderU32OrdersAndConcatenatesSpec : ChangeSpec := { name := "fnEncoderU32OrdersAndConcatenates", fn := fun _ => fun
  | [d1, d2, d3] => { results := [.lit (.bool true)], args := [d1, d2, d3] }
  | _ => none }
def fnEncoderU32OrdersAndConcatenatesRow : OpenClaim := { program := "qxb6616889a", sum := "0a2f6683e203029818c25cf3deb3b4b071d974bfa11d27e6dd680d31dcc86d06", func := "example.com/unanimus/unanimus/zzlaws_internal_protocol_b1.FnEncoderU32OrdersAndConcatenates", spec := "fnEncoderU32OrdersAndConcatenates", named := ["encoding/binary.BigEndian"], apart := false }
def FnEncoderU32OrdersAndConcatenatesSaid : Prop := fnEncoderU32OrdersAndConcatenatesRow.holds Try.pinned (OpenSpec.ofChange fnEncoderU32OrdersAndConcatenatesSpec)

/-- ITS FALSE NEIGHBOUR: 'it returns false'. Refute it at one input. -/
def fnEncoderU32OrdersAndConcatenatesWrong : ChangeSpec := { name := "fnEncoderU32OrdersAndConcatenates", fn := fun _ => fun
  | [d1, d2, d3] => { results := [.lit (.bool false)], args := [d1, d2, d3] }
  | _ => none }
def FnEncoderU32OrdersAndConcatenatesWrongFalsely : Prop := fnEncoderU32OrdersAndConcatenatesRow.holds Try.pinned (OpenSpec.ofChange fnEncoderU32OrdersAndConcatenatesWrong)

/-- 'zzlaws_internal_protocol_b1.FnEncodeLogSplitsAtAnyCut': WHATEVER THE INPUT: true; the input reads as it did. -/
def fnEncodeLogSplitsAtAnyCutSpec : ChangeSpec := { name := "fnEncodeLogSplitsAtAnyCut", fn := fun _ => fun
  | [d1, d2, d3, d4, d5] => { results := [.lit (.bool true)], args := [d1, d2, d3, d4, d5] }
  | _ => none }
def fnEncodeLogSplitsAtAnyCutRow : OpenClaim := { program := "qxb6616889a", sum := "0a2f6683e203029818c25cf3deb3b4b071d974bfa11d27e6dd680d31dcc86d06", func := "example.com/unanimus/unanimus/zzlaws_internal_protocol_b1.FnEncodeLogSplitsAtAnyCut", spec := "fnEncodeLogSplitsAtAnyCut", named := ["encoding/binary.BigEndian"], apart := false }
def FnEncodeLogSplitsAtAnyCutSaid : Prop := fnEncodeLogSplitsAtAnyCutRow.holds Try.pinned (OpenSpec.ofChange fnEncodeLogSplitsAtAnyCutSpec)

/-- ITS FALSE NEIGHBOUR: 'it returns false'. Refute it at one input. -/
def fnEncodeLogSplitsAtAnyCutWrong : ChangeSpec := { name := "fnEncodeLogSplitsAtAnyCut", fn := fun _ => fun
  | [d1, d2, d3, d4, d5] => { results := [.lit (.bool false)], args := [d1, d2, d3, d4, d5] }
  | _ => none }
def FnEncodeLogSplitsAtAnyCutWrongFalsely : Prop := fnEncodeLogSplitsAtAnyCutRow.holds Try.pinned (OpenSpec.ofChange fnEncodeLogSplitsAtAnyCutWrong)

/-- 'zzlaws_internal_protocol_b1.FnEncodeLogLengthAndInjective': WHATEVER THE INPUT: true; the input reads as it did. -/
def fnEncodeLogLengthAndInjectiveSpec : ChangeSpec := { name := "fnEncodeLogLengthAndInjective", fn := fun _ => fun
  | [d1, d2, d3, d4] => { results := [.lit (.bool true)], args := [d1, d2, d3, d4] }
  | _ => none }
def fnEncodeLogLengthAndInjectiveRow : OpenClaim := { program := "qxb6616889a", sum := "0a2f6683e203029818c25cf3deb3b4b071d974bfa11d27e6dd680d31dcc86d06", func := "example.com/unanimus/unanimus/zzlaws_internal_protocol_b1.FnEncodeLogLengthAndInjective", spec := "fnEncodeLogLengthAndInjective", named := ["encoding/binary.BigEndian"], apart := false }
def FnEncodeLogLengthAndInjectiveSaid : Prop := fnEncodeLogLengthAndInjectiveRow.holds Try.pinned (OpenSpec.ofChange fnEncodeLogLengthAndInjectiveSpec)

/-- ITS FALSE NEIGHBOUR: 'it returns false'. Refute it at one input. -/
def fnEncodeLogLengthAndInjectiveWrong : ChangeSpec := { name := "fnEncodeLogLengthAndInjective", fn := fun _ => fun
  | [d1, d2, d3, d4] => { results := [.lit (.bool false)], args := [d1, d2, d3, d4] }
  | _ => none }
def FnEncodeLogLengthAndInjectiveWrongFalsely : Prop := fnEncodeLogLengthAndInjectiveRow.holds Try.pinned (OpenSpec.ofChange fnEncodeLogLengthAndInjectiveWrong)

end Rows
end Go.Proofs.Qxb6616889a
