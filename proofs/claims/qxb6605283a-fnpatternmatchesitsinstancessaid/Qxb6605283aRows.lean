/-
  No cell of these rows narrows 'for every input' (looked for: loops, veiled, ifaces, maps, wideKeys, modest, calm, conditions, laid).
  DERIVED. THE GIVEN ROWS OF THIS SEAT. 4 by the template 'for every input the law returns true; each argument reads behind the call as it read before'; 0 by the template 'total and deterministic' (their statements: Qxb6605283aTotals.lean).
  GIVEN WITH THE SEED: the statements are not yours to turn. If you find one false, say at which input.
  Laid BY PROGRAM, IN A SANDBOX (cutbox-rows.mjs): the forced cells as the released guide's own fill.sh prints them over the translation 0dac69ca9f7c59ac… (all of the seat's roots in one cut). By AI agents, Wed Nov 11 2026. No macro, syntax, notation, axiom, sorry.
-/
import Derived.Test.Qxb6605283aChecked
import GoSem.Claim
import GoSem.ClaimJoined
import GoSem.ClaimMapViews
import Derived.JoinedTies
import Derived.KernelRfl
namespace Go.Proofs.Qxb6605283a
/- THE CELL 'sum', in the pinned program and in every row, IS THE sha256 OF THE DUMP (.gsa) THAT Qxb6605283aProg.lean LOADS. Nothing in Lean hashes anything: it is a label: what it is worth is what the hold of that sum in a sandbox is worth. -/
noncomputable def Try.pinned : Pinned := { name := "qxb6605283a", sum := "0dac69ca9f7c59ac4104bf996908f04219fec81acb12f655be6d8b3f3ff8cdb9", checked := Try.checked }
namespace Rows
def none {H : Type} : Left H := { results := [], args := [] }

/-- 'zzlaws_route_b1.FnUnhexDigitTable': WHATEVER THE INPUT: true; the input reads as it did. -/
def fnUnhexDigitTableSpec : ChangeSpec := { name := "fnUnhexDigitTable", fn := fun _ => fun
  | [d] => { results := [.lit (.bool true)], args := [d] }
  | _ => none }
def fnUnhexDigitTableRow : OpenClaim := { program := "qxb6605283a", sum := "0dac69ca9f7c59ac4104bf996908f04219fec81acb12f655be6d8b3f3ff8cdb9", func := "example.com/portcullis/portcullis/zzlaws_route_b1.FnUnhexDigitTable", spec := "fnUnhexDigitTable", apart := false }
def FnUnhexDigitTableSaid : Prop := fnUnhexDigitTableRow.holds Try.pinned (OpenSpec.ofChange fnUnhexDigitTableSpec)

/-- ITS FALSE NEIGHBOUR: 'it returns false'. Refute it at one input. -/
def fnUnhexDigitTableWrong : ChangeSpec := { name := "fnUnhexDigitTable", fn := fun _ => fun
  | [d] => { results := [.lit (.bool false)], args := [d] }
  | _ => none }
def FnUnhexDigitTableWrongFalsely : Prop := fnUnhexDigitTableRow.holds Try.pinned (OpenSpec.ofChange fnUnhexDigitTableWrong)

/-- 'zzlaws_route_b1.FnUnhexReadsBackHex': WHATEVER THE INPUT: true; the input reads as it did. -/
def fnUnhexReadsBackHexSpec : ChangeSpec := { name := "fnUnhexReadsBackHex", fn := fun _ => fun
  | [d1, d2] => { results := [.lit (.bool true)], args := [d1, d2] }
  | _ => none }
def fnUnhexReadsBackHexRow : OpenClaim := { program := "qxb6605283a", sum := "0dac69ca9f7c59ac4104bf996908f04219fec81acb12f655be6d8b3f3ff8cdb9", func := "example.com/portcullis/portcullis/zzlaws_route_b1.FnUnhexReadsBackHex", spec := "fnUnhexReadsBackHex", apart := false }
def FnUnhexReadsBackHexSaid : Prop := fnUnhexReadsBackHexRow.holds Try.pinned (OpenSpec.ofChange fnUnhexReadsBackHexSpec)

/-- ITS FALSE NEIGHBOUR: 'it returns false'. Refute it at one input. -/
def fnUnhexReadsBackHexWrong : ChangeSpec := { name := "fnUnhexReadsBackHex", fn := fun _ => fun
  | [d1, d2] => { results := [.lit (.bool false)], args := [d1, d2] }
  | _ => none }
def FnUnhexReadsBackHexWrongFalsely : Prop := fnUnhexReadsBackHexRow.holds Try.pinned (OpenSpec.ofChange fnUnhexReadsBackHexWrong)

/-- 'zzlaws_route_b1.FnPatternMatchBySegmentCount': WHATEVER THE INPUT: true; the input reads as it did. -/
def fnPatternMatchBySegmentCountSpec : ChangeSpec := { name := "fnPatternMatchBySegmentCount", fn := fun _ => fun
  | [d1, d2, d3] => { results := [.lit (.bool true)], args := [d1, d2, d3] }
  | _ => none }
def fnPatternMatchBySegmentCountRow : OpenClaim := { program := "qxb6605283a", sum := "0dac69ca9f7c59ac4104bf996908f04219fec81acb12f655be6d8b3f3ff8cdb9", func := "example.com/portcullis/portcullis/zzlaws_route_b1.FnPatternMatchBySegmentCount", spec := "fnPatternMatchBySegmentCount", inPlace := ["internal/bytealg.IndexByteString", "internal/bytealg.IndexString"], named := ["internal/bytealg.MaxLen"], apart := false }
def FnPatternMatchBySegmentCountSaid : Prop := fnPatternMatchBySegmentCountRow.holds Try.pinned (OpenSpec.ofChange fnPatternMatchBySegmentCountSpec)

/-- ITS FALSE NEIGHBOUR: 'it returns false'. Refute it at one input. -/
def fnPatternMatchBySegmentCountWrong : ChangeSpec := { name := "fnPatternMatchBySegmentCount", fn := fun _ => fun
  | [d1, d2, d3] => { results := [.lit (.bool false)], args := [d1, d2, d3] }
  | _ => none }
def FnPatternMatchBySegmentCountWrongFalsely : Prop := fnPatternMatchBySegmentCountRow.holds Try.pinned (OpenSpec.ofChange fnPatternMatchBySegmentCountWrong)

/-- 'zzlaws_route_b1.FnPatternMatchesItsInstances': WHATEVER THE INPUT: true; the input reads as it did. -/
def fnPatternMatchesItsInstancesSpec : ChangeSpec := { name := "fnPatternMatchesItsInstances", fn := fun _ => fun
  | [d1, d2, d3, d4] => { results := [.lit (.bool true)], args := [d1, d2, d3, d4] }
  | _ => none }
def fnPatternMatchesItsInstancesRow : OpenClaim := { program := "qxb6605283a", sum := "0dac69ca9f7c59ac4104bf996908f04219fec81acb12f655be6d8b3f3ff8cdb9", func := "example.com/portcullis/portcullis/zzlaws_route_b1.FnPatternMatchesItsInstances", spec := "fnPatternMatchesItsInstances", inPlace := ["internal/bytealg.IndexByteString", "internal/bytealg.IndexString"], named := ["internal/bytealg.MaxLen"], apart := false }
def FnPatternMatchesItsInstancesSaid : Prop := fnPatternMatchesItsInstancesRow.holds Try.pinned (OpenSpec.ofChange fnPatternMatchesItsInstancesSpec)

/-- ITS FALSE NEIGHBOUR: 'it returns false'. Refute it at one input. -/
def fnPatternMatchesItsInstancesWrong : ChangeSpec := { name := "fnPatternMatchesItsInstances", fn := fun _ => fun
  | [d1, d2, d3, d4] => { results := [.lit (.bool false)], args := [d1, d2, d3, d4] }
  | _ => none }
def FnPatternMatchesItsInstancesWrongFalsely : Prop := fnPatternMatchesItsInstancesRow.holds Try.pinned (OpenSpec.ofChange fnPatternMatchesItsInstancesWrong)

end Rows
end Go.Proofs.Qxb6605283a
