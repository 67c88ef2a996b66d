/-
  No cell of these rows narrows 'for every input' (looked for: loops, veiled, ifaces, maps, wideKeys, modest, calm, conditions, laid).
  DERIVED. THE GIVEN ROWS OF THIS SEAT. 6 by the template 'for every input the law returns true; each argument reads behind the call as it read before'; 0 by the template 'total and deterministic' (their statements: Qxb6602850aTotals.lean).
  GIVEN WITH THE SEED: the statements are not yours to turn. If you find one false, say at which input.
  Laid BY PROGRAM, IN A SANDBOX (cutbox-rows.mjs): the forced cells as the released guide's own fill.sh prints them over the translation fdf6f54ff006fc5a… (all of the seat's roots in one cut). By AI agents, Wed Nov 11 2026. No macro, syntax, notation, axiom, sorry.
-/
import Derived.Test.Qxb6602850aChecked
import GoSem.Claim
import GoSem.ClaimJoined
import GoSem.ClaimMapViews
import Derived.JoinedTies
import Derived.KernelRfl
namespace Go.Proofs.Qxb6602850a
/- THE CELL 'sum', in the pinned program and in every row, IS THE sha256 OF THE DUMP (.gsa) THAT Qxb6602850aProg.lean LOADS. Nothing in Lean hashes anything: it is a label: what it is worth is what the hold of that sum in a sandbox is worth. -/
noncomputable def Try.pinned : Pinned := { name := "qxb6602850a", sum := "fdf6f54ff006fc5a2c563fb307205a1cc242a1000f4f816fea6379372daf0dc5", checked := Try.checked }
namespace Rows
def none {H : Type} : Left H := { results := [], args := [] }

/-- 'zzlaws_internal_flag_b1.FnIdentifiersMatchesScanModel': WHATEVER THE INPUT: true; the input reads as it did. -/
def fnIdentifiersMatchesScanModelSpec : ChangeSpec := { name := "fnIdentifiersMatchesScanModel", fn := fun _ => fun
  | [d1, d2] => { results := [.lit (.bool true)], args := [d1, d2] }
  | _ => none }
def fnIdentifiersMatchesScanModelRow : OpenClaim := { program := "qxb6602850a", sum := "fdf6f54ff006fc5a2c563fb307205a1cc242a1000f4f816fea6379372daf0dc5", func := "example.com/flagstone/flagstone/zzlaws_internal_flag_b1.FnIdentifiersMatchesScanModel", spec := "fnIdentifiersMatchesScanModel", inPlace := ["internal/bytealg.IndexByteString", "internal/bytealg.IndexString"], named := ["internal/bytealg.MaxLen"], apart := false }
def FnIdentifiersMatchesScanModelSaid : Prop := fnIdentifiersMatchesScanModelRow.holds Try.pinned (OpenSpec.ofChange fnIdentifiersMatchesScanModelSpec)

/-- ITS FALSE NEIGHBOUR: 'it returns false'. Refute it at one input. -/
def fnIdentifiersMatchesScanModelWrong : ChangeSpec := { name := "fnIdentifiersMatchesScanModel", fn := fun _ => fun
  | [d1, d2] => { results := [.lit (.bool false)], args := [d1, d2] }
  | _ => none }
def FnIdentifiersMatchesScanModelWrongFalsely : Prop := fnIdentifiersMatchesScanModelRow.holds Try.pinned (OpenSpec.ofChange fnIdentifiersMatchesScanModelWrong)

/-- 'zzlaws_internal_flag_b1.FnIdentifiersStrictImpliesLoose': WHATEVER THE INPUT: true; the input reads as it did. -/
def fnIdentifiersStrictImpliesLooseSpec : ChangeSpec := { name := "fnIdentifiersStrictImpliesLoose", fn := fun _ => fun
  | [d] => { results := [.lit (.bool true)], args := [d] }
  | _ => none }
def fnIdentifiersStrictImpliesLooseRow : OpenClaim := { program := "qxb6602850a", sum := "fdf6f54ff006fc5a2c563fb307205a1cc242a1000f4f816fea6379372daf0dc5", func := "example.com/flagstone/flagstone/zzlaws_internal_flag_b1.FnIdentifiersStrictImpliesLoose", spec := "fnIdentifiersStrictImpliesLoose", inPlace := ["internal/bytealg.IndexByteString", "internal/bytealg.IndexString"], named := ["internal/bytealg.MaxLen"], apart := false }
def FnIdentifiersStrictImpliesLooseSaid : Prop := fnIdentifiersStrictImpliesLooseRow.holds Try.pinned (OpenSpec.ofChange fnIdentifiersStrictImpliesLooseSpec)

/-- ITS FALSE NEIGHBOUR: 'it returns false'. Refute it at one input. -/
def fnIdentifiersStrictImpliesLooseWrong : ChangeSpec := { name := "fnIdentifiersStrictImpliesLoose", fn := fun _ => fun
  | [d] => { results := [.lit (.bool false)], args := [d] }
  | _ => none }
def FnIdentifiersStrictImpliesLooseWrongFalsely : Prop := fnIdentifiersStrictImpliesLooseRow.holds Try.pinned (OpenSpec.ofChange fnIdentifiersStrictImpliesLooseWrong)

/-- 'zzlaws_internal_flag_b1.FnIdentifiersJoinByDot': WHATEVER THE INPUT: true; the input reads as it did. -/
def fnIdentifiersJoinByDotSpec : ChangeSpec := { name := "fnIdentifiersJoinByDot", fn := fun _ => fun
  | [d1, d2, d3] => { results := [.lit (.bool true)], args := [d1, d2, d3] }
  | _ => none }
def fnIdentifiersJoinByDotRow : OpenClaim := { program := "qxb6602850a", sum := "fdf6f54ff006fc5a2c563fb307205a1cc242a1000f4f816fea6379372daf0dc5", func := "example.com/flagstone/flagstone/zzlaws_internal_flag_b1.FnIdentifiersJoinByDot", spec := "fnIdentifiersJoinByDot", inPlace := ["internal/bytealg.IndexByteString", "internal/bytealg.IndexString"], named := ["internal/bytealg.MaxLen"], apart := false }
def FnIdentifiersJoinByDotSaid : Prop := fnIdentifiersJoinByDotRow.holds Try.pinned (OpenSpec.ofChange fnIdentifiersJoinByDotSpec)

/-- ITS FALSE NEIGHBOUR: 'it returns false'. Refute it at one input. -/
def fnIdentifiersJoinByDotWrong : ChangeSpec := { name := "fnIdentifiersJoinByDot", fn := fun _ => fun
  | [d1, d2, d3] => { results := [.lit (.bool false)], args := [d1, d2, d3] }
  | _ => none }
def FnIdentifiersJoinByDotWrongFalsely : Prop := fnIdentifiersJoinByDotRow.holds Try.pinned (OpenSpec.ofChange fnIdentifiersJoinByDotWrong)

/-- 'zzlaws_internal_flag_b1.FnParseVersionMatchesModel': WHATEVER THE INPUT: true; the input reads as it did. -/
def fnParseVersionMatchesModelSpec : ChangeSpec := { name := "fnParseVersionMatchesModel", fn := fun _ => fun
  | [d] => { results := [.lit (.bool true)], args := [d] }
  | _ => none }
def fnParseVersionMatchesModelRow : OpenClaim := { program := "qxb6602850a", sum := "fdf6f54ff006fc5a2c563fb307205a1cc242a1000f4f816fea6379372daf0dc5", func := "example.com/flagstone/flagstone/zzlaws_internal_flag_b1.FnParseVersionMatchesModel", spec := "fnParseVersionMatchesModel", inPlace := ["internal/bytealg.IndexByteString", "internal/bytealg.IndexString"], named := ["internal/bytealg.MaxLen"], apart := false }
def FnParseVersionMatchesModelSaid : Prop := fnParseVersionMatchesModelRow.holds Try.pinned (OpenSpec.ofChange fnParseVersionMatchesModelSpec)

/-- ITS FALSE NEIGHBOUR: 'it returns false'. Refute it at one input. -/
def fnParseVersionMatchesModelWrong : ChangeSpec := { name := "fnParseVersionMatchesModel", fn := fun _ => fun
  | [d] => { results := [.lit (.bool false)], args := [d] }
  | _ => none }
def FnParseVersionMatchesModelWrongFalsely : Prop := fnParseVersionMatchesModelRow.holds Try.pinned (OpenSpec.ofChange fnParseVersionMatchesModelWrong)

/-- 'zzlaws_internal_flag_b1.FnParseVersionWritesBackWithoutBuild': WHATEVER THE INPUT: true; the input reads as it did. -/
def fnParseVersionWritesBackWithoutBuildSpec : ChangeSpec := { name := "fnParseVersionWritesBackWithoutBuild", fn := fun _ => fun
  | [d] => { results := [.lit (.bool true)], args := [d] }
  | _ => none }
def fnParseVersionWritesBackWithoutBuildRow : OpenClaim := { program := "qxb6602850a", sum := "fdf6f54ff006fc5a2c563fb307205a1cc242a1000f4f816fea6379372daf0dc5", func := "example.com/flagstone/flagstone/zzlaws_internal_flag_b1.FnParseVersionWritesBackWithoutBuild", spec := "fnParseVersionWritesBackWithoutBuild", inPlace := ["internal/bytealg.IndexByteString", "internal/bytealg.IndexString"], named := ["internal/bytealg.MaxLen"], apart := false }
def FnParseVersionWritesBackWithoutBuildSaid : Prop := fnParseVersionWritesBackWithoutBuildRow.holds Try.pinned (OpenSpec.ofChange fnParseVersionWritesBackWithoutBuildSpec)

/-- ITS FALSE NEIGHBOUR: 'it returns false'. Refute it at one input. -/
def fnParseVersionWritesBackWithoutBuildWrong : ChangeSpec := { name := "fnParseVersionWritesBackWithoutBuild", fn := fun _ => fun
  | [d] => { results := [.lit (.bool false)], args := [d] }
  | _ => none }
def FnParseVersionWritesBackWithoutBuildWrongFalsely : Prop := fnParseVersionWritesBackWithoutBuildRow.holds Try.pinned (OpenSpec.ofChange fnParseVersionWritesBackWithoutBuildWrong)

/-- 'zzlaws_internal_flag_b1.FnParseVersionBuildMetadataIsIgnored': WHATEVER THE INPUT: true; the input reads as it did. -/
def fnParseVersionBuildMetadataIsIgnoredSpec : ChangeSpec := { name := "fnParseVersionBuildMetadataIsIgnored", fn := fun _ => fun
  | [d1, d2] => { results := [.lit (.bool true)], args := [d1, d2] }
  | _ => none }
def fnParseVersionBuildMetadataIsIgnoredRow : OpenClaim := { program := "qxb6602850a", sum := "fdf6f54ff006fc5a2c563fb307205a1cc242a1000f4f816fea6379372daf0dc5", func := "example.com/flagstone/flagstone/zzlaws_internal_flag_b1.FnParseVersionBuildMetadataIsIgnored", spec := "fnParseVersionBuildMetadataIsIgnored", inPlace := ["internal/bytealg.IndexByteString", "internal/bytealg.IndexString"], named := ["internal/bytealg.MaxLen"], apart := false }
def FnParseVersionBuildMetadataIsIgnoredSaid : Prop := fnParseVersionBuildMetadataIsIgnoredRow.holds Try.pinned (OpenSpec.ofChange fnParseVersionBuildMetadataIsIgnoredSpec)

/-- ITS FALSE NEIGHBOUR: 'it returns false'. Refute it at one input. -/
def fnParseVersionBuildMetadataIsIgnoredWrong : ChangeSpec := { name := "fnParseVersionBuildMetadataIsIgnored", fn := fun _ => fun
  | [d1, d2] => { results := [.lit (.bool false)], args := [d1, d2] }
  | _ => none }
def FnParseVersionBuildMetadataIsIgnoredWrongFalsely : Prop := fnParseVersionBuildMetadataIsIgnoredRow.holds Try.pinned (OpenSpec.ofChange fnParseVersionBuildMetadataIsIgnoredWrong)

end Rows
end Go.Proofs.Qxb6602850a
