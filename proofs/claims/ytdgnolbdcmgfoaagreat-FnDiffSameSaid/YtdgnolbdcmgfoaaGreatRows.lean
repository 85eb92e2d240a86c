/-
  NARROWER THAN 'FOR EVERY INPUT', by the rows' own cells (each row's printed sentence says how): FnElemMapOrder: loops · FnItemElemKeysAlone: loops · FnSetRecursiveDifference: loops · FnDiffSame: loops · FnSetOrderIsEqual: loops · FnLeavesCover: loops · FnSetParts: loops · FnDifferTurned: loops · FnSetMatched: loops · FnFilterUnion: loops.
  DERIVED. THE GIVEN ROWS OF THIS SEAT. 10 by the template 'for every input the law returns true; each argument reads behind the call as it read before'; 0 by the template 'total and deterministic' (their statements: YtdgnolbdcmgfoaaGreatTotals.lean).
  GIVEN WITH THE SEED: the statements are not yours to turn. If you find one false, say at which input.
  Laid BY PROGRAM, IN A SANDBOX (cutbox-rows.mjs): the forced cells as the released guide's own fill.sh prints them over the translation 568a982e1c7e912e… (all of the seat's roots in one cut). By AI agents, Wed Nov 11 2026. No macro, syntax, notation, axiom, sorry.
-/
import Derived.Test.YtdgnolbdcmgfoaaGreatChecked
import GoSem.Claim
import GoSem.ClaimJoined
import GoSem.ClaimMapViews
import Derived.JoinedTies
import Derived.KernelRfl
namespace Go.Proofs.YtdgnolbdcmgfoaaGreat
/- THE CELL 'sum', in the pinned program and in every row, IS THE sha256 OF THE DUMP (.gsa) THAT YtdgnolbdcmgfoaaGreatProg.lean LOADS. Nothing in Lean hashes anything: it is a label: what it is worth is what the hold of that sum in a sandbox is worth. -/
noncomputable def Tryz.pinned : Pinned := { name := "ytdgnolbdcmgfoaagreat", sum := "568a982e1c7e912e42645f739b259e20a5e75f99bb125035e79f433768f190ec", checked := Tryz.checked }
namespace Rows
def none {H : Type} : Left H := { results := [], args := [] }

/-- 'laws.FnElemMapOrder': WHATEVER THE INPUT: true; the input reads as it did. -/
def fnElemMapOrderSpec : ChangeSpec := { name := "fnElemMapOrder", fn := fun _ => fun
  | [d1, d2, d3] => { results := [.lit (.bool true)], args := [d1, d2, d3] }
  | _ => none }
def fnElemMapOrderRow : OpenClaim := { program := "ytdgnolbdcmgfoaagreat", sum := "568a982e1c7e912e42645f739b259e20a5e75f99bb125035e79f433768f190ec", func := "pub-coparcener/laws.FnElemMapOrder", spec := "fnElemMapOrder", inPlace := ["internal/bytealg.abigen_runtime_cmpstring", "slices.overlaps[pub-coparcener/pub/structuredmerge/fieldpath.pathElementValue]", "math.Float64bits"], unfollowed := true, recurses := true, loops := true, apart := false }
def FnElemMapOrderSaid : Prop := fnElemMapOrderRow.holds Tryz.pinned (OpenSpec.ofChange fnElemMapOrderSpec)

/-- ITS FALSE NEIGHBOUR: 'it returns false'. Refute it at one input. -/
def fnElemMapOrderWrong : ChangeSpec := { name := "fnElemMapOrder", fn := fun _ => fun
  | [d1, d2, d3] => { results := [.lit (.bool false)], args := [d1, d2, d3] }
  | _ => none }
def FnElemMapOrderWrongFalsely : Prop := fnElemMapOrderRow.holds Tryz.pinned (OpenSpec.ofChange fnElemMapOrderWrong)

/-- 'laws.FnItemElemKeysAlone': WHATEVER THE INPUT: true; the input reads as it did. -/
def fnItemElemKeysAloneSpec : ChangeSpec := { name := "fnItemElemKeysAlone", fn := fun _ => fun
  | [d1, d2, d3, d4, d5] => { results := [.lit (.bool true)], args := [d1, d2, d3, d4, d5] }
  | _ => none }
def fnItemElemKeysAloneRow : OpenClaim := { program := "ytdgnolbdcmgfoaagreat", sum := "568a982e1c7e912e42645f739b259e20a5e75f99bb125035e79f433768f190ec", func := "pub-coparcener/laws.FnItemElemKeysAlone", spec := "fnItemElemKeysAlone", unfollowed := true, recurses := true, loops := true, apart := false }
def FnItemElemKeysAloneSaid : Prop := fnItemElemKeysAloneRow.holds Tryz.pinned (OpenSpec.ofChange fnItemElemKeysAloneSpec)

/-- ITS FALSE NEIGHBOUR: 'it returns false'. Refute it at one input. -/
def fnItemElemKeysAloneWrong : ChangeSpec := { name := "fnItemElemKeysAlone", fn := fun _ => fun
  | [d1, d2, d3, d4, d5] => { results := [.lit (.bool false)], args := [d1, d2, d3, d4, d5] }
  | _ => none }
def FnItemElemKeysAloneWrongFalsely : Prop := fnItemElemKeysAloneRow.holds Tryz.pinned (OpenSpec.ofChange fnItemElemKeysAloneWrong)

/-- 'laws.FnSetRecursiveDifference': WHATEVER THE INPUT: true; the input reads as it did. -/
def fnSetRecursiveDifferenceSpec : ChangeSpec := { name := "fnSetRecursiveDifference", fn := fun _ => fun
  | [d1, d2] => { results := [.lit (.bool true)], args := [d1, d2] }
  | _ => none }
def fnSetRecursiveDifferenceRow : OpenClaim := { program := "ytdgnolbdcmgfoaagreat", sum := "568a982e1c7e912e42645f739b259e20a5e75f99bb125035e79f433768f190ec", func := "pub-coparcener/laws.FnSetRecursiveDifference", spec := "fnSetRecursiveDifference", inPlace := ["internal/bytealg.abigen_runtime_cmpstring", "slices.overlaps[pub-coparcener/pub/structuredmerge/fieldpath.PathElement]", "slices.overlaps[pub-coparcener/pub/structuredmerge/fieldpath.setNode]"], unfollowed := true, recurses := true, loops := true, apart := false }
def FnSetRecursiveDifferenceSaid : Prop := fnSetRecursiveDifferenceRow.holds Tryz.pinned (OpenSpec.ofChange fnSetRecursiveDifferenceSpec)

/-- ITS FALSE NEIGHBOUR: 'it returns false'. Refute it at one input. -/
def fnSetRecursiveDifferenceWrong : ChangeSpec := { name := "fnSetRecursiveDifference", fn := fun _ => fun
  | [d1, d2] => { results := [.lit (.bool false)], args := [d1, d2] }
  | _ => none }
def FnSetRecursiveDifferenceWrongFalsely : Prop := fnSetRecursiveDifferenceRow.holds Tryz.pinned (OpenSpec.ofChange fnSetRecursiveDifferenceWrong)

/-- 'laws.FnDiffSame': WHATEVER THE INPUT: true; the input reads as it did. -/
def fnDiffSameSpec : ChangeSpec := { name := "fnDiffSame", fn := fun _ => fun
  | [d] => { results := [.lit (.bool true)], args := [d] }
  | _ => none }
def fnDiffSameRow : OpenClaim := { program := "ytdgnolbdcmgfoaagreat", sum := "568a982e1c7e912e42645f739b259e20a5e75f99bb125035e79f433768f190ec", func := "pub-coparcener/laws.FnDiffSame", spec := "fnDiffSame", inPlace := ["internal/bytealg.abigen_runtime_cmpstring", "slices.overlaps[pub-coparcener/pub/structuredmerge/fieldpath.PathElement]", "slices.overlaps[pub-coparcener/pub/structuredmerge/fieldpath.setNode]"], unfollowed := true, recurses := true, loops := true, apart := false }
def FnDiffSameSaid : Prop := fnDiffSameRow.holds Tryz.pinned (OpenSpec.ofChange fnDiffSameSpec)

/-- ITS FALSE NEIGHBOUR: 'it returns false'. Refute it at one input. -/
def fnDiffSameWrong : ChangeSpec := { name := "fnDiffSame", fn := fun _ => fun
  | [d] => { results := [.lit (.bool false)], args := [d] }
  | _ => none }
def FnDiffSameWrongFalsely : Prop := fnDiffSameRow.holds Tryz.pinned (OpenSpec.ofChange fnDiffSameWrong)

/-- 'laws.FnSetOrderIsEqual': WHATEVER THE INPUT: true; the input reads as it did. -/
def fnSetOrderIsEqualSpec : ChangeSpec := { name := "fnSetOrderIsEqual", fn := fun _ => fun
  | [d1, d2] => { results := [.lit (.bool true)], args := [d1, d2] }
  | _ => none }
def fnSetOrderIsEqualRow : OpenClaim := { program := "ytdgnolbdcmgfoaagreat", sum := "568a982e1c7e912e42645f739b259e20a5e75f99bb125035e79f433768f190ec", func := "pub-coparcener/laws.FnSetOrderIsEqual", spec := "fnSetOrderIsEqual", inPlace := ["internal/bytealg.abigen_runtime_cmpstring", "slices.overlaps[pub-coparcener/pub/structuredmerge/fieldpath.PathElement]", "slices.overlaps[pub-coparcener/pub/structuredmerge/fieldpath.setNode]"], unfollowed := true, recurses := true, loops := true, apart := false }
def FnSetOrderIsEqualSaid : Prop := fnSetOrderIsEqualRow.holds Tryz.pinned (OpenSpec.ofChange fnSetOrderIsEqualSpec)

/-- ITS FALSE NEIGHBOUR: 'it returns false'. Refute it at one input. -/
def fnSetOrderIsEqualWrong : ChangeSpec := { name := "fnSetOrderIsEqual", fn := fun _ => fun
  | [d1, d2] => { results := [.lit (.bool false)], args := [d1, d2] }
  | _ => none }
def FnSetOrderIsEqualWrongFalsely : Prop := fnSetOrderIsEqualRow.holds Tryz.pinned (OpenSpec.ofChange fnSetOrderIsEqualWrong)

/-- 'laws.FnLeavesCover': WHATEVER THE INPUT: true; the input reads as it did. -/
def fnLeavesCoverSpec : ChangeSpec := { name := "fnLeavesCover", fn := fun _ => fun
  | [d] => { results := [.lit (.bool true)], args := [d] }
  | _ => none }
def fnLeavesCoverRow : OpenClaim := { program := "ytdgnolbdcmgfoaagreat", sum := "568a982e1c7e912e42645f739b259e20a5e75f99bb125035e79f433768f190ec", func := "pub-coparcener/laws.FnLeavesCover", spec := "fnLeavesCover", inPlace := ["internal/bytealg.abigen_runtime_cmpstring", "slices.overlaps[pub-coparcener/pub/structuredmerge/fieldpath.PathElement]", "slices.overlaps[pub-coparcener/pub/structuredmerge/fieldpath.setNode]"], unfollowed := true, recurses := true, loops := true, apart := false }
def FnLeavesCoverSaid : Prop := fnLeavesCoverRow.holds Tryz.pinned (OpenSpec.ofChange fnLeavesCoverSpec)

/-- ITS FALSE NEIGHBOUR: 'it returns false'. Refute it at one input. -/
def fnLeavesCoverWrong : ChangeSpec := { name := "fnLeavesCover", fn := fun _ => fun
  | [d] => { results := [.lit (.bool false)], args := [d] }
  | _ => none }
def FnLeavesCoverWrongFalsely : Prop := fnLeavesCoverRow.holds Tryz.pinned (OpenSpec.ofChange fnLeavesCoverWrong)

/-- 'laws.FnSetParts': WHATEVER THE INPUT: true; the input reads as it did. -/
def fnSetPartsSpec : ChangeSpec := { name := "fnSetParts", fn := fun _ => fun
  | [d1, d2] => { results := [.lit (.bool true)], args := [d1, d2] }
  | _ => none }
def fnSetPartsRow : OpenClaim := { program := "ytdgnolbdcmgfoaagreat", sum := "568a982e1c7e912e42645f739b259e20a5e75f99bb125035e79f433768f190ec", func := "pub-coparcener/laws.FnSetParts", spec := "fnSetParts", inPlace := ["internal/bytealg.abigen_runtime_cmpstring", "slices.overlaps[pub-coparcener/pub/structuredmerge/fieldpath.PathElement]", "slices.overlaps[pub-coparcener/pub/structuredmerge/fieldpath.setNode]"], unfollowed := true, recurses := true, loops := true, apart := false }
def FnSetPartsSaid : Prop := fnSetPartsRow.holds Tryz.pinned (OpenSpec.ofChange fnSetPartsSpec)

/-- ITS FALSE NEIGHBOUR: 'it returns false'. Refute it at one input. -/
def fnSetPartsWrong : ChangeSpec := { name := "fnSetParts", fn := fun _ => fun
  | [d1, d2] => { results := [.lit (.bool false)], args := [d1, d2] }
  | _ => none }
def FnSetPartsWrongFalsely : Prop := fnSetPartsRow.holds Tryz.pinned (OpenSpec.ofChange fnSetPartsWrong)

/-- 'laws.FnDifferTurned': WHATEVER THE INPUT: true; the input reads as it did. -/
def fnDifferTurnedSpec : ChangeSpec := { name := "fnDifferTurned", fn := fun _ => fun
  | [d1, d2, d3, d4] => { results := [.lit (.bool true)], args := [d1, d2, d3, d4] }
  | _ => none }
def fnDifferTurnedRow : OpenClaim := { program := "ytdgnolbdcmgfoaagreat", sum := "568a982e1c7e912e42645f739b259e20a5e75f99bb125035e79f433768f190ec", func := "pub-coparcener/laws.FnDifferTurned", spec := "fnDifferTurned", inPlace := ["internal/bytealg.abigen_runtime_cmpstring", "slices.overlaps[pub-coparcener/pub/structuredmerge/fieldpath.PathElement]", "slices.overlaps[pub-coparcener/pub/structuredmerge/fieldpath.setNode]"], unfollowed := true, recurses := true, loops := true, apart := false }
def FnDifferTurnedSaid : Prop := fnDifferTurnedRow.holds Tryz.pinned (OpenSpec.ofChange fnDifferTurnedSpec)

/-- ITS FALSE NEIGHBOUR: 'it returns false'. Refute it at one input. -/
def fnDifferTurnedWrong : ChangeSpec := { name := "fnDifferTurned", fn := fun _ => fun
  | [d1, d2, d3, d4] => { results := [.lit (.bool false)], args := [d1, d2, d3, d4] }
  | _ => none }
def FnDifferTurnedWrongFalsely : Prop := fnDifferTurnedRow.holds Tryz.pinned (OpenSpec.ofChange fnDifferTurnedWrong)

/-- 'laws.FnSetMatched': WHATEVER THE INPUT: true; the input reads as it did. -/
def fnSetMatchedSpec : ChangeSpec := { name := "fnSetMatched", fn := fun _ => fun
  | [d1, d2] => { results := [.lit (.bool true)], args := [d1, d2] }
  | _ => none }
def fnSetMatchedRow : OpenClaim := { program := "ytdgnolbdcmgfoaagreat", sum := "568a982e1c7e912e42645f739b259e20a5e75f99bb125035e79f433768f190ec", func := "pub-coparcener/laws.FnSetMatched", spec := "fnSetMatched", inPlace := ["internal/bytealg.abigen_runtime_cmpstring", "slices.overlaps[pub-coparcener/pub/structuredmerge/fieldpath.PathElement]", "slices.overlaps[pub-coparcener/pub/structuredmerge/fieldpath.setNode]"], unfollowed := true, recurses := true, loops := true, apart := false }
def FnSetMatchedSaid : Prop := fnSetMatchedRow.holds Tryz.pinned (OpenSpec.ofChange fnSetMatchedSpec)

/-- ITS FALSE NEIGHBOUR: 'it returns false'. Refute it at one input. -/
def fnSetMatchedWrong : ChangeSpec := { name := "fnSetMatched", fn := fun _ => fun
  | [d1, d2] => { results := [.lit (.bool false)], args := [d1, d2] }
  | _ => none }
def FnSetMatchedWrongFalsely : Prop := fnSetMatchedRow.holds Tryz.pinned (OpenSpec.ofChange fnSetMatchedWrong)

/-- 'laws.FnFilterUnion': WHATEVER THE INPUT: true; the input reads as it did. -/
def fnFilterUnionSpec : ChangeSpec := { name := "fnFilterUnion", fn := fun _ => fun
  | [d1, d2, d3] => { results := [.lit (.bool true)], args := [d1, d2, d3] }
  | _ => none }
def fnFilterUnionRow : OpenClaim := { program := "ytdgnolbdcmgfoaagreat", sum := "568a982e1c7e912e42645f739b259e20a5e75f99bb125035e79f433768f190ec", func := "pub-coparcener/laws.FnFilterUnion", spec := "fnFilterUnion", inPlace := ["internal/bytealg.abigen_runtime_cmpstring", "slices.overlaps[pub-coparcener/pub/structuredmerge/fieldpath.PathElement]", "slices.overlaps[pub-coparcener/pub/structuredmerge/fieldpath.setNode]"], unfollowed := true, recurses := true, loops := true, apart := false }
def FnFilterUnionSaid : Prop := fnFilterUnionRow.holds Tryz.pinned (OpenSpec.ofChange fnFilterUnionSpec)

/-- ITS FALSE NEIGHBOUR: 'it returns false'. Refute it at one input. -/
def fnFilterUnionWrong : ChangeSpec := { name := "fnFilterUnion", fn := fun _ => fun
  | [d1, d2, d3] => { results := [.lit (.bool false)], args := [d1, d2, d3] }
  | _ => none }
def FnFilterUnionWrongFalsely : Prop := fnFilterUnionRow.holds Tryz.pinned (OpenSpec.ofChange fnFilterUnionWrong)

/- THE SECOND FORM. 'bulk': how many values and letters a reading holds, each counted each time it is reached (what is shared counts as often as it is met; a slice's spare places count too). A statement '..UptoSaid' is the law's where the arguments, and the package variables that the reading takes, are together of bulk at most 1048576: NARROWER than '..Said'. Prove '..Said' where nothing that the law and all that it calls make is longer than what came in: it says more and counts as full. Else prove '..UptoSaid'. A law counts once. -/
mutual
def uptoBulk {H : Type} : DataW H → Nat
  | .lit (.string bytes) => bytes.length + 1
  | .lit _ => 1
  | .nil => 1
  | .ptr d => uptoBulk d + 1
  | .slice elems spare => uptoBulkAll elems + uptoBulkAll spare + 1
  | .agg parts => uptoBulkAll parts + 1
  | .iface _ d => uptoBulk d + 1
  | .map entries => uptoBulkEntries entries + 1
  | .held _ => 1
def uptoBulkAll {H : Type} : List (DataW H) → Nat
  | [] => 0
  | d :: r => uptoBulk d + uptoBulkAll r
def uptoBulkEntries {H : Type} : List (Lit × DataW H) → Nat
  | [] => 0
  | x :: r => uptoBulkEntry x + uptoBulkEntries r
def uptoBulkEntry {H : Type} : Lit × DataW H → Nat
  | (.string bytes, d) => bytes.length + uptoBulk d + 1
  | (_, d) => uptoBulk d + 1
 end
def uptoSmall : (H : Type) → List (DataW H) → Bool := fun _ ds => decide (uptoBulkAll ds ≤ 1048576)
def OpenSpec.upto (s : _root_.Go.ChangeSpec) : _root_.Go.OpenSpec := { _root_.Go.OpenSpec.ofChange s with cond := some uptoSmall }

/-- 'laws.FnElemMapOrder', WHERE WHAT IT READS IS OF BULK AT MOST 1048576: true; the input reads as it did. -/
def fnElemMapOrderUptoRow : OpenClaim := { program := "ytdgnolbdcmgfoaagreat", sum := "568a982e1c7e912e42645f739b259e20a5e75f99bb125035e79f433768f190ec", func := "pub-coparcener/laws.FnElemMapOrder", spec := "fnElemMapOrder", inPlace := ["internal/bytealg.abigen_runtime_cmpstring", "slices.overlaps[pub-coparcener/pub/structuredmerge/fieldpath.pathElementValue]", "math.Float64bits"], unfollowed := true, recurses := true, loops := true, apart := false, narrowed := true }
def FnElemMapOrderUptoSaid : Prop := fnElemMapOrderUptoRow.holds Tryz.pinned (OpenSpec.upto fnElemMapOrderSpec)

/-- 'laws.FnItemElemKeysAlone', WHERE WHAT IT READS IS OF BULK AT MOST 1048576: true; the input reads as it did. -/
def fnItemElemKeysAloneUptoRow : OpenClaim := { program := "ytdgnolbdcmgfoaagreat", sum := "568a982e1c7e912e42645f739b259e20a5e75f99bb125035e79f433768f190ec", func := "pub-coparcener/laws.FnItemElemKeysAlone", spec := "fnItemElemKeysAlone", unfollowed := true, recurses := true, loops := true, apart := false, narrowed := true }
def FnItemElemKeysAloneUptoSaid : Prop := fnItemElemKeysAloneUptoRow.holds Tryz.pinned (OpenSpec.upto fnItemElemKeysAloneSpec)

/-- 'laws.FnSetRecursiveDifference', WHERE WHAT IT READS IS OF BULK AT MOST 1048576: true; the input reads as it did. -/
def fnSetRecursiveDifferenceUptoRow : OpenClaim := { program := "ytdgnolbdcmgfoaagreat", sum := "568a982e1c7e912e42645f739b259e20a5e75f99bb125035e79f433768f190ec", func := "pub-coparcener/laws.FnSetRecursiveDifference", spec := "fnSetRecursiveDifference", inPlace := ["internal/bytealg.abigen_runtime_cmpstring", "slices.overlaps[pub-coparcener/pub/structuredmerge/fieldpath.PathElement]", "slices.overlaps[pub-coparcener/pub/structuredmerge/fieldpath.setNode]"], unfollowed := true, recurses := true, loops := true, apart := false, narrowed := true }
def FnSetRecursiveDifferenceUptoSaid : Prop := fnSetRecursiveDifferenceUptoRow.holds Tryz.pinned (OpenSpec.upto fnSetRecursiveDifferenceSpec)

/-- 'laws.FnDiffSame', WHERE WHAT IT READS IS OF BULK AT MOST 1048576: true; the input reads as it did. -/
def fnDiffSameUptoRow : OpenClaim := { program := "ytdgnolbdcmgfoaagreat", sum := "568a982e1c7e912e42645f739b259e20a5e75f99bb125035e79f433768f190ec", func := "pub-coparcener/laws.FnDiffSame", spec := "fnDiffSame", inPlace := ["internal/bytealg.abigen_runtime_cmpstring", "slices.overlaps[pub-coparcener/pub/structuredmerge/fieldpath.PathElement]", "slices.overlaps[pub-coparcener/pub/structuredmerge/fieldpath.setNode]"], unfollowed := true, recurses := true, loops := true, apart := false, narrowed := true }
def FnDiffSameUptoSaid : Prop := fnDiffSameUptoRow.holds Tryz.pinned (OpenSpec.upto fnDiffSameSpec)

/-- 'laws.FnSetOrderIsEqual', WHERE WHAT IT READS IS OF BULK AT MOST 1048576: true; the input reads as it did. -/
def fnSetOrderIsEqualUptoRow : OpenClaim := { program := "ytdgnolbdcmgfoaagreat", sum := "568a982e1c7e912e42645f739b259e20a5e75f99bb125035e79f433768f190ec", func := "pub-coparcener/laws.FnSetOrderIsEqual", spec := "fnSetOrderIsEqual", inPlace := ["internal/bytealg.abigen_runtime_cmpstring", "slices.overlaps[pub-coparcener/pub/structuredmerge/fieldpath.PathElement]", "slices.overlaps[pub-coparcener/pub/structuredmerge/fieldpath.setNode]"], unfollowed := true, recurses := true, loops := true, apart := false, narrowed := true }
def FnSetOrderIsEqualUptoSaid : Prop := fnSetOrderIsEqualUptoRow.holds Tryz.pinned (OpenSpec.upto fnSetOrderIsEqualSpec)

/-- 'laws.FnLeavesCover', WHERE WHAT IT READS IS OF BULK AT MOST 1048576: true; the input reads as it did. -/
def fnLeavesCoverUptoRow : OpenClaim := { program := "ytdgnolbdcmgfoaagreat", sum := "568a982e1c7e912e42645f739b259e20a5e75f99bb125035e79f433768f190ec", func := "pub-coparcener/laws.FnLeavesCover", spec := "fnLeavesCover", inPlace := ["internal/bytealg.abigen_runtime_cmpstring", "slices.overlaps[pub-coparcener/pub/structuredmerge/fieldpath.PathElement]", "slices.overlaps[pub-coparcener/pub/structuredmerge/fieldpath.setNode]"], unfollowed := true, recurses := true, loops := true, apart := false, narrowed := true }
def FnLeavesCoverUptoSaid : Prop := fnLeavesCoverUptoRow.holds Tryz.pinned (OpenSpec.upto fnLeavesCoverSpec)

/-- 'laws.FnSetParts', WHERE WHAT IT READS IS OF BULK AT MOST 1048576: true; the input reads as it did. -/
def fnSetPartsUptoRow : OpenClaim := { program := "ytdgnolbdcmgfoaagreat", sum := "568a982e1c7e912e42645f739b259e20a5e75f99bb125035e79f433768f190ec", func := "pub-coparcener/laws.FnSetParts", spec := "fnSetParts", inPlace := ["internal/bytealg.abigen_runtime_cmpstring", "slices.overlaps[pub-coparcener/pub/structuredmerge/fieldpath.PathElement]", "slices.overlaps[pub-coparcener/pub/structuredmerge/fieldpath.setNode]"], unfollowed := true, recurses := true, loops := true, apart := false, narrowed := true }
def FnSetPartsUptoSaid : Prop := fnSetPartsUptoRow.holds Tryz.pinned (OpenSpec.upto fnSetPartsSpec)

/-- 'laws.FnDifferTurned', WHERE WHAT IT READS IS OF BULK AT MOST 1048576: true; the input reads as it did. -/
def fnDifferTurnedUptoRow : OpenClaim := { program := "ytdgnolbdcmgfoaagreat", sum := "568a982e1c7e912e42645f739b259e20a5e75f99bb125035e79f433768f190ec", func := "pub-coparcener/laws.FnDifferTurned", spec := "fnDifferTurned", inPlace := ["internal/bytealg.abigen_runtime_cmpstring", "slices.overlaps[pub-coparcener/pub/structuredmerge/fieldpath.PathElement]", "slices.overlaps[pub-coparcener/pub/structuredmerge/fieldpath.setNode]"], unfollowed := true, recurses := true, loops := true, apart := false, narrowed := true }
def FnDifferTurnedUptoSaid : Prop := fnDifferTurnedUptoRow.holds Tryz.pinned (OpenSpec.upto fnDifferTurnedSpec)

/-- 'laws.FnSetMatched', WHERE WHAT IT READS IS OF BULK AT MOST 1048576: true; the input reads as it did. -/
def fnSetMatchedUptoRow : OpenClaim := { program := "ytdgnolbdcmgfoaagreat", sum := "568a982e1c7e912e42645f739b259e20a5e75f99bb125035e79f433768f190ec", func := "pub-coparcener/laws.FnSetMatched", spec := "fnSetMatched", inPlace := ["internal/bytealg.abigen_runtime_cmpstring", "slices.overlaps[pub-coparcener/pub/structuredmerge/fieldpath.PathElement]", "slices.overlaps[pub-coparcener/pub/structuredmerge/fieldpath.setNode]"], unfollowed := true, recurses := true, loops := true, apart := false, narrowed := true }
def FnSetMatchedUptoSaid : Prop := fnSetMatchedUptoRow.holds Tryz.pinned (OpenSpec.upto fnSetMatchedSpec)

/-- 'laws.FnFilterUnion', WHERE WHAT IT READS IS OF BULK AT MOST 1048576: true; the input reads as it did. -/
def fnFilterUnionUptoRow : OpenClaim := { program := "ytdgnolbdcmgfoaagreat", sum := "568a982e1c7e912e42645f739b259e20a5e75f99bb125035e79f433768f190ec", func := "pub-coparcener/laws.FnFilterUnion", spec := "fnFilterUnion", inPlace := ["internal/bytealg.abigen_runtime_cmpstring", "slices.overlaps[pub-coparcener/pub/structuredmerge/fieldpath.PathElement]", "slices.overlaps[pub-coparcener/pub/structuredmerge/fieldpath.setNode]"], unfollowed := true, recurses := true, loops := true, apart := false, narrowed := true }
def FnFilterUnionUptoSaid : Prop := fnFilterUnionUptoRow.holds Tryz.pinned (OpenSpec.upto fnFilterUnionSpec)

end Rows
end Go.Proofs.YtdgnolbdcmgfoaaGreat
