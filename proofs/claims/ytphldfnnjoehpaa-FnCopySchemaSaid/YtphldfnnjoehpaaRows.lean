/-
  NARROWER THAN 'FOR EVERY INPUT', by the rows' own cells (each row's printed sentence says how): FnMapSize: loops · FnValueRoundTrip: loops · FnFindFieldLast: loops · FnCopySchema: loops · FnMakePath: loops · FnRefsEqual: loops · FnEqualElems: loops · FnZipCounts: loops · FnMapSteps: loops · FnLessAgrees: loops.
  DERIVED. THE GIVEN ROWS OF THIS SEAT. 11 by the template 'for every input the law returns true; each argument reads behind the call as it read before'; 0 by the template 'total and deterministic' (their statements: YtphldfnnjoehpaaTotals.lean).
  GIVEN WITH THE SEED: the statements are not yours to turn. If you find one false, say at which input.
  Laid BY PROGRAM, IN A SANDBOX (cutbox-rows.mjs): the forced cells as the released guide's own fill.sh prints them over the translation 814a7937135bfe9c… (all of the seat's roots in one cut). By AI agents, Wed Nov 11 2026. No macro, syntax, notation, axiom, sorry.
-/
import Derived.Test.YtphldfnnjoehpaaChecked
import GoSem.Claim
import GoSem.ClaimJoined
import GoSem.ClaimMapViews
import Derived.JoinedTies
import Derived.KernelRfl
namespace Go.Proofs.Ytphldfnnjoehpaa
/- THE CELL 'sum', in the pinned program and in every row, IS THE sha256 OF THE DUMP (.gsa) THAT YtphldfnnjoehpaaProg.lean LOADS. Nothing in Lean hashes anything: it is a label: what it is worth is what the hold of that sum in a sandbox is worth. -/
noncomputable def Try.pinned : Pinned := { name := "ytphldfnnjoehpaa", sum := "814a7937135bfe9c04886f70062801f092342813052495270a8605e46a129d31", checked := Try.checked }
namespace Rows
def none {H : Type} : Left H := { results := [], args := [] }

/-- 'laws.FnMapSize': WHATEVER THE INPUT: true; the input reads as it did. -/
def fnMapSizeSpec : ChangeSpec := { name := "fnMapSize", fn := fun _ => fun
  | [d] => { results := [.lit (.bool true)], args := [d] }
  | _ => none }
def fnMapSizeRow : OpenClaim := { program := "ytphldfnnjoehpaa", sum := "814a7937135bfe9c04886f70062801f092342813052495270a8605e46a129d31", func := "pub-coparcener/laws.FnMapSize", spec := "fnMapSize", unfollowed := true, recurses := true, loops := true, apart := false }
def FnMapSizeSaid : Prop := fnMapSizeRow.holds Try.pinned (OpenSpec.ofChange fnMapSizeSpec)

/-- ITS FALSE NEIGHBOUR: 'it returns false'. Refute it at one input. -/
def fnMapSizeWrong : ChangeSpec := { name := "fnMapSize", fn := fun _ => fun
  | [d] => { results := [.lit (.bool false)], args := [d] }
  | _ => none }
def FnMapSizeWrongFalsely : Prop := fnMapSizeRow.holds Try.pinned (OpenSpec.ofChange fnMapSizeWrong)

/-- 'laws.FnValueRoundTrip': WHATEVER THE INPUT: true; the input reads as it did. -/
def fnValueRoundTripSpec : ChangeSpec := { name := "fnValueRoundTrip", fn := fun _ => fun
  | [d] => { results := [.lit (.bool true)], args := [d] }
  | _ => none }
def fnValueRoundTripRow : OpenClaim := { program := "ytphldfnnjoehpaa", sum := "814a7937135bfe9c04886f70062801f092342813052495270a8605e46a129d31", func := "pub-coparcener/laws.FnValueRoundTrip", spec := "fnValueRoundTrip", inPlace := ["math.Float64bits"], unfollowed := true, recurses := true, loops := true, apart := false }
def FnValueRoundTripSaid : Prop := fnValueRoundTripRow.holds Try.pinned (OpenSpec.ofChange fnValueRoundTripSpec)

/-- ITS FALSE NEIGHBOUR: 'it returns false'. Refute it at one input. -/
def fnValueRoundTripWrong : ChangeSpec := { name := "fnValueRoundTrip", fn := fun _ => fun
  | [d] => { results := [.lit (.bool false)], args := [d] }
  | _ => none }
def FnValueRoundTripWrongFalsely : Prop := fnValueRoundTripRow.holds Try.pinned (OpenSpec.ofChange fnValueRoundTripWrong)

/-- 'laws.FnFindFieldLast': WHATEVER THE INPUT: true; the input reads as it did. -/
def fnFindFieldLastSpec : ChangeSpec := { name := "fnFindFieldLast", fn := fun _ => fun
  | [d1, d2] => { results := [.lit (.bool true)], args := [d1, d2] }
  | _ => none }
def fnFindFieldLastRow : OpenClaim := { program := "ytphldfnnjoehpaa", sum := "814a7937135bfe9c04886f70062801f092342813052495270a8605e46a129d31", func := "pub-coparcener/laws.FnFindFieldLast", spec := "fnFindFieldLast", inPlace := ["math.Float64bits"], unfollowed := true, recurses := true, loops := true, apart := false }
def FnFindFieldLastSaid : Prop := fnFindFieldLastRow.holds Try.pinned (OpenSpec.ofChange fnFindFieldLastSpec)

/-- ITS FALSE NEIGHBOUR: 'it returns false'. Refute it at one input. -/
def fnFindFieldLastWrong : ChangeSpec := { name := "fnFindFieldLast", fn := fun _ => fun
  | [d1, d2] => { results := [.lit (.bool false)], args := [d1, d2] }
  | _ => none }
def FnFindFieldLastWrongFalsely : Prop := fnFindFieldLastRow.holds Try.pinned (OpenSpec.ofChange fnFindFieldLastWrong)

/-- 'laws.FnCopySchema': WHATEVER THE INPUT: true; the input reads as it did. -/
def fnCopySchemaSpec : ChangeSpec := { name := "fnCopySchema", fn := fun _ => fun
  | [d1, d2] => { results := [.lit (.bool true)], args := [d1, d2] }
  | _ => none }
def fnCopySchemaRow : OpenClaim := { program := "ytphldfnnjoehpaa", sum := "814a7937135bfe9c04886f70062801f092342813052495270a8605e46a129d31", func := "pub-coparcener/laws.FnCopySchema", spec := "fnCopySchema", inPlace := ["math.Float64bits"], unfollowed := true, recurses := true, loops := true, apart := false }
def FnCopySchemaSaid : Prop := fnCopySchemaRow.holds Try.pinned (OpenSpec.ofChange fnCopySchemaSpec)

/-- ITS FALSE NEIGHBOUR: 'it returns false'. Refute it at one input. -/
def fnCopySchemaWrong : ChangeSpec := { name := "fnCopySchema", fn := fun _ => fun
  | [d1, d2] => { results := [.lit (.bool false)], args := [d1, d2] }
  | _ => none }
def FnCopySchemaWrongFalsely : Prop := fnCopySchemaRow.holds Try.pinned (OpenSpec.ofChange fnCopySchemaWrong)

/-- 'laws.FnMakePath': WHATEVER THE INPUT: true; the input reads as it did. -/
def fnMakePathSpec : ChangeSpec := { name := "fnMakePath", fn := fun _ => fun
  | [d] => { results := [.lit (.bool true)], args := [d] }
  | _ => none }
def fnMakePathRow : OpenClaim := { program := "ytphldfnnjoehpaa", sum := "814a7937135bfe9c04886f70062801f092342813052495270a8605e46a129d31", func := "pub-coparcener/laws.FnMakePath", spec := "fnMakePath", inPlace := ["math.Float64bits"], unfollowed := true, recurses := true, loops := true, apart := false }
def FnMakePathSaid : Prop := fnMakePathRow.holds Try.pinned (OpenSpec.ofChange fnMakePathSpec)

/-- ITS FALSE NEIGHBOUR: 'it returns false'. Refute it at one input. -/
def fnMakePathWrong : ChangeSpec := { name := "fnMakePath", fn := fun _ => fun
  | [d] => { results := [.lit (.bool false)], args := [d] }
  | _ => none }
def FnMakePathWrongFalsely : Prop := fnMakePathRow.holds Try.pinned (OpenSpec.ofChange fnMakePathWrong)

/-- 'laws.FnRefsEqual': WHATEVER THE INPUT: true; the input reads as it did. -/
def fnRefsEqualSpec : ChangeSpec := { name := "fnRefsEqual", fn := fun _ => fun
  | [d1, d2] => { results := [.lit (.bool true)], args := [d1, d2] }
  | _ => none }
def fnRefsEqualRow : OpenClaim := { program := "ytphldfnnjoehpaa", sum := "814a7937135bfe9c04886f70062801f092342813052495270a8605e46a129d31", func := "pub-coparcener/laws.FnRefsEqual", spec := "fnRefsEqual", unfollowed := true, recurses := true, loops := true, apart := false }
def FnRefsEqualSaid : Prop := fnRefsEqualRow.holds Try.pinned (OpenSpec.ofChange fnRefsEqualSpec)

/-- ITS FALSE NEIGHBOUR: 'it returns false'. Refute it at one input. -/
def fnRefsEqualWrong : ChangeSpec := { name := "fnRefsEqual", fn := fun _ => fun
  | [d1, d2] => { results := [.lit (.bool false)], args := [d1, d2] }
  | _ => none }
def FnRefsEqualWrongFalsely : Prop := fnRefsEqualRow.holds Try.pinned (OpenSpec.ofChange fnRefsEqualWrong)

/-- 'laws.FnEqualElems': WHATEVER THE INPUT: true; the input reads as it did. -/
def fnEqualElemsSpec : ChangeSpec := { name := "fnEqualElems", fn := fun _ => fun
  | [d1, d2] => { results := [.lit (.bool true)], args := [d1, d2] }
  | _ => none }
def fnEqualElemsRow : OpenClaim := { program := "ytphldfnnjoehpaa", sum := "814a7937135bfe9c04886f70062801f092342813052495270a8605e46a129d31", func := "pub-coparcener/laws.FnEqualElems", spec := "fnEqualElems", unfollowed := true, recurses := true, loops := true, apart := false }
def FnEqualElemsSaid : Prop := fnEqualElemsRow.holds Try.pinned (OpenSpec.ofChange fnEqualElemsSpec)

/-- ITS FALSE NEIGHBOUR: 'it returns false'. Refute it at one input. -/
def fnEqualElemsWrong : ChangeSpec := { name := "fnEqualElems", fn := fun _ => fun
  | [d1, d2] => { results := [.lit (.bool false)], args := [d1, d2] }
  | _ => none }
def FnEqualElemsWrongFalsely : Prop := fnEqualElemsRow.holds Try.pinned (OpenSpec.ofChange fnEqualElemsWrong)

/-- 'laws.FnZipCounts': WHATEVER THE INPUT: true; the input reads as it did. -/
def fnZipCountsSpec : ChangeSpec := { name := "fnZipCounts", fn := fun _ => fun
  | [d1, d2] => { results := [.lit (.bool true)], args := [d1, d2] }
  | _ => none }
def fnZipCountsRow : OpenClaim := { program := "ytphldfnnjoehpaa", sum := "814a7937135bfe9c04886f70062801f092342813052495270a8605e46a129d31", func := "pub-coparcener/laws.FnZipCounts", spec := "fnZipCounts", inPlace := ["math.Float64bits"], unfollowed := true, recurses := true, loops := true, apart := false }
def FnZipCountsSaid : Prop := fnZipCountsRow.holds Try.pinned (OpenSpec.ofChange fnZipCountsSpec)

/-- ITS FALSE NEIGHBOUR: 'it returns false'. Refute it at one input. -/
def fnZipCountsWrong : ChangeSpec := { name := "fnZipCounts", fn := fun _ => fun
  | [d1, d2] => { results := [.lit (.bool false)], args := [d1, d2] }
  | _ => none }
def FnZipCountsWrongFalsely : Prop := fnZipCountsRow.holds Try.pinned (OpenSpec.ofChange fnZipCountsWrong)

/-- 'laws.FnMapSteps': WHATEVER THE INPUT: true; the input reads as it did. -/
def fnMapStepsSpec : ChangeSpec := { name := "fnMapSteps", fn := fun _ => fun
  | [d1, d2, d3, d4] => { results := [.lit (.bool true)], args := [d1, d2, d3, d4] }
  | _ => none }
def fnMapStepsRow : OpenClaim := { program := "ytphldfnnjoehpaa", sum := "814a7937135bfe9c04886f70062801f092342813052495270a8605e46a129d31", func := "pub-coparcener/laws.FnMapSteps", spec := "fnMapSteps", inPlace := ["math.Float64bits"], unfollowed := true, recurses := true, loops := true, apart := false }
def FnMapStepsSaid : Prop := fnMapStepsRow.holds Try.pinned (OpenSpec.ofChange fnMapStepsSpec)

/-- ITS FALSE NEIGHBOUR: 'it returns false'. Refute it at one input. -/
def fnMapStepsWrong : ChangeSpec := { name := "fnMapSteps", fn := fun _ => fun
  | [d1, d2, d3, d4] => { results := [.lit (.bool false)], args := [d1, d2, d3, d4] }
  | _ => none }
def FnMapStepsWrongFalsely : Prop := fnMapStepsRow.holds Try.pinned (OpenSpec.ofChange fnMapStepsWrong)

/-- 'laws.FnNumbersByValue': WHATEVER THE INPUT: true; the input reads as it did. -/
def fnNumbersByValueSpec : ChangeSpec := { name := "fnNumbersByValue", fn := fun _ => fun
  | [d1, d2] => { results := [.lit (.bool true)], args := [d1, d2] }
  | _ => none }
def fnNumbersByValueRow : OpenClaim := { program := "ytphldfnnjoehpaa", sum := "814a7937135bfe9c04886f70062801f092342813052495270a8605e46a129d31", func := "pub-coparcener/laws.FnNumbersByValue", spec := "fnNumbersByValue", inPlace := ["internal/bytealg.abigen_runtime_cmpstring"], unfollowed := true, recurses := true, apart := false }
def FnNumbersByValueSaid : Prop := fnNumbersByValueRow.holds Try.pinned (OpenSpec.ofChange fnNumbersByValueSpec)

/-- ITS FALSE NEIGHBOUR: 'it returns false'. Refute it at one input. -/
def fnNumbersByValueWrong : ChangeSpec := { name := "fnNumbersByValue", fn := fun _ => fun
  | [d1, d2] => { results := [.lit (.bool false)], args := [d1, d2] }
  | _ => none }
def FnNumbersByValueWrongFalsely : Prop := fnNumbersByValueRow.holds Try.pinned (OpenSpec.ofChange fnNumbersByValueWrong)

/-- 'laws.FnLessAgrees': WHATEVER THE INPUT: true; the input reads as it did. -/
def fnLessAgreesSpec : ChangeSpec := { name := "fnLessAgrees", fn := fun _ => fun
  | [d1, d2] => { results := [.lit (.bool true)], args := [d1, d2] }
  | _ => none }
def fnLessAgreesRow : OpenClaim := { program := "ytphldfnnjoehpaa", sum := "814a7937135bfe9c04886f70062801f092342813052495270a8605e46a129d31", func := "pub-coparcener/laws.FnLessAgrees", spec := "fnLessAgrees", inPlace := ["internal/bytealg.abigen_runtime_cmpstring"], unfollowed := true, recurses := true, loops := true, apart := false }
def FnLessAgreesSaid : Prop := fnLessAgreesRow.holds Try.pinned (OpenSpec.ofChange fnLessAgreesSpec)

/-- ITS FALSE NEIGHBOUR: 'it returns false'. Refute it at one input. -/
def fnLessAgreesWrong : ChangeSpec := { name := "fnLessAgrees", fn := fun _ => fun
  | [d1, d2] => { results := [.lit (.bool false)], args := [d1, d2] }
  | _ => none }
def FnLessAgreesWrongFalsely : Prop := fnLessAgreesRow.holds Try.pinned (OpenSpec.ofChange fnLessAgreesWrong)

/- THE SECOND FORM. 'bulk': how many values and letters a reading holds, each counted each time it is reached (what is shared counts as often as it is met; a slice's spare places count too). A statement '..UptoSaid' is the law's where the arguments, and the package variables that the reading takes, are together of bulk at most 1048576: NARROWER than '..Said'. Prove '..Said' where nothing that the law and all that it calls make is longer than what came in: it says more and counts as full. Else prove '..UptoSaid'. A law counts once. -/
mutual
def uptoBulk {H : Type} : DataW H → Nat
  | .lit (.string bytes) => bytes.length + 1
  | .lit _ => 1
  | .nil => 1
  | .ptr d => uptoBulk d + 1
  | .slice elems spare => uptoBulkAll elems + uptoBulkAll spare + 1
  | .agg parts => uptoBulkAll parts + 1
  | .iface _ d => uptoBulk d + 1
  | .map entries => uptoBulkEntries entries + 1
  | .held _ => 1
def uptoBulkAll {H : Type} : List (DataW H) → Nat
  | [] => 0
  | d :: r => uptoBulk d + uptoBulkAll r
def uptoBulkEntries {H : Type} : List (Lit × DataW H) → Nat
  | [] => 0
  | x :: r => uptoBulkEntry x + uptoBulkEntries r
def uptoBulkEntry {H : Type} : Lit × DataW H → Nat
  | (.string bytes, d) => bytes.length + uptoBulk d + 1
  | (_, d) => uptoBulk d + 1
 end
def uptoSmall : (H : Type) → List (DataW H) → Bool := fun _ ds => decide (uptoBulkAll ds ≤ 1048576)
def OpenSpec.upto (s : _root_.Go.ChangeSpec) : _root_.Go.OpenSpec := { _root_.Go.OpenSpec.ofChange s with cond := some uptoSmall }

/-- 'laws.FnMapSize', WHERE WHAT IT READS IS OF BULK AT MOST 1048576: true; the input reads as it did. -/
def fnMapSizeUptoRow : OpenClaim := { program := "ytphldfnnjoehpaa", sum := "814a7937135bfe9c04886f70062801f092342813052495270a8605e46a129d31", func := "pub-coparcener/laws.FnMapSize", spec := "fnMapSize", unfollowed := true, recurses := true, loops := true, apart := false, narrowed := true }
def FnMapSizeUptoSaid : Prop := fnMapSizeUptoRow.holds Try.pinned (OpenSpec.upto fnMapSizeSpec)

/-- 'laws.FnValueRoundTrip', WHERE WHAT IT READS IS OF BULK AT MOST 1048576: true; the input reads as it did. -/
def fnValueRoundTripUptoRow : OpenClaim := { program := "ytphldfnnjoehpaa", sum := "814a7937135bfe9c04886f70062801f092342813052495270a8605e46a129d31", func := "pub-coparcener/laws.FnValueRoundTrip", spec := "fnValueRoundTrip", inPlace := ["math.Float64bits"], unfollowed := true, recurses := true, loops := true, apart := false, narrowed := true }
def FnValueRoundTripUptoSaid : Prop := fnValueRoundTripUptoRow.holds Try.pinned (OpenSpec.upto fnValueRoundTripSpec)

/-- 'laws.FnFindFieldLast', WHERE WHAT IT READS IS OF BULK AT MOST 1048576: true; the input reads as it did. -/
def fnFindFieldLastUptoRow : OpenClaim := { program := "ytphldfnnjoehpaa", sum := "814a7937135bfe9c04886f70062801f092342813052495270a8605e46a129d31", func := "pub-coparcener/laws.FnFindFieldLast", spec := "fnFindFieldLast", inPlace := ["math.Float64bits"], unfollowed := true, recurses := true, loops := true, apart := false, narrowed := true }
def FnFindFieldLastUptoSaid : Prop := fnFindFieldLastUptoRow.holds Try.pinned (OpenSpec.upto fnFindFieldLastSpec)

/-- 'laws.FnCopySchema', WHERE WHAT IT READS IS OF BULK AT MOST 1048576: true; the input reads as it did. -/
def fnCopySchemaUptoRow : OpenClaim := { program := "ytphldfnnjoehpaa", sum := "814a7937135bfe9c04886f70062801f092342813052495270a8605e46a129d31", func := "pub-coparcener/laws.FnCopySchema", spec := "fnCopySchema", inPlace := ["math.Float64bits"], unfollowed := true, recurses := true, loops := true, apart := false, narrowed := true }
def FnCopySchemaUptoSaid : Prop := fnCopySchemaUptoRow.holds Try.pinned (OpenSpec.upto fnCopySchemaSpec)

/-- 'laws.FnMakePath', WHERE WHAT IT READS IS OF BULK AT MOST 1048576: true; the input reads as it did. -/
def fnMakePathUptoRow : OpenClaim := { program := "ytphldfnnjoehpaa", sum := "814a7937135bfe9c04886f70062801f092342813052495270a8605e46a129d31", func := "pub-coparcener/laws.FnMakePath", spec := "fnMakePath", inPlace := ["math.Float64bits"], unfollowed := true, recurses := true, loops := true, apart := false, narrowed := true }
def FnMakePathUptoSaid : Prop := fnMakePathUptoRow.holds Try.pinned (OpenSpec.upto fnMakePathSpec)

/-- 'laws.FnRefsEqual', WHERE WHAT IT READS IS OF BULK AT MOST 1048576: true; the input reads as it did. -/
def fnRefsEqualUptoRow : OpenClaim := { program := "ytphldfnnjoehpaa", sum := "814a7937135bfe9c04886f70062801f092342813052495270a8605e46a129d31", func := "pub-coparcener/laws.FnRefsEqual", spec := "fnRefsEqual", unfollowed := true, recurses := true, loops := true, apart := false, narrowed := true }
def FnRefsEqualUptoSaid : Prop := fnRefsEqualUptoRow.holds Try.pinned (OpenSpec.upto fnRefsEqualSpec)

/-- 'laws.FnEqualElems', WHERE WHAT IT READS IS OF BULK AT MOST 1048576: true; the input reads as it did. -/
def fnEqualElemsUptoRow : OpenClaim := { program := "ytphldfnnjoehpaa", sum := "814a7937135bfe9c04886f70062801f092342813052495270a8605e46a129d31", func := "pub-coparcener/laws.FnEqualElems", spec := "fnEqualElems", unfollowed := true, recurses := true, loops := true, apart := false, narrowed := true }
def FnEqualElemsUptoSaid : Prop := fnEqualElemsUptoRow.holds Try.pinned (OpenSpec.upto fnEqualElemsSpec)

/-- 'laws.FnZipCounts', WHERE WHAT IT READS IS OF BULK AT MOST 1048576: true; the input reads as it did. -/
def fnZipCountsUptoRow : OpenClaim := { program := "ytphldfnnjoehpaa", sum := "814a7937135bfe9c04886f70062801f092342813052495270a8605e46a129d31", func := "pub-coparcener/laws.FnZipCounts", spec := "fnZipCounts", inPlace := ["math.Float64bits"], unfollowed := true, recurses := true, loops := true, apart := false, narrowed := true }
def FnZipCountsUptoSaid : Prop := fnZipCountsUptoRow.holds Try.pinned (OpenSpec.upto fnZipCountsSpec)

/-- 'laws.FnMapSteps', WHERE WHAT IT READS IS OF BULK AT MOST 1048576: true; the input reads as it did. -/
def fnMapStepsUptoRow : OpenClaim := { program := "ytphldfnnjoehpaa", sum := "814a7937135bfe9c04886f70062801f092342813052495270a8605e46a129d31", func := "pub-coparcener/laws.FnMapSteps", spec := "fnMapSteps", inPlace := ["math.Float64bits"], unfollowed := true, recurses := true, loops := true, apart := false, narrowed := true }
def FnMapStepsUptoSaid : Prop := fnMapStepsUptoRow.holds Try.pinned (OpenSpec.upto fnMapStepsSpec)

/-- 'laws.FnNumbersByValue', WHERE WHAT IT READS IS OF BULK AT MOST 1048576: true; the input reads as it did. -/
def fnNumbersByValueUptoRow : OpenClaim := { program := "ytphldfnnjoehpaa", sum := "814a7937135bfe9c04886f70062801f092342813052495270a8605e46a129d31", func := "pub-coparcener/laws.FnNumbersByValue", spec := "fnNumbersByValue", inPlace := ["internal/bytealg.abigen_runtime_cmpstring"], unfollowed := true, recurses := true, apart := false, narrowed := true }
def FnNumbersByValueUptoSaid : Prop := fnNumbersByValueUptoRow.holds Try.pinned (OpenSpec.upto fnNumbersByValueSpec)

/-- 'laws.FnLessAgrees', WHERE WHAT IT READS IS OF BULK AT MOST 1048576: true; the input reads as it did. -/
def fnLessAgreesUptoRow : OpenClaim := { program := "ytphldfnnjoehpaa", sum := "814a7937135bfe9c04886f70062801f092342813052495270a8605e46a129d31", func := "pub-coparcener/laws.FnLessAgrees", spec := "fnLessAgrees", inPlace := ["internal/bytealg.abigen_runtime_cmpstring"], unfollowed := true, recurses := true, loops := true, apart := false, narrowed := true }
def FnLessAgreesUptoSaid : Prop := fnLessAgreesUptoRow.holds Try.pinned (OpenSpec.upto fnLessAgreesSpec)

end Rows
end Go.Proofs.Ytphldfnnjoehpaa
