/-
  NARROWER THAN 'FOR EVERY INPUT', by the rows' own cells (each row's printed sentence says how): FnCompareLists: loops · FnCompareKeys: loops · FnMapFieldsInAnyOrder: loops.
  DERIVED. THE GIVEN ROWS OF THIS SEAT. 3 by the template 'for every input the law returns true; each argument reads behind the call as it read before'; 0 by the template 'total and deterministic' (their statements: YtannholebjdckaaTotals.lean).
  GIVEN WITH THE SEED: the statements are not yours to turn. If you find one false, say at which input.
  Laid BY PROGRAM, IN A SANDBOX (cutbox-rows.mjs): the forced cells as the released guide's own fill.sh prints them over the translation 7bf2edcbc45a0bdb… (all of the seat's roots in one cut). By AI agents, Wed Nov 11 2026. No macro, syntax, notation, axiom, sorry.
-/
import Derived.Test.YtannholebjdckaaChecked
import GoSem.Claim
import GoSem.ClaimJoined
import GoSem.ClaimMapViews
import Derived.JoinedTies
import Derived.KernelRfl
namespace Go.Proofs.Ytannholebjdckaa
/- THE CELL 'sum', in the pinned program and in every row, IS THE sha256 OF THE DUMP (.gsa) THAT YtannholebjdckaaProg.lean LOADS. Nothing in Lean hashes anything: it is a label: what it is worth is what the hold of that sum in a sandbox is worth. -/
noncomputable def Try.pinned : Pinned := { name := "ytannholebjdckaa", sum := "7bf2edcbc45a0bdbe50c55aeca79aa545f46474856a59c8b7660c0437154d08e", checked := Try.checked }
namespace Rows
def none {H : Type} : Left H := { results := [], args := [] }

/-- 'laws.FnCompareLists': WHATEVER THE INPUT: true; the input reads as it did. -/
def fnCompareListsSpec : ChangeSpec := { name := "fnCompareLists", fn := fun _ => fun
  | [d1, d2] => { results := [.lit (.bool true)], args := [d1, d2] }
  | _ => none }
def fnCompareListsRow : OpenClaim := { program := "ytannholebjdckaa", sum := "7bf2edcbc45a0bdbe50c55aeca79aa545f46474856a59c8b7660c0437154d08e", func := "pub-coparcener/laws.FnCompareLists", spec := "fnCompareLists", inPlace := ["internal/bytealg.abigen_runtime_cmpstring"], unfollowed := true, recurses := true, loops := true, apart := false }
def FnCompareListsSaid : Prop := fnCompareListsRow.holds Try.pinned (OpenSpec.ofChange fnCompareListsSpec)

/-- ITS FALSE NEIGHBOUR: 'it returns false'. Refute it at one input. -/
def fnCompareListsWrong : ChangeSpec := { name := "fnCompareLists", fn := fun _ => fun
  | [d1, d2] => { results := [.lit (.bool false)], args := [d1, d2] }
  | _ => none }
def FnCompareListsWrongFalsely : Prop := fnCompareListsRow.holds Try.pinned (OpenSpec.ofChange fnCompareListsWrong)

/-- 'laws.FnCompareKeys': WHATEVER THE INPUT: true; the input reads as it did. -/
def fnCompareKeysSpec : ChangeSpec := { name := "fnCompareKeys", fn := fun _ => fun
  | [d1, d2] => { results := [.lit (.bool true)], args := [d1, d2] }
  | _ => none }
def fnCompareKeysRow : OpenClaim := { program := "ytannholebjdckaa", sum := "7bf2edcbc45a0bdbe50c55aeca79aa545f46474856a59c8b7660c0437154d08e", func := "pub-coparcener/laws.FnCompareKeys", spec := "fnCompareKeys", inPlace := ["internal/bytealg.abigen_runtime_cmpstring"], unfollowed := true, recurses := true, loops := true, apart := false }
def FnCompareKeysSaid : Prop := fnCompareKeysRow.holds Try.pinned (OpenSpec.ofChange fnCompareKeysSpec)

/-- ITS FALSE NEIGHBOUR: 'it returns false'. Refute it at one input. -/
def fnCompareKeysWrong : ChangeSpec := { name := "fnCompareKeys", fn := fun _ => fun
  | [d1, d2] => { results := [.lit (.bool false)], args := [d1, d2] }
  | _ => none }
def FnCompareKeysWrongFalsely : Prop := fnCompareKeysRow.holds Try.pinned (OpenSpec.ofChange fnCompareKeysWrong)

/-- 'laws.FnMapFieldsInAnyOrder': WHATEVER THE INPUT: true; the input reads as it did. -/
def fnMapFieldsInAnyOrderSpec : ChangeSpec := { name := "fnMapFieldsInAnyOrder", fn := fun _ => fun
  | [d1, d2] => { results := [.lit (.bool true)], args := [d1, d2] }
  | _ => none }
def fnMapFieldsInAnyOrderRow : OpenClaim := { program := "ytannholebjdckaa", sum := "7bf2edcbc45a0bdbe50c55aeca79aa545f46474856a59c8b7660c0437154d08e", func := "pub-coparcener/laws.FnMapFieldsInAnyOrder", spec := "fnMapFieldsInAnyOrder", inPlace := ["internal/bytealg.abigen_runtime_cmpstring", "math.Float64bits"], unfollowed := true, recurses := true, loops := true, apart := false }
def FnMapFieldsInAnyOrderSaid : Prop := fnMapFieldsInAnyOrderRow.holds Try.pinned (OpenSpec.ofChange fnMapFieldsInAnyOrderSpec)

/-- ITS FALSE NEIGHBOUR: 'it returns false'. Refute it at one input. -/
def fnMapFieldsInAnyOrderWrong : ChangeSpec := { name := "fnMapFieldsInAnyOrder", fn := fun _ => fun
  | [d1, d2] => { results := [.lit (.bool false)], args := [d1, d2] }
  | _ => none }
def FnMapFieldsInAnyOrderWrongFalsely : Prop := fnMapFieldsInAnyOrderRow.holds Try.pinned (OpenSpec.ofChange fnMapFieldsInAnyOrderWrong)

/- THE SECOND FORM. 'bulk': how many values and letters a reading holds, each counted each time it is reached (what is shared counts as often as it is met; a slice's spare places count too). A statement '..UptoSaid' is the law's where the arguments, and the package variables that the reading takes, are together of bulk at most 1048576: NARROWER than '..Said'. Prove '..Said' where nothing that the law and all that it calls make is longer than what came in: it says more and counts as full. Else prove '..UptoSaid'. A law counts once. -/
mutual
def uptoBulk {H : Type} : DataW H → Nat
  | .lit (.string bytes) => bytes.length + 1
  | .lit _ => 1
  | .nil => 1
  | .ptr d => uptoBulk d + 1
  | .slice elems spare => uptoBulkAll elems + uptoBulkAll spare + 1
  | .agg parts => uptoBulkAll parts + 1
  | .iface _ d => uptoBulk d + 1
  | .map entries => uptoBulkEntries entries + 1
  | .held _ => 1
def uptoBulkAll {H : Type} : List (DataW H) → Nat
  | [] => 0
  | d :: r => uptoBulk d + uptoBulkAll r
def uptoBulkEntries {H : Type} : List (Lit × DataW H) → Nat
  | [] => 0
  | x :: r => uptoBulkEntry x + uptoBulkEntries r
def uptoBulkEntry {H : Type} : Lit × DataW H → Nat
  | (.string bytes, d) => bytes.length + uptoBulk d + 1
  | (_, d) => uptoBulk d + 1
 end
def uptoSmall : (H : Type) → List (DataW H) → Bool := fun _ ds => decide (uptoBulkAll ds ≤ 1048576)
def OpenSpec.upto (s : _root_.Go.ChangeSpec) : _root_.Go.OpenSpec := { _root_.Go.OpenSpec.ofChange s with cond := some uptoSmall }

/-- 'laws.FnCompareLists', WHERE WHAT IT READS IS OF BULK AT MOST 1048576: true; the input reads as it did. -/
def fnCompareListsUptoRow : OpenClaim := { program := "ytannholebjdckaa", sum := "7bf2edcbc45a0bdbe50c55aeca79aa545f46474856a59c8b7660c0437154d08e", func := "pub-coparcener/laws.FnCompareLists", spec := "fnCompareLists", inPlace := ["internal/bytealg.abigen_runtime_cmpstring"], unfollowed := true, recurses := true, loops := true, apart := false, narrowed := true }
def FnCompareListsUptoSaid : Prop := fnCompareListsUptoRow.holds Try.pinned (OpenSpec.upto fnCompareListsSpec)

/-- 'laws.FnCompareKeys', WHERE WHAT IT READS IS OF BULK AT MOST 1048576: true; the input reads as it did. -/
def fnCompareKeysUptoRow : OpenClaim := { program := "ytannholebjdckaa", sum := "7bf2edcbc45a0bdbe50c55aeca79aa545f46474856a59c8b7660c0437154d08e", func := "pub-coparcener/laws.FnCompareKeys", spec := "fnCompareKeys", inPlace := ["internal/bytealg.abigen_runtime_cmpstring"], unfollowed := true, recurses := true, loops := true, apart := false, narrowed := true }
def FnCompareKeysUptoSaid : Prop := fnCompareKeysUptoRow.holds Try.pinned (OpenSpec.upto fnCompareKeysSpec)

/-- 'laws.FnMapFieldsInAnyOrder', WHERE WHAT IT READS IS OF BULK AT MOST 1048576: true; the input reads as it did. -/
def fnMapFieldsInAnyOrderUptoRow : OpenClaim := { program := "ytannholebjdckaa", sum := "7bf2edcbc45a0bdbe50c55aeca79aa545f46474856a59c8b7660c0437154d08e", func := "pub-coparcener/laws.FnMapFieldsInAnyOrder", spec := "fnMapFieldsInAnyOrder", inPlace := ["internal/bytealg.abigen_runtime_cmpstring", "math.Float64bits"], unfollowed := true, recurses := true, loops := true, apart := false, narrowed := true }
def FnMapFieldsInAnyOrderUptoSaid : Prop := fnMapFieldsInAnyOrderUptoRow.holds Try.pinned (OpenSpec.upto fnMapFieldsInAnyOrderSpec)

end Rows
end Go.Proofs.Ytannholebjdckaa
