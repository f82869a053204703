/-
  NARROWER THAN 'FOR EVERY INPUT', by the rows' own cells (each row's printed sentence says how): FnShorterPathFirst: loops · FnKeyInAnyOrder: loops · FnEqualConflicts: loops · FnZipMaps: loops · FnSortKeys: loops · FnItemElemOfSet: loops · FnFindNamedLast: loops · FnSchemasEqual: loops.
  DERIVED. THE GIVEN ROWS OF THIS SEAT. 8 by the template 'for every input the law returns true; each argument reads behind the call as it read before'; 0 by the template 'total and deterministic' (their statements: YtempfaefopfobaaTotals.lean).
  GIVEN WITH THE SEED: the statements are not yours to turn. If you find one false, say at which input.
  Laid BY PROGRAM, IN A SANDBOX (cutbox-rows.mjs): the forced cells as the released guide's own fill.sh prints them over the translation 71879538a708e40e… (all of the seat's roots in one cut). By AI agents, Wed Nov 11 2026. No macro, syntax, notation, axiom, sorry.
-/
import Derived.Test.YtempfaefopfobaaChecked
import GoSem.Claim
import GoSem.ClaimJoined
import GoSem.ClaimMapViews
import Derived.JoinedTies
import Derived.KernelRfl
namespace Go.Proofs.Ytempfaefopfobaa
/- THE CELL 'sum', in the pinned program and in every row, IS THE sha256 OF THE DUMP (.gsa) THAT YtempfaefopfobaaProg.lean LOADS. Nothing in Lean hashes anything: it is a label: what it is worth is what the hold of that sum in a sandbox is worth. -/
noncomputable def Try.pinned : Pinned := { name := "ytempfaefopfobaa", sum := "71879538a708e40eb36dacca2a013e16064cd0f0ba321218e06ce361840f6f09", checked := Try.checked }
namespace Rows
def none {H : Type} : Left H := { results := [], args := [] }

/-- 'laws.FnShorterPathFirst': WHATEVER THE INPUT: true; the input reads as it did. -/
def fnShorterPathFirstSpec : ChangeSpec := { name := "fnShorterPathFirst", fn := fun _ => fun
  | [d1, d2] => { results := [.lit (.bool true)], args := [d1, d2] }
  | _ => none }
def fnShorterPathFirstRow : OpenClaim := { program := "ytempfaefopfobaa", sum := "71879538a708e40eb36dacca2a013e16064cd0f0ba321218e06ce361840f6f09", func := "pub-coparcener/laws.FnShorterPathFirst", spec := "fnShorterPathFirst", inPlace := ["internal/bytealg.abigen_runtime_cmpstring"], unfollowed := true, recurses := true, loops := true, apart := false }
def FnShorterPathFirstSaid : Prop := fnShorterPathFirstRow.holds Try.pinned (OpenSpec.ofChange fnShorterPathFirstSpec)

/-- ITS FALSE NEIGHBOUR: 'it returns false'. Refute it at one input. -/
def fnShorterPathFirstWrong : ChangeSpec := { name := "fnShorterPathFirst", fn := fun _ => fun
  | [d1, d2] => { results := [.lit (.bool false)], args := [d1, d2] }
  | _ => none }
def FnShorterPathFirstWrongFalsely : Prop := fnShorterPathFirstRow.holds Try.pinned (OpenSpec.ofChange fnShorterPathFirstWrong)

/-- 'laws.FnKeyInAnyOrder': WHATEVER THE INPUT: true; the input reads as it did. -/
def fnKeyInAnyOrderSpec : ChangeSpec := { name := "fnKeyInAnyOrder", fn := fun _ => fun
  | [d1, d2, d3] => { results := [.lit (.bool true)], args := [d1, d2, d3] }
  | _ => none }
def fnKeyInAnyOrderRow : OpenClaim := { program := "ytempfaefopfobaa", sum := "71879538a708e40eb36dacca2a013e16064cd0f0ba321218e06ce361840f6f09", func := "pub-coparcener/laws.FnKeyInAnyOrder", spec := "fnKeyInAnyOrder", inPlace := ["math.Float64bits"], unfollowed := true, recurses := true, loops := true, apart := false }
def FnKeyInAnyOrderSaid : Prop := fnKeyInAnyOrderRow.holds Try.pinned (OpenSpec.ofChange fnKeyInAnyOrderSpec)

/-- ITS FALSE NEIGHBOUR: 'it returns false'. Refute it at one input. -/
def fnKeyInAnyOrderWrong : ChangeSpec := { name := "fnKeyInAnyOrder", fn := fun _ => fun
  | [d1, d2, d3] => { results := [.lit (.bool false)], args := [d1, d2, d3] }
  | _ => none }
def FnKeyInAnyOrderWrongFalsely : Prop := fnKeyInAnyOrderRow.holds Try.pinned (OpenSpec.ofChange fnKeyInAnyOrderWrong)

/-- 'laws.FnEqualConflicts': WHATEVER THE INPUT: true; the input reads as it did. -/
def fnEqualConflictsSpec : ChangeSpec := { name := "fnEqualConflicts", fn := fun _ => fun
  | [d1, d2] => { results := [.lit (.bool true)], args := [d1, d2] }
  | _ => none }
def fnEqualConflictsRow : OpenClaim := { program := "ytempfaefopfobaa", sum := "71879538a708e40eb36dacca2a013e16064cd0f0ba321218e06ce361840f6f09", func := "pub-coparcener/laws.FnEqualConflicts", spec := "fnEqualConflicts", unfollowed := true, recurses := true, loops := true, apart := false }
def FnEqualConflictsSaid : Prop := fnEqualConflictsRow.holds Try.pinned (OpenSpec.ofChange fnEqualConflictsSpec)

/-- ITS FALSE NEIGHBOUR: 'it returns false'. Refute it at one input. -/
def fnEqualConflictsWrong : ChangeSpec := { name := "fnEqualConflicts", fn := fun _ => fun
  | [d1, d2] => { results := [.lit (.bool false)], args := [d1, d2] }
  | _ => none }
def FnEqualConflictsWrongFalsely : Prop := fnEqualConflictsRow.holds Try.pinned (OpenSpec.ofChange fnEqualConflictsWrong)

/-- 'laws.FnZipMaps': WHATEVER THE INPUT: true; the input reads as it did. -/
def fnZipMapsSpec : ChangeSpec := { name := "fnZipMaps", fn := fun _ => fun
  | [d1, d2] => { results := [.lit (.bool true)], args := [d1, d2] }
  | _ => none }
def fnZipMapsRow : OpenClaim := { program := "ytempfaefopfobaa", sum := "71879538a708e40eb36dacca2a013e16064cd0f0ba321218e06ce361840f6f09", func := "pub-coparcener/laws.FnZipMaps", spec := "fnZipMaps", inPlace := ["math.Float64bits"], unfollowed := true, recurses := true, loops := true, apart := false }
def FnZipMapsSaid : Prop := fnZipMapsRow.holds Try.pinned (OpenSpec.ofChange fnZipMapsSpec)

/-- ITS FALSE NEIGHBOUR: 'it returns false'. Refute it at one input. -/
def fnZipMapsWrong : ChangeSpec := { name := "fnZipMaps", fn := fun _ => fun
  | [d1, d2] => { results := [.lit (.bool false)], args := [d1, d2] }
  | _ => none }
def FnZipMapsWrongFalsely : Prop := fnZipMapsRow.holds Try.pinned (OpenSpec.ofChange fnZipMapsWrong)

/-- 'laws.FnSortKeys': WHATEVER THE INPUT: true; the input reads as it did. -/
def fnSortKeysSpec : ChangeSpec := { name := "fnSortKeys", fn := fun _ => fun
  | [d] => { results := [.lit (.bool true)], args := [d] }
  | _ => none }
def fnSortKeysRow : OpenClaim := { program := "ytempfaefopfobaa", sum := "71879538a708e40eb36dacca2a013e16064cd0f0ba321218e06ce361840f6f09", func := "pub-coparcener/laws.FnSortKeys", spec := "fnSortKeys", inPlace := ["math.Float64bits"], unfollowed := true, recurses := true, loops := true, apart := false }
def FnSortKeysSaid : Prop := fnSortKeysRow.holds Try.pinned (OpenSpec.ofChange fnSortKeysSpec)

/-- ITS FALSE NEIGHBOUR: 'it returns false'. Refute it at one input. -/
def fnSortKeysWrong : ChangeSpec := { name := "fnSortKeys", fn := fun _ => fun
  | [d] => { results := [.lit (.bool false)], args := [d] }
  | _ => none }
def FnSortKeysWrongFalsely : Prop := fnSortKeysRow.holds Try.pinned (OpenSpec.ofChange fnSortKeysWrong)

/-- 'laws.FnItemElemOfSet': WHATEVER THE INPUT: true; the input reads as it did. -/
def fnItemElemOfSetSpec : ChangeSpec := { name := "fnItemElemOfSet", fn := fun _ => fun
  | [d] => { results := [.lit (.bool true)], args := [d] }
  | _ => none }
def fnItemElemOfSetRow : OpenClaim := { program := "ytempfaefopfobaa", sum := "71879538a708e40eb36dacca2a013e16064cd0f0ba321218e06ce361840f6f09", func := "pub-coparcener/laws.FnItemElemOfSet", spec := "fnItemElemOfSet", inPlace := ["math.Float64bits"], unfollowed := true, recurses := true, loops := true, apart := false }
def FnItemElemOfSetSaid : Prop := fnItemElemOfSetRow.holds Try.pinned (OpenSpec.ofChange fnItemElemOfSetSpec)

/-- ITS FALSE NEIGHBOUR: 'it returns false'. Refute it at one input. -/
def fnItemElemOfSetWrong : ChangeSpec := { name := "fnItemElemOfSet", fn := fun _ => fun
  | [d] => { results := [.lit (.bool false)], args := [d] }
  | _ => none }
def FnItemElemOfSetWrongFalsely : Prop := fnItemElemOfSetRow.holds Try.pinned (OpenSpec.ofChange fnItemElemOfSetWrong)

/-- 'laws.FnFindNamedLast': WHATEVER THE INPUT: true; the input reads as it did. -/
def fnFindNamedLastSpec : ChangeSpec := { name := "fnFindNamedLast", fn := fun _ => fun
  | [d1, d2] => { results := [.lit (.bool true)], args := [d1, d2] }
  | _ => none }
def fnFindNamedLastRow : OpenClaim := { program := "ytempfaefopfobaa", sum := "71879538a708e40eb36dacca2a013e16064cd0f0ba321218e06ce361840f6f09", func := "pub-coparcener/laws.FnFindNamedLast", spec := "fnFindNamedLast", inPlace := ["math.Float64bits"], unfollowed := true, recurses := true, loops := true, apart := false }
def FnFindNamedLastSaid : Prop := fnFindNamedLastRow.holds Try.pinned (OpenSpec.ofChange fnFindNamedLastSpec)

/-- ITS FALSE NEIGHBOUR: 'it returns false'. Refute it at one input. -/
def fnFindNamedLastWrong : ChangeSpec := { name := "fnFindNamedLast", fn := fun _ => fun
  | [d1, d2] => { results := [.lit (.bool false)], args := [d1, d2] }
  | _ => none }
def FnFindNamedLastWrongFalsely : Prop := fnFindNamedLastRow.holds Try.pinned (OpenSpec.ofChange fnFindNamedLastWrong)

/-- 'laws.FnSchemasEqual': WHATEVER THE INPUT: true; the input reads as it did. -/
def fnSchemasEqualSpec : ChangeSpec := { name := "fnSchemasEqual", fn := fun _ => fun
  | [d1, d2] => { results := [.lit (.bool true)], args := [d1, d2] }
  | _ => none }
def fnSchemasEqualRow : OpenClaim := { program := "ytempfaefopfobaa", sum := "71879538a708e40eb36dacca2a013e16064cd0f0ba321218e06ce361840f6f09", func := "pub-coparcener/laws.FnSchemasEqual", spec := "fnSchemasEqual", unfollowed := true, recurses := true, loops := true, apart := false }
def FnSchemasEqualSaid : Prop := fnSchemasEqualRow.holds Try.pinned (OpenSpec.ofChange fnSchemasEqualSpec)

/-- ITS FALSE NEIGHBOUR: 'it returns false'. Refute it at one input. -/
def fnSchemasEqualWrong : ChangeSpec := { name := "fnSchemasEqual", fn := fun _ => fun
  | [d1, d2] => { results := [.lit (.bool false)], args := [d1, d2] }
  | _ => none }
def FnSchemasEqualWrongFalsely : Prop := fnSchemasEqualRow.holds Try.pinned (OpenSpec.ofChange fnSchemasEqualWrong)

/- THE SECOND FORM. 'bulk': how many values and letters a reading holds, each counted each time it is reached (what is shared counts as often as it is met; a slice's spare places count too). A statement '..UptoSaid' is the law's where the arguments, and the package variables that the reading takes, are together of bulk at most 1048576: NARROWER than '..Said'. Prove '..Said' where nothing that the law and all that it calls make is longer than what came in: it says more and counts as full. Else prove '..UptoSaid'. A law counts once. -/
mutual
def uptoBulk {H : Type} : DataW H → Nat
  | .lit (.string bytes) => bytes.length + 1
  | .lit _ => 1
  | .nil => 1
  | .ptr d => uptoBulk d + 1
  | .slice elems spare => uptoBulkAll elems + uptoBulkAll spare + 1
  | .agg parts => uptoBulkAll parts + 1
  | .iface _ d => uptoBulk d + 1
  | .map entries => uptoBulkEntries entries + 1
  | .held _ => 1
def uptoBulkAll {H : Type} : List (DataW H) → Nat
  | [] => 0
  | d :: r => uptoBulk d + uptoBulkAll r
def uptoBulkEntries {H : Type} : List (Lit × DataW H) → Nat
  | [] => 0
  | x :: r => uptoBulkEntry x + uptoBulkEntries r
def uptoBulkEntry {H : Type} : Lit × DataW H → Nat
  | (.string bytes, d) => bytes.length + uptoBulk d + 1
  | (_, d) => uptoBulk d + 1
 end
def uptoSmall : (H : Type) → List (DataW H) → Bool := fun _ ds => decide (uptoBulkAll ds ≤ 1048576)
def OpenSpec.upto (s : _root_.Go.ChangeSpec) : _root_.Go.OpenSpec := { _root_.Go.OpenSpec.ofChange s with cond := some uptoSmall }

/-- 'laws.FnShorterPathFirst', WHERE WHAT IT READS IS OF BULK AT MOST 1048576: true; the input reads as it did. -/
def fnShorterPathFirstUptoRow : OpenClaim := { program := "ytempfaefopfobaa", sum := "71879538a708e40eb36dacca2a013e16064cd0f0ba321218e06ce361840f6f09", func := "pub-coparcener/laws.FnShorterPathFirst", spec := "fnShorterPathFirst", inPlace := ["internal/bytealg.abigen_runtime_cmpstring"], unfollowed := true, recurses := true, loops := true, apart := false, narrowed := true }
def FnShorterPathFirstUptoSaid : Prop := fnShorterPathFirstUptoRow.holds Try.pinned (OpenSpec.upto fnShorterPathFirstSpec)

/-- 'laws.FnKeyInAnyOrder', WHERE WHAT IT READS IS OF BULK AT MOST 1048576: true; the input reads as it did. -/
def fnKeyInAnyOrderUptoRow : OpenClaim := { program := "ytempfaefopfobaa", sum := "71879538a708e40eb36dacca2a013e16064cd0f0ba321218e06ce361840f6f09", func := "pub-coparcener/laws.FnKeyInAnyOrder", spec := "fnKeyInAnyOrder", inPlace := ["math.Float64bits"], unfollowed := true, recurses := true, loops := true, apart := false, narrowed := true }
def FnKeyInAnyOrderUptoSaid : Prop := fnKeyInAnyOrderUptoRow.holds Try.pinned (OpenSpec.upto fnKeyInAnyOrderSpec)

/-- 'laws.FnEqualConflicts', WHERE WHAT IT READS IS OF BULK AT MOST 1048576: true; the input reads as it did. -/
def fnEqualConflictsUptoRow : OpenClaim := { program := "ytempfaefopfobaa", sum := "71879538a708e40eb36dacca2a013e16064cd0f0ba321218e06ce361840f6f09", func := "pub-coparcener/laws.FnEqualConflicts", spec := "fnEqualConflicts", unfollowed := true, recurses := true, loops := true, apart := false, narrowed := true }
def FnEqualConflictsUptoSaid : Prop := fnEqualConflictsUptoRow.holds Try.pinned (OpenSpec.upto fnEqualConflictsSpec)

/-- 'laws.FnZipMaps', WHERE WHAT IT READS IS OF BULK AT MOST 1048576: true; the input reads as it did. -/
def fnZipMapsUptoRow : OpenClaim := { program := "ytempfaefopfobaa", sum := "71879538a708e40eb36dacca2a013e16064cd0f0ba321218e06ce361840f6f09", func := "pub-coparcener/laws.FnZipMaps", spec := "fnZipMaps", inPlace := ["math.Float64bits"], unfollowed := true, recurses := true, loops := true, apart := false, narrowed := true }
def FnZipMapsUptoSaid : Prop := fnZipMapsUptoRow.holds Try.pinned (OpenSpec.upto fnZipMapsSpec)

/-- 'laws.FnSortKeys', WHERE WHAT IT READS IS OF BULK AT MOST 1048576: true; the input reads as it did. -/
def fnSortKeysUptoRow : OpenClaim := { program := "ytempfaefopfobaa", sum := "71879538a708e40eb36dacca2a013e16064cd0f0ba321218e06ce361840f6f09", func := "pub-coparcener/laws.FnSortKeys", spec := "fnSortKeys", inPlace := ["math.Float64bits"], unfollowed := true, recurses := true, loops := true, apart := false, narrowed := true }
def FnSortKeysUptoSaid : Prop := fnSortKeysUptoRow.holds Try.pinned (OpenSpec.upto fnSortKeysSpec)

/-- 'laws.FnItemElemOfSet', WHERE WHAT IT READS IS OF BULK AT MOST 1048576: true; the input reads as it did. -/
def fnItemElemOfSetUptoRow : OpenClaim := { program := "ytempfaefopfobaa", sum := "71879538a708e40eb36dacca2a013e16064cd0f0ba321218e06ce361840f6f09", func := "pub-coparcener/laws.FnItemElemOfSet", spec := "fnItemElemOfSet", inPlace := ["math.Float64bits"], unfollowed := true, recurses := true, loops := true, apart := false, narrowed := true }
def FnItemElemOfSetUptoSaid : Prop := fnItemElemOfSetUptoRow.holds Try.pinned (OpenSpec.upto fnItemElemOfSetSpec)

/-- 'laws.FnFindNamedLast', WHERE WHAT IT READS IS OF BULK AT MOST 1048576: true; the input reads as it did. -/
def fnFindNamedLastUptoRow : OpenClaim := { program := "ytempfaefopfobaa", sum := "71879538a708e40eb36dacca2a013e16064cd0f0ba321218e06ce361840f6f09", func := "pub-coparcener/laws.FnFindNamedLast", spec := "fnFindNamedLast", inPlace := ["math.Float64bits"], unfollowed := true, recurses := true, loops := true, apart := false, narrowed := true }
def FnFindNamedLastUptoSaid : Prop := fnFindNamedLastUptoRow.holds Try.pinned (OpenSpec.upto fnFindNamedLastSpec)

/-- 'laws.FnSchemasEqual', WHERE WHAT IT READS IS OF BULK AT MOST 1048576: true; the input reads as it did. -/
def fnSchemasEqualUptoRow : OpenClaim := { program := "ytempfaefopfobaa", sum := "71879538a708e40eb36dacca2a013e16064cd0f0ba321218e06ce361840f6f09", func := "pub-coparcener/laws.FnSchemasEqual", spec := "fnSchemasEqual", unfollowed := true, recurses := true, loops := true, apart := false, narrowed := true }
def FnSchemasEqualUptoSaid : Prop := fnSchemasEqualUptoRow.holds Try.pinned (OpenSpec.upto fnSchemasEqualSpec)

end Rows
end Go.Proofs.Ytempfaefopfobaa
