/-
  NARROWER THAN 'FOR EVERY INPUT', by the rows' own cells (each row's printed sentence says how): FnLessValues: loops · FnKindsInOrder: loops · FnShorterListFirst: loops · FnMapGet: loops · FnMapSetsCommute: loops · FnZipMaps: loops · FnCompareElems: loops · FnShorterPathFirst: loops · FnKeyInAnyOrder: loops · FnEqualConflicts: loops.
  DERIVED. THE GIVEN ROWS OF THIS SEAT. 11 by the template 'for every input the law returns true; each argument reads behind the call as it read before'; 0 by the template 'total and deterministic' (their statements: YtoodkpaebbopnaaTotals.lean).
  GIVEN WITH THE SEED: the statements are not yours to turn. If you find one false, say at which input.
  Laid BY PROGRAM, IN A SANDBOX (cutbox-rows.mjs): the forced cells as the released guide's own fill.sh prints them over the translation c9b3d02dee2419fc… (all of the seat's roots in one cut). By AI agents, Wed Nov 11 2026. No macro, syntax, notation, axiom, sorry.
-/
import Derived.Test.YtoodkpaebbopnaaChecked
import GoSem.Claim
import GoSem.ClaimJoined
import GoSem.ClaimMapViews
import Derived.JoinedTies
import Derived.KernelRfl
namespace Go.Proofs.Ytoodkpaebbopnaa
/- THE CELL 'sum', in the pinned program and in every row, IS THE sha256 OF THE DUMP (.gsa) THAT YtoodkpaebbopnaaProg.lean LOADS. Nothing in Lean hashes anything: it is a label: what it is worth is what the hold of that sum in a sandbox is worth. -/
noncomputable def Try.pinned : Pinned := { name := "ytoodkpaebbopnaa", sum := "c9b3d02dee2419fcf9508a0bd7b695e53aba136d732ca2aa8eb2b82e95e6b67f", checked := Try.checked }
namespace Rows
def none {H : Type} : Left H := { results := [], args := [] }

/-- 'laws.FnLessValues': WHATEVER THE INPUT: true; the input reads as it did. -/
def fnLessValuesSpec : ChangeSpec := { name := "fnLessValues", fn := fun _ => fun
  | [d1, d2] => { results := [.lit (.bool true)], args := [d1, d2] }
  | _ => none }
def fnLessValuesRow : OpenClaim := { program := "ytoodkpaebbopnaa", sum := "c9b3d02dee2419fcf9508a0bd7b695e53aba136d732ca2aa8eb2b82e95e6b67f", func := "pub-coparcener/laws.FnLessValues", spec := "fnLessValues", inPlace := ["internal/bytealg.abigen_runtime_cmpstring"], unfollowed := true, recurses := true, loops := true, apart := false }
def FnLessValuesSaid : Prop := fnLessValuesRow.holds Try.pinned (OpenSpec.ofChange fnLessValuesSpec)

/-- ITS FALSE NEIGHBOUR: 'it returns false'. Refute it at one input. -/
def fnLessValuesWrong : ChangeSpec := { name := "fnLessValues", fn := fun _ => fun
  | [d1, d2] => { results := [.lit (.bool false)], args := [d1, d2] }
  | _ => none }
def FnLessValuesWrongFalsely : Prop := fnLessValuesRow.holds Try.pinned (OpenSpec.ofChange fnLessValuesWrong)

/-- 'laws.FnStringsAsValues': WHATEVER THE INPUT: true; the input reads as it did. -/
def fnStringsAsValuesSpec : ChangeSpec := { name := "fnStringsAsValues", fn := fun _ => fun
  | [d1, d2] => { results := [.lit (.bool true)], args := [d1, d2] }
  | _ => none }
def fnStringsAsValuesRow : OpenClaim := { program := "ytoodkpaebbopnaa", sum := "c9b3d02dee2419fcf9508a0bd7b695e53aba136d732ca2aa8eb2b82e95e6b67f", func := "pub-coparcener/laws.FnStringsAsValues", spec := "fnStringsAsValues", inPlace := ["internal/bytealg.abigen_runtime_cmpstring"], unfollowed := true, recurses := true, apart := false }
def FnStringsAsValuesSaid : Prop := fnStringsAsValuesRow.holds Try.pinned (OpenSpec.ofChange fnStringsAsValuesSpec)

/-- ITS FALSE NEIGHBOUR: 'it returns false'. Refute it at one input. -/
def fnStringsAsValuesWrong : ChangeSpec := { name := "fnStringsAsValues", fn := fun _ => fun
  | [d1, d2] => { results := [.lit (.bool false)], args := [d1, d2] }
  | _ => none }
def FnStringsAsValuesWrongFalsely : Prop := fnStringsAsValuesRow.holds Try.pinned (OpenSpec.ofChange fnStringsAsValuesWrong)

/-- 'laws.FnKindsInOrder': WHATEVER THE INPUT: true; the input reads as it did. -/
def fnKindsInOrderSpec : ChangeSpec := { name := "fnKindsInOrder", fn := fun _ => fun
  | [d1, d2] => { results := [.lit (.bool true)], args := [d1, d2] }
  | _ => none }
def fnKindsInOrderRow : OpenClaim := { program := "ytoodkpaebbopnaa", sum := "c9b3d02dee2419fcf9508a0bd7b695e53aba136d732ca2aa8eb2b82e95e6b67f", func := "pub-coparcener/laws.FnKindsInOrder", spec := "fnKindsInOrder", inPlace := ["internal/bytealg.abigen_runtime_cmpstring"], unfollowed := true, recurses := true, loops := true, apart := false }
def FnKindsInOrderSaid : Prop := fnKindsInOrderRow.holds Try.pinned (OpenSpec.ofChange fnKindsInOrderSpec)

/-- ITS FALSE NEIGHBOUR: 'it returns false'. Refute it at one input. -/
def fnKindsInOrderWrong : ChangeSpec := { name := "fnKindsInOrder", fn := fun _ => fun
  | [d1, d2] => { results := [.lit (.bool false)], args := [d1, d2] }
  | _ => none }
def FnKindsInOrderWrongFalsely : Prop := fnKindsInOrderRow.holds Try.pinned (OpenSpec.ofChange fnKindsInOrderWrong)

/-- 'laws.FnShorterListFirst': WHATEVER THE INPUT: true; the input reads as it did. -/
def fnShorterListFirstSpec : ChangeSpec := { name := "fnShorterListFirst", fn := fun _ => fun
  | [d1, d2] => { results := [.lit (.bool true)], args := [d1, d2] }
  | _ => none }
def fnShorterListFirstRow : OpenClaim := { program := "ytoodkpaebbopnaa", sum := "c9b3d02dee2419fcf9508a0bd7b695e53aba136d732ca2aa8eb2b82e95e6b67f", func := "pub-coparcener/laws.FnShorterListFirst", spec := "fnShorterListFirst", inPlace := ["internal/bytealg.abigen_runtime_cmpstring"], unfollowed := true, recurses := true, loops := true, apart := false }
def FnShorterListFirstSaid : Prop := fnShorterListFirstRow.holds Try.pinned (OpenSpec.ofChange fnShorterListFirstSpec)

/-- ITS FALSE NEIGHBOUR: 'it returns false'. Refute it at one input. -/
def fnShorterListFirstWrong : ChangeSpec := { name := "fnShorterListFirst", fn := fun _ => fun
  | [d1, d2] => { results := [.lit (.bool false)], args := [d1, d2] }
  | _ => none }
def FnShorterListFirstWrongFalsely : Prop := fnShorterListFirstRow.holds Try.pinned (OpenSpec.ofChange fnShorterListFirstWrong)

/-- 'laws.FnMapGet': WHATEVER THE INPUT: true; the input reads as it did. -/
def fnMapGetSpec : ChangeSpec := { name := "fnMapGet", fn := fun _ => fun
  | [d1, d2] => { results := [.lit (.bool true)], args := [d1, d2] }
  | _ => none }
def fnMapGetRow : OpenClaim := { program := "ytoodkpaebbopnaa", sum := "c9b3d02dee2419fcf9508a0bd7b695e53aba136d732ca2aa8eb2b82e95e6b67f", func := "pub-coparcener/laws.FnMapGet", spec := "fnMapGet", inPlace := ["math.Float64bits"], unfollowed := true, recurses := true, loops := true, apart := false }
def FnMapGetSaid : Prop := fnMapGetRow.holds Try.pinned (OpenSpec.ofChange fnMapGetSpec)

/-- ITS FALSE NEIGHBOUR: 'it returns false'. Refute it at one input. -/
def fnMapGetWrong : ChangeSpec := { name := "fnMapGet", fn := fun _ => fun
  | [d1, d2] => { results := [.lit (.bool false)], args := [d1, d2] }
  | _ => none }
def FnMapGetWrongFalsely : Prop := fnMapGetRow.holds Try.pinned (OpenSpec.ofChange fnMapGetWrong)

/-- 'laws.FnMapSetsCommute': WHATEVER THE INPUT: true; the input reads as it did. -/
def fnMapSetsCommuteSpec : ChangeSpec := { name := "fnMapSetsCommute", fn := fun _ => fun
  | [d1, d2, d3, d4, d5] => { results := [.lit (.bool true)], args := [d1, d2, d3, d4, d5] }
  | _ => none }
def fnMapSetsCommuteRow : OpenClaim := { program := "ytoodkpaebbopnaa", sum := "c9b3d02dee2419fcf9508a0bd7b695e53aba136d732ca2aa8eb2b82e95e6b67f", func := "pub-coparcener/laws.FnMapSetsCommute", spec := "fnMapSetsCommute", inPlace := ["math.Float64bits"], unfollowed := true, recurses := true, loops := true, apart := false }
def FnMapSetsCommuteSaid : Prop := fnMapSetsCommuteRow.holds Try.pinned (OpenSpec.ofChange fnMapSetsCommuteSpec)

/-- ITS FALSE NEIGHBOUR: 'it returns false'. Refute it at one input. -/
def fnMapSetsCommuteWrong : ChangeSpec := { name := "fnMapSetsCommute", fn := fun _ => fun
  | [d1, d2, d3, d4, d5] => { results := [.lit (.bool false)], args := [d1, d2, d3, d4, d5] }
  | _ => none }
def FnMapSetsCommuteWrongFalsely : Prop := fnMapSetsCommuteRow.holds Try.pinned (OpenSpec.ofChange fnMapSetsCommuteWrong)

/-- 'laws.FnZipMaps': WHATEVER THE INPUT: true; the input reads as it did. -/
def fnZipMapsSpec : ChangeSpec := { name := "fnZipMaps", fn := fun _ => fun
  | [d1, d2] => { results := [.lit (.bool true)], args := [d1, d2] }
  | _ => none }
def fnZipMapsRow : OpenClaim := { program := "ytoodkpaebbopnaa", sum := "c9b3d02dee2419fcf9508a0bd7b695e53aba136d732ca2aa8eb2b82e95e6b67f", func := "pub-coparcener/laws.FnZipMaps", spec := "fnZipMaps", inPlace := ["math.Float64bits"], unfollowed := true, recurses := true, loops := true, apart := false }
def FnZipMapsSaid : Prop := fnZipMapsRow.holds Try.pinned (OpenSpec.ofChange fnZipMapsSpec)

/-- ITS FALSE NEIGHBOUR: 'it returns false'. Refute it at one input. -/
def fnZipMapsWrong : ChangeSpec := { name := "fnZipMaps", fn := fun _ => fun
  | [d1, d2] => { results := [.lit (.bool false)], args := [d1, d2] }
  | _ => none }
def FnZipMapsWrongFalsely : Prop := fnZipMapsRow.holds Try.pinned (OpenSpec.ofChange fnZipMapsWrong)

/-- 'laws.FnCompareElems': WHATEVER THE INPUT: true; the input reads as it did. -/
def fnCompareElemsSpec : ChangeSpec := { name := "fnCompareElems", fn := fun _ => fun
  | [d1, d2] => { results := [.lit (.bool true)], args := [d1, d2] }
  | _ => none }
def fnCompareElemsRow : OpenClaim := { program := "ytoodkpaebbopnaa", sum := "c9b3d02dee2419fcf9508a0bd7b695e53aba136d732ca2aa8eb2b82e95e6b67f", func := "pub-coparcener/laws.FnCompareElems", spec := "fnCompareElems", inPlace := ["internal/bytealg.abigen_runtime_cmpstring"], unfollowed := true, recurses := true, loops := true, apart := false }
def FnCompareElemsSaid : Prop := fnCompareElemsRow.holds Try.pinned (OpenSpec.ofChange fnCompareElemsSpec)

/-- ITS FALSE NEIGHBOUR: 'it returns false'. Refute it at one input. -/
def fnCompareElemsWrong : ChangeSpec := { name := "fnCompareElems", fn := fun _ => fun
  | [d1, d2] => { results := [.lit (.bool false)], args := [d1, d2] }
  | _ => none }
def FnCompareElemsWrongFalsely : Prop := fnCompareElemsRow.holds Try.pinned (OpenSpec.ofChange fnCompareElemsWrong)

/-- 'laws.FnShorterPathFirst': WHATEVER THE INPUT: true; the input reads as it did. -/
def fnShorterPathFirstSpec : ChangeSpec := { name := "fnShorterPathFirst", fn := fun _ => fun
  | [d1, d2] => { results := [.lit (.bool true)], args := [d1, d2] }
  | _ => none }
def fnShorterPathFirstRow : OpenClaim := { program := "ytoodkpaebbopnaa", sum := "c9b3d02dee2419fcf9508a0bd7b695e53aba136d732ca2aa8eb2b82e95e6b67f", func := "pub-coparcener/laws.FnShorterPathFirst", spec := "fnShorterPathFirst", inPlace := ["internal/bytealg.abigen_runtime_cmpstring"], unfollowed := true, recurses := true, loops := true, apart := false }
def FnShorterPathFirstSaid : Prop := fnShorterPathFirstRow.holds Try.pinned (OpenSpec.ofChange fnShorterPathFirstSpec)

/-- ITS FALSE NEIGHBOUR: 'it returns false'. Refute it at one input. -/
def fnShorterPathFirstWrong : ChangeSpec := { name := "fnShorterPathFirst", fn := fun _ => fun
  | [d1, d2] => { results := [.lit (.bool false)], args := [d1, d2] }
  | _ => none }
def FnShorterPathFirstWrongFalsely : Prop := fnShorterPathFirstRow.holds Try.pinned (OpenSpec.ofChange fnShorterPathFirstWrong)

/-- 'laws.FnKeyInAnyOrder': WHATEVER THE INPUT: true; the input reads as it did. -/
def fnKeyInAnyOrderSpec : ChangeSpec := { name := "fnKeyInAnyOrder", fn := fun _ => fun
  | [d1, d2, d3] => { results := [.lit (.bool true)], args := [d1, d2, d3] }
  | _ => none }
def fnKeyInAnyOrderRow : OpenClaim := { program := "ytoodkpaebbopnaa", sum := "c9b3d02dee2419fcf9508a0bd7b695e53aba136d732ca2aa8eb2b82e95e6b67f", func := "pub-coparcener/laws.FnKeyInAnyOrder", spec := "fnKeyInAnyOrder", inPlace := ["math.Float64bits"], unfollowed := true, recurses := true, loops := true, apart := false }
def FnKeyInAnyOrderSaid : Prop := fnKeyInAnyOrderRow.holds Try.pinned (OpenSpec.ofChange fnKeyInAnyOrderSpec)

/-- ITS FALSE NEIGHBOUR: 'it returns false'. Refute it at one input. -/
def fnKeyInAnyOrderWrong : ChangeSpec := { name := "fnKeyInAnyOrder", fn := fun _ => fun
  | [d1, d2, d3] => { results := [.lit (.bool false)], args := [d1, d2, d3] }
  | _ => none }
def FnKeyInAnyOrderWrongFalsely : Prop := fnKeyInAnyOrderRow.holds Try.pinned (OpenSpec.ofChange fnKeyInAnyOrderWrong)

/-- 'laws.FnEqualConflicts': WHATEVER THE INPUT: true; the input reads as it did. -/
def fnEqualConflictsSpec : ChangeSpec := { name := "fnEqualConflicts", fn := fun _ => fun
  | [d1, d2] => { results := [.lit (.bool true)], args := [d1, d2] }
  | _ => none }
def fnEqualConflictsRow : OpenClaim := { program := "ytoodkpaebbopnaa", sum := "c9b3d02dee2419fcf9508a0bd7b695e53aba136d732ca2aa8eb2b82e95e6b67f", func := "pub-coparcener/laws.FnEqualConflicts", spec := "fnEqualConflicts", unfollowed := true, recurses := true, loops := true, apart := false }
def FnEqualConflictsSaid : Prop := fnEqualConflictsRow.holds Try.pinned (OpenSpec.ofChange fnEqualConflictsSpec)

/-- ITS FALSE NEIGHBOUR: 'it returns false'. Refute it at one input. -/
def fnEqualConflictsWrong : ChangeSpec := { name := "fnEqualConflicts", fn := fun _ => fun
  | [d1, d2] => { results := [.lit (.bool false)], args := [d1, d2] }
  | _ => none }
def FnEqualConflictsWrongFalsely : Prop := fnEqualConflictsRow.holds Try.pinned (OpenSpec.ofChange fnEqualConflictsWrong)

/- THE SECOND FORM. 'bulk': how many values and letters a reading holds, each counted each time it is reached (what is shared counts as often as it is met; a slice's spare places count too). A statement '..UptoSaid' is the law's where the arguments, and the package variables that the reading takes, are together of bulk at most 1048576: NARROWER than '..Said'. Prove '..Said' where nothing that the law and all that it calls make is longer than what came in: it says more and counts as full. Else prove '..UptoSaid'. A law counts once. -/
mutual
def uptoBulk {H : Type} : DataW H → Nat
  | .lit (.string bytes) => bytes.length + 1
  | .lit _ => 1
  | .nil => 1
  | .ptr d => uptoBulk d + 1
  | .slice elems spare => uptoBulkAll elems + uptoBulkAll spare + 1
  | .agg parts => uptoBulkAll parts + 1
  | .iface _ d => uptoBulk d + 1
  | .map entries => uptoBulkEntries entries + 1
  | .held _ => 1
def uptoBulkAll {H : Type} : List (DataW H) → Nat
  | [] => 0
  | d :: r => uptoBulk d + uptoBulkAll r
def uptoBulkEntries {H : Type} : List (Lit × DataW H) → Nat
  | [] => 0
  | x :: r => uptoBulkEntry x + uptoBulkEntries r
def uptoBulkEntry {H : Type} : Lit × DataW H → Nat
  | (.string bytes, d) => bytes.length + uptoBulk d + 1
  | (_, d) => uptoBulk d + 1
 end
def uptoSmall : (H : Type) → List (DataW H) → Bool := fun _ ds => decide (uptoBulkAll ds ≤ 1048576)
def OpenSpec.upto (s : _root_.Go.ChangeSpec) : _root_.Go.OpenSpec := { _root_.Go.OpenSpec.ofChange s with cond := some uptoSmall }

/-- 'laws.FnLessValues', WHERE WHAT IT READS IS OF BULK AT MOST 1048576: true; the input reads as it did. -/
def fnLessValuesUptoRow : OpenClaim := { program := "ytoodkpaebbopnaa", sum := "c9b3d02dee2419fcf9508a0bd7b695e53aba136d732ca2aa8eb2b82e95e6b67f", func := "pub-coparcener/laws.FnLessValues", spec := "fnLessValues", inPlace := ["internal/bytealg.abigen_runtime_cmpstring"], unfollowed := true, recurses := true, loops := true, apart := false, narrowed := true }
def FnLessValuesUptoSaid : Prop := fnLessValuesUptoRow.holds Try.pinned (OpenSpec.upto fnLessValuesSpec)

/-- 'laws.FnStringsAsValues', WHERE WHAT IT READS IS OF BULK AT MOST 1048576: true; the input reads as it did. -/
def fnStringsAsValuesUptoRow : OpenClaim := { program := "ytoodkpaebbopnaa", sum := "c9b3d02dee2419fcf9508a0bd7b695e53aba136d732ca2aa8eb2b82e95e6b67f", func := "pub-coparcener/laws.FnStringsAsValues", spec := "fnStringsAsValues", inPlace := ["internal/bytealg.abigen_runtime_cmpstring"], unfollowed := true, recurses := true, apart := false, narrowed := true }
def FnStringsAsValuesUptoSaid : Prop := fnStringsAsValuesUptoRow.holds Try.pinned (OpenSpec.upto fnStringsAsValuesSpec)

/-- 'laws.FnKindsInOrder', WHERE WHAT IT READS IS OF BULK AT MOST 1048576: true; the input reads as it did. -/
def fnKindsInOrderUptoRow : OpenClaim := { program := "ytoodkpaebbopnaa", sum := "c9b3d02dee2419fcf9508a0bd7b695e53aba136d732ca2aa8eb2b82e95e6b67f", func := "pub-coparcener/laws.FnKindsInOrder", spec := "fnKindsInOrder", inPlace := ["internal/bytealg.abigen_runtime_cmpstring"], unfollowed := true, recurses := true, loops := true, apart := false, narrowed := true }
def FnKindsInOrderUptoSaid : Prop := fnKindsInOrderUptoRow.holds Try.pinned (OpenSpec.upto fnKindsInOrderSpec)

/-- 'laws.FnShorterListFirst', WHERE WHAT IT READS IS OF BULK AT MOST 1048576: true; the input reads as it did. -/
def fnShorterListFirstUptoRow : OpenClaim := { program := "ytoodkpaebbopnaa", sum := "c9b3d02dee2419fcf9508a0bd7b695e53aba136d732ca2aa8eb2b82e95e6b67f", func := "pub-coparcener/laws.FnShorterListFirst", spec := "fnShorterListFirst", inPlace := ["internal/bytealg.abigen_runtime_cmpstring"], unfollowed := true, recurses := true, loops := true, apart := false, narrowed := true }
def FnShorterListFirstUptoSaid : Prop := fnShorterListFirstUptoRow.holds Try.pinned (OpenSpec.upto fnShorterListFirstSpec)

/-- 'laws.FnMapGet', WHERE WHAT IT READS IS OF BULK AT MOST 1048576: true; the input reads as it did. -/
def fnMapGetUptoRow : OpenClaim := { program := "ytoodkpaebbopnaa", sum := "c9b3d02dee2419fcf9508a0bd7b695e53aba136d732ca2aa8eb2b82e95e6b67f", func := "pub-coparcener/laws.FnMapGet", spec := "fnMapGet", inPlace := ["math.Float64bits"], unfollowed := true, recurses := true, loops := true, apart := false, narrowed := true }
def FnMapGetUptoSaid : Prop := fnMapGetUptoRow.holds Try.pinned (OpenSpec.upto fnMapGetSpec)

/-- 'laws.FnMapSetsCommute', WHERE WHAT IT READS IS OF BULK AT MOST 1048576: true; the input reads as it did. -/
def fnMapSetsCommuteUptoRow : OpenClaim := { program := "ytoodkpaebbopnaa", sum := "c9b3d02dee2419fcf9508a0bd7b695e53aba136d732ca2aa8eb2b82e95e6b67f", func := "pub-coparcener/laws.FnMapSetsCommute", spec := "fnMapSetsCommute", inPlace := ["math.Float64bits"], unfollowed := true, recurses := true, loops := true, apart := false, narrowed := true }
def FnMapSetsCommuteUptoSaid : Prop := fnMapSetsCommuteUptoRow.holds Try.pinned (OpenSpec.upto fnMapSetsCommuteSpec)

/-- 'laws.FnZipMaps', WHERE WHAT IT READS IS OF BULK AT MOST 1048576: true; the input reads as it did. -/
def fnZipMapsUptoRow : OpenClaim := { program := "ytoodkpaebbopnaa", sum := "c9b3d02dee2419fcf9508a0bd7b695e53aba136d732ca2aa8eb2b82e95e6b67f", func := "pub-coparcener/laws.FnZipMaps", spec := "fnZipMaps", inPlace := ["math.Float64bits"], unfollowed := true, recurses := true, loops := true, apart := false, narrowed := true }
def FnZipMapsUptoSaid : Prop := fnZipMapsUptoRow.holds Try.pinned (OpenSpec.upto fnZipMapsSpec)

/-- 'laws.FnCompareElems', WHERE WHAT IT READS IS OF BULK AT MOST 1048576: true; the input reads as it did. -/
def fnCompareElemsUptoRow : OpenClaim := { program := "ytoodkpaebbopnaa", sum := "c9b3d02dee2419fcf9508a0bd7b695e53aba136d732ca2aa8eb2b82e95e6b67f", func := "pub-coparcener/laws.FnCompareElems", spec := "fnCompareElems", inPlace := ["internal/bytealg.abigen_runtime_cmpstring"], unfollowed := true, recurses := true, loops := true, apart := false, narrowed := true }
def FnCompareElemsUptoSaid : Prop := fnCompareElemsUptoRow.holds Try.pinned (OpenSpec.upto fnCompareElemsSpec)

/-- 'laws.FnShorterPathFirst', WHERE WHAT IT READS IS OF BULK AT MOST 1048576: true; the input reads as it did. -/
def fnShorterPathFirstUptoRow : OpenClaim := { program := "ytoodkpaebbopnaa", sum := "c9b3d02dee2419fcf9508a0bd7b695e53aba136d732ca2aa8eb2b82e95e6b67f", func := "pub-coparcener/laws.FnShorterPathFirst", spec := "fnShorterPathFirst", inPlace := ["internal/bytealg.abigen_runtime_cmpstring"], unfollowed := true, recurses := true, loops := true, apart := false, narrowed := true }
def FnShorterPathFirstUptoSaid : Prop := fnShorterPathFirstUptoRow.holds Try.pinned (OpenSpec.upto fnShorterPathFirstSpec)

/-- 'laws.FnKeyInAnyOrder', WHERE WHAT IT READS IS OF BULK AT MOST 1048576: true; the input reads as it did. -/
def fnKeyInAnyOrderUptoRow : OpenClaim := { program := "ytoodkpaebbopnaa", sum := "c9b3d02dee2419fcf9508a0bd7b695e53aba136d732ca2aa8eb2b82e95e6b67f", func := "pub-coparcener/laws.FnKeyInAnyOrder", spec := "fnKeyInAnyOrder", inPlace := ["math.Float64bits"], unfollowed := true, recurses := true, loops := true, apart := false, narrowed := true }
def FnKeyInAnyOrderUptoSaid : Prop := fnKeyInAnyOrderUptoRow.holds Try.pinned (OpenSpec.upto fnKeyInAnyOrderSpec)

/-- 'laws.FnEqualConflicts', WHERE WHAT IT READS IS OF BULK AT MOST 1048576: true; the input reads as it did. -/
def fnEqualConflictsUptoRow : OpenClaim := { program := "ytoodkpaebbopnaa", sum := "c9b3d02dee2419fcf9508a0bd7b695e53aba136d732ca2aa8eb2b82e95e6b67f", func := "pub-coparcener/laws.FnEqualConflicts", spec := "fnEqualConflicts", unfollowed := true, recurses := true, loops := true, apart := false, narrowed := true }
def FnEqualConflictsUptoSaid : Prop := fnEqualConflictsUptoRow.holds Try.pinned (OpenSpec.upto fnEqualConflictsSpec)

end Rows
end Go.Proofs.Ytoodkpaebbopnaa
