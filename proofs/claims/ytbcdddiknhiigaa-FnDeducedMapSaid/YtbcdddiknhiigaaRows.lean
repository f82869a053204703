/-
  NARROWER THAN 'FOR EVERY INPUT', by the rows' own cells (each row's printed sentence says how): FnDeducedMap: loops · FnSortKeys: loops.
  DERIVED. THE GIVEN ROWS OF THIS SEAT. 3 by the template 'for every input the law returns true; each argument reads behind the call as it read before'; 0 by the template 'total and deterministic' (their statements: YtbcdddiknhiigaaTotals.lean).
  GIVEN WITH THE SEED: the statements are not yours to turn. If you find one false, say at which input.
  Laid BY PROGRAM, IN A SANDBOX (cutbox-rows.mjs): the forced cells as the released guide's own fill.sh prints them over the translation 9f7bffcffe7ee428… (all of the seat's roots in one cut). By AI agents, Wed Nov 11 2026. No macro, syntax, notation, axiom, sorry.
-/
import Derived.Test.YtbcdddiknhiigaaChecked
import GoSem.Claim
import GoSem.ClaimJoined
import GoSem.ClaimMapViews
import Derived.JoinedTies
import Derived.KernelRfl
namespace Go.Proofs.Ytbcdddiknhiigaa
/- THE CELL 'sum', in the pinned program and in every row, IS THE sha256 OF THE DUMP (.gsa) THAT YtbcdddiknhiigaaProg.lean LOADS. Nothing in Lean hashes anything: it is a label: what it is worth is what the hold of that sum in a sandbox is worth. -/
noncomputable def Try.pinned : Pinned := { name := "ytbcdddiknhiigaa", sum := "9f7bffcffe7ee428e0bbcc79b1496b060784c084a917f6d436571eba00dd1738", checked := Try.checked }
namespace Rows
def none {H : Type} : Left H := { results := [], args := [] }

/-- 'laws.FnIntAs': WHATEVER THE INPUT: true; the input reads as it did. -/
def fnIntAsSpec : ChangeSpec := { name := "fnIntAs", fn := fun _ => fun
  | [d1, d2] => { results := [.lit (.bool true)], args := [d1, d2] }
  | _ => none }
def fnIntAsRow : OpenClaim := { program := "ytbcdddiknhiigaa", sum := "9f7bffcffe7ee428e0bbcc79b1496b060784c084a917f6d436571eba00dd1738", func := "pub-coparcener/laws.FnIntAs", spec := "fnIntAs", unfollowed := true, recurses := true, apart := false }
def FnIntAsSaid : Prop := fnIntAsRow.holds Try.pinned (OpenSpec.ofChange fnIntAsSpec)

/-- ITS FALSE NEIGHBOUR: 'it returns false'. Refute it at one input. -/
def fnIntAsWrong : ChangeSpec := { name := "fnIntAs", fn := fun _ => fun
  | [d1, d2] => { results := [.lit (.bool false)], args := [d1, d2] }
  | _ => none }
def FnIntAsWrongFalsely : Prop := fnIntAsRow.holds Try.pinned (OpenSpec.ofChange fnIntAsWrong)

/-- 'laws.FnDeducedMap': WHATEVER THE INPUT: true; the input reads as it did. -/
def fnDeducedMapSpec : ChangeSpec := { name := "fnDeducedMap", fn := fun _ => fun
  | [d] => { results := [.lit (.bool true)], args := [d] }
  | _ => none }
def fnDeducedMapRow : OpenClaim := { program := "ytbcdddiknhiigaa", sum := "9f7bffcffe7ee428e0bbcc79b1496b060784c084a917f6d436571eba00dd1738", func := "pub-coparcener/laws.FnDeducedMap", spec := "fnDeducedMap", recurses := true, loops := true, apart := false }
def FnDeducedMapSaid : Prop := fnDeducedMapRow.holds Try.pinned (OpenSpec.ofChange fnDeducedMapSpec)

/-- ITS FALSE NEIGHBOUR: 'it returns false'. Refute it at one input. -/
def fnDeducedMapWrong : ChangeSpec := { name := "fnDeducedMap", fn := fun _ => fun
  | [d] => { results := [.lit (.bool false)], args := [d] }
  | _ => none }
def FnDeducedMapWrongFalsely : Prop := fnDeducedMapRow.holds Try.pinned (OpenSpec.ofChange fnDeducedMapWrong)

/-- 'laws.FnSortKeys': WHATEVER THE INPUT: true; the input reads as it did. -/
def fnSortKeysSpec : ChangeSpec := { name := "fnSortKeys", fn := fun _ => fun
  | [d] => { results := [.lit (.bool true)], args := [d] }
  | _ => none }
def fnSortKeysRow : OpenClaim := { program := "ytbcdddiknhiigaa", sum := "9f7bffcffe7ee428e0bbcc79b1496b060784c084a917f6d436571eba00dd1738", func := "pub-coparcener/laws.FnSortKeys", spec := "fnSortKeys", inPlace := ["math.Float64bits"], unfollowed := true, recurses := true, loops := true, apart := false }
def FnSortKeysSaid : Prop := fnSortKeysRow.holds Try.pinned (OpenSpec.ofChange fnSortKeysSpec)

/-- ITS FALSE NEIGHBOUR: 'it returns false'. Refute it at one input. -/
def fnSortKeysWrong : ChangeSpec := { name := "fnSortKeys", fn := fun _ => fun
  | [d] => { results := [.lit (.bool false)], args := [d] }
  | _ => none }
def FnSortKeysWrongFalsely : Prop := fnSortKeysRow.holds Try.pinned (OpenSpec.ofChange fnSortKeysWrong)

/- THE SECOND FORM. 'bulk': how many values and letters a reading holds, each counted each time it is reached (what is shared counts as often as it is met; a slice's spare places count too). A statement '..UptoSaid' is the law's where the arguments, and the package variables that the reading takes, are together of bulk at most 1048576: NARROWER than '..Said'. Prove '..Said' where nothing that the law and all that it calls make is longer than what came in: it says more and counts as full. Else prove '..UptoSaid'. A law counts once. -/
mutual
def uptoBulk {H : Type} : DataW H → Nat
  | .lit (.string bytes) => bytes.length + 1
  | .lit _ => 1
  | .nil => 1
  | .ptr d => uptoBulk d + 1
  | .slice elems spare => uptoBulkAll elems + uptoBulkAll spare + 1
  | .agg parts => uptoBulkAll parts + 1
  | .iface _ d => uptoBulk d + 1
  | .map entries => uptoBulkEntries entries + 1
  | .held _ => 1
def uptoBulkAll {H : Type} : List (DataW H) → Nat
  | [] => 0
  | d :: r => uptoBulk d + uptoBulkAll r
def uptoBulkEntries {H : Type} : List (Lit × DataW H) → Nat
  | [] => 0
  | x :: r => uptoBulkEntry x + uptoBulkEntries r
def uptoBulkEntry {H : Type} : Lit × DataW H → Nat
  | (.string bytes, d) => bytes.length + uptoBulk d + 1
  | (_, d) => uptoBulk d + 1
 end
def uptoSmall : (H : Type) → List (DataW H) → Bool := fun _ ds => decide (uptoBulkAll ds ≤ 1048576)
def OpenSpec.upto (s : _root_.Go.ChangeSpec) : _root_.Go.OpenSpec := { _root_.Go.OpenSpec.ofChange s with cond := some uptoSmall }

/-- 'laws.FnIntAs', WHERE WHAT IT READS IS OF BULK AT MOST 1048576: true; the input reads as it did. -/
def fnIntAsUptoRow : OpenClaim := { program := "ytbcdddiknhiigaa", sum := "9f7bffcffe7ee428e0bbcc79b1496b060784c084a917f6d436571eba00dd1738", func := "pub-coparcener/laws.FnIntAs", spec := "fnIntAs", unfollowed := true, recurses := true, apart := false, narrowed := true }
def FnIntAsUptoSaid : Prop := fnIntAsUptoRow.holds Try.pinned (OpenSpec.upto fnIntAsSpec)

/-- 'laws.FnDeducedMap', WHERE WHAT IT READS IS OF BULK AT MOST 1048576: true; the input reads as it did. -/
def fnDeducedMapUptoRow : OpenClaim := { program := "ytbcdddiknhiigaa", sum := "9f7bffcffe7ee428e0bbcc79b1496b060784c084a917f6d436571eba00dd1738", func := "pub-coparcener/laws.FnDeducedMap", spec := "fnDeducedMap", recurses := true, loops := true, apart := false, narrowed := true }
def FnDeducedMapUptoSaid : Prop := fnDeducedMapUptoRow.holds Try.pinned (OpenSpec.upto fnDeducedMapSpec)

/-- 'laws.FnSortKeys', WHERE WHAT IT READS IS OF BULK AT MOST 1048576: true; the input reads as it did. -/
def fnSortKeysUptoRow : OpenClaim := { program := "ytbcdddiknhiigaa", sum := "9f7bffcffe7ee428e0bbcc79b1496b060784c084a917f6d436571eba00dd1738", func := "pub-coparcener/laws.FnSortKeys", spec := "fnSortKeys", inPlace := ["math.Float64bits"], unfollowed := true, recurses := true, loops := true, apart := false, narrowed := true }
def FnSortKeysUptoSaid : Prop := fnSortKeysUptoRow.holds Try.pinned (OpenSpec.upto fnSortKeysSpec)

end Rows
end Go.Proofs.Ytbcdddiknhiigaa
