/-
  No cell of these rows narrows 'for every input' (looked for: loops, veiled, ifaces, maps, wideKeys, modest, calm, conditions, laid).
  DERIVED. THE GIVEN ROWS OF THIS SEAT. 5 by the template 'for every input the law returns true; each argument reads behind the call as it read before'; 0 by the template 'total and deterministic' (their statements: YtangceejmjklcaaTotals.lean).
  GIVEN WITH THE SEED: the statements are not yours to turn. If you find one false, say at which input.
  Laid BY PROGRAM, IN A SANDBOX (cutbox-rows.mjs): the forced cells as the released guide's own fill.sh prints them over the translation e14fc8568a1f87c9… (all of the seat's roots in one cut). By AI agents, Wed Nov 11 2026. No macro, syntax, notation, axiom, sorry.
-/
import Derived.Test.YtangceejmjklcaaChecked
import GoSem.Claim
import GoSem.ClaimJoined
import GoSem.ClaimMapViews
import Derived.JoinedTies
import Derived.KernelRfl
namespace Go.Proofs.Ytangceejmjklcaa
/- THE CELL 'sum', in the pinned program and in every row, IS THE sha256 OF THE DUMP (.gsa) THAT YtangceejmjklcaaProg.lean LOADS. Nothing in Lean hashes anything: it is a label: what it is worth is what the hold of that sum in a sandbox is worth. -/
noncomputable def Try.pinned : Pinned := { name := "ytangceejmjklcaa", sum := "e14fc8568a1f87c914fa9654b5821b1b7283428319b8168e17d07c79ca8c5cf3", checked := Try.checked }
namespace Rows
def none {H : Type} : Left H := { results := [], args := [] }

/-- 'laws.FnLines': WHATEVER THE INPUT: true; the input reads as it did. -/
def fnLinesSpec : ChangeSpec := { name := "fnLines", fn := fun _ => fun
  | [d1, d2] => { results := [.lit (.bool true)], args := [d1, d2] }
  | _ => none }
def fnLinesRow : OpenClaim := { program := "ytangceejmjklcaa", sum := "e14fc8568a1f87c914fa9654b5821b1b7283428319b8168e17d07c79ca8c5cf3", func := "loop.example/pub-g01455/laws.FnLines", spec := "fnLines", unfollowed := true, recurses := true, apart := false }
def FnLinesSaid : Prop := fnLinesRow.holds Try.pinned (OpenSpec.ofChange fnLinesSpec)

/-- ITS FALSE NEIGHBOUR: 'it returns false'. Refute it at one input. -/
def fnLinesWrong : ChangeSpec := { name := "fnLines", fn := fun _ => fun
  | [d1, d2] => { results := [.lit (.bool false)], args := [d1, d2] }
  | _ => none }
def FnLinesWrongFalsely : Prop := fnLinesRow.holds Try.pinned (OpenSpec.ofChange fnLinesWrong)

/-- 'laws.FnLinesColumns': WHATEVER THE INPUT: true; the input reads as it did. -/
def fnLinesColumnsSpec : ChangeSpec := { name := "fnLinesColumns", fn := fun _ => fun
  | [d1, d2, d3] => { results := [.lit (.bool true)], args := [d1, d2, d3] }
  | _ => none }
def fnLinesColumnsRow : OpenClaim := { program := "ytangceejmjklcaa", sum := "e14fc8568a1f87c914fa9654b5821b1b7283428319b8168e17d07c79ca8c5cf3", func := "loop.example/pub-g01455/laws.FnLinesColumns", spec := "fnLinesColumns", unfollowed := true, recurses := true, apart := false }
def FnLinesColumnsSaid : Prop := fnLinesColumnsRow.holds Try.pinned (OpenSpec.ofChange fnLinesColumnsSpec)

/-- ITS FALSE NEIGHBOUR: 'it returns false'. Refute it at one input. -/
def fnLinesColumnsWrong : ChangeSpec := { name := "fnLinesColumns", fn := fun _ => fun
  | [d1, d2, d3] => { results := [.lit (.bool false)], args := [d1, d2, d3] }
  | _ => none }
def FnLinesColumnsWrongFalsely : Prop := fnLinesColumnsRow.holds Try.pinned (OpenSpec.ofChange fnLinesColumnsWrong)

/-- 'laws.FnLinesHave': WHATEVER THE INPUT: true; the input reads as it did. -/
def fnLinesHaveSpec : ChangeSpec := { name := "fnLinesHave", fn := fun _ => fun
  | [d1, d2, d3, d4] => { results := [.lit (.bool true)], args := [d1, d2, d3, d4] }
  | _ => none }
def fnLinesHaveRow : OpenClaim := { program := "ytangceejmjklcaa", sum := "e14fc8568a1f87c914fa9654b5821b1b7283428319b8168e17d07c79ca8c5cf3", func := "loop.example/pub-g01455/laws.FnLinesHave", spec := "fnLinesHave", unfollowed := true, recurses := true, apart := false }
def FnLinesHaveSaid : Prop := fnLinesHaveRow.holds Try.pinned (OpenSpec.ofChange fnLinesHaveSpec)

/-- ITS FALSE NEIGHBOUR: 'it returns false'. Refute it at one input. -/
def fnLinesHaveWrong : ChangeSpec := { name := "fnLinesHave", fn := fun _ => fun
  | [d1, d2, d3, d4] => { results := [.lit (.bool false)], args := [d1, d2, d3, d4] }
  | _ => none }
def FnLinesHaveWrongFalsely : Prop := fnLinesHaveRow.holds Try.pinned (OpenSpec.ofChange fnLinesHaveWrong)

/-- 'laws.FnLinesApart': WHATEVER THE INPUT: true; the input reads as it did. -/
def fnLinesApartSpec : ChangeSpec := { name := "fnLinesApart", fn := fun _ => fun
  | [d1, d2, d3] => { results := [.lit (.bool true)], args := [d1, d2, d3] }
  | _ => none }
def fnLinesApartRow : OpenClaim := { program := "ytangceejmjklcaa", sum := "e14fc8568a1f87c914fa9654b5821b1b7283428319b8168e17d07c79ca8c5cf3", func := "loop.example/pub-g01455/laws.FnLinesApart", spec := "fnLinesApart", unfollowed := true, recurses := true, apart := false }
def FnLinesApartSaid : Prop := fnLinesApartRow.holds Try.pinned (OpenSpec.ofChange fnLinesApartSpec)

/-- ITS FALSE NEIGHBOUR: 'it returns false'. Refute it at one input. -/
def fnLinesApartWrong : ChangeSpec := { name := "fnLinesApart", fn := fun _ => fun
  | [d1, d2, d3] => { results := [.lit (.bool false)], args := [d1, d2, d3] }
  | _ => none }
def FnLinesApartWrongFalsely : Prop := fnLinesApartRow.holds Try.pinned (OpenSpec.ofChange fnLinesApartWrong)

/-- 'laws.FnLinesClear': WHATEVER THE INPUT: true; the input reads as it did. -/
def fnLinesClearSpec : ChangeSpec := { name := "fnLinesClear", fn := fun _ => fun
  | [d1, d2, d3] => { results := [.lit (.bool true)], args := [d1, d2, d3] }
  | _ => none }
def fnLinesClearRow : OpenClaim := { program := "ytangceejmjklcaa", sum := "e14fc8568a1f87c914fa9654b5821b1b7283428319b8168e17d07c79ca8c5cf3", func := "loop.example/pub-g01455/laws.FnLinesClear", spec := "fnLinesClear", unfollowed := true, recurses := true, apart := false }
def FnLinesClearSaid : Prop := fnLinesClearRow.holds Try.pinned (OpenSpec.ofChange fnLinesClearSpec)

/-- ITS FALSE NEIGHBOUR: 'it returns false'. Refute it at one input. -/
def fnLinesClearWrong : ChangeSpec := { name := "fnLinesClear", fn := fun _ => fun
  | [d1, d2, d3] => { results := [.lit (.bool false)], args := [d1, d2, d3] }
  | _ => none }
def FnLinesClearWrongFalsely : Prop := fnLinesClearRow.holds Try.pinned (OpenSpec.ofChange fnLinesClearWrong)

/- THE SECOND FORM. 'bulk': how many values and letters a reading holds, each counted each time it is reached (what is shared counts as often as it is met; a slice's spare places count too). A statement '..UptoSaid' is the law's where the arguments, and the package variables that the reading takes, are together of bulk at most 1048576: NARROWER than '..Said'. Prove '..Said' where nothing that the law and all that it calls make is longer than what came in: it says more and counts as full. Else prove '..UptoSaid'. A law counts once. -/
mutual
def uptoBulk {H : Type} : DataW H → Nat
  | .lit (.string bytes) => bytes.length + 1
  | .lit _ => 1
  | .nil => 1
  | .ptr d => uptoBulk d + 1
  | .slice elems spare => uptoBulkAll elems + uptoBulkAll spare + 1
  | .agg parts => uptoBulkAll parts + 1
  | .iface _ d => uptoBulk d + 1
  | .map entries => uptoBulkEntries entries + 1
  | .held _ => 1
def uptoBulkAll {H : Type} : List (DataW H) → Nat
  | [] => 0
  | d :: r => uptoBulk d + uptoBulkAll r
def uptoBulkEntries {H : Type} : List (Lit × DataW H) → Nat
  | [] => 0
  | x :: r => uptoBulkEntry x + uptoBulkEntries r
def uptoBulkEntry {H : Type} : Lit × DataW H → Nat
  | (.string bytes, d) => bytes.length + uptoBulk d + 1
  | (_, d) => uptoBulk d + 1
 end
def uptoSmall : (H : Type) → List (DataW H) → Bool := fun _ ds => decide (uptoBulkAll ds ≤ 1048576)
def OpenSpec.upto (s : _root_.Go.ChangeSpec) : _root_.Go.OpenSpec := { _root_.Go.OpenSpec.ofChange s with cond := some uptoSmall }

/-- 'laws.FnLines', WHERE WHAT IT READS IS OF BULK AT MOST 1048576: true; the input reads as it did. -/
def fnLinesUptoRow : OpenClaim := { program := "ytangceejmjklcaa", sum := "e14fc8568a1f87c914fa9654b5821b1b7283428319b8168e17d07c79ca8c5cf3", func := "loop.example/pub-g01455/laws.FnLines", spec := "fnLines", unfollowed := true, recurses := true, apart := false, narrowed := true }
def FnLinesUptoSaid : Prop := fnLinesUptoRow.holds Try.pinned (OpenSpec.upto fnLinesSpec)

/-- 'laws.FnLinesColumns', WHERE WHAT IT READS IS OF BULK AT MOST 1048576: true; the input reads as it did. -/
def fnLinesColumnsUptoRow : OpenClaim := { program := "ytangceejmjklcaa", sum := "e14fc8568a1f87c914fa9654b5821b1b7283428319b8168e17d07c79ca8c5cf3", func := "loop.example/pub-g01455/laws.FnLinesColumns", spec := "fnLinesColumns", unfollowed := true, recurses := true, apart := false, narrowed := true }
def FnLinesColumnsUptoSaid : Prop := fnLinesColumnsUptoRow.holds Try.pinned (OpenSpec.upto fnLinesColumnsSpec)

/-- 'laws.FnLinesHave', WHERE WHAT IT READS IS OF BULK AT MOST 1048576: true; the input reads as it did. -/
def fnLinesHaveUptoRow : OpenClaim := { program := "ytangceejmjklcaa", sum := "e14fc8568a1f87c914fa9654b5821b1b7283428319b8168e17d07c79ca8c5cf3", func := "loop.example/pub-g01455/laws.FnLinesHave", spec := "fnLinesHave", unfollowed := true, recurses := true, apart := false, narrowed := true }
def FnLinesHaveUptoSaid : Prop := fnLinesHaveUptoRow.holds Try.pinned (OpenSpec.upto fnLinesHaveSpec)

/-- 'laws.FnLinesApart', WHERE WHAT IT READS IS OF BULK AT MOST 1048576: true; the input reads as it did. -/
def fnLinesApartUptoRow : OpenClaim := { program := "ytangceejmjklcaa", sum := "e14fc8568a1f87c914fa9654b5821b1b7283428319b8168e17d07c79ca8c5cf3", func := "loop.example/pub-g01455/laws.FnLinesApart", spec := "fnLinesApart", unfollowed := true, recurses := true, apart := false, narrowed := true }
def FnLinesApartUptoSaid : Prop := fnLinesApartUptoRow.holds Try.pinned (OpenSpec.upto fnLinesApartSpec)

/-- 'laws.FnLinesClear', WHERE WHAT IT READS IS OF BULK AT MOST 1048576: true; the input reads as it did. -/
def fnLinesClearUptoRow : OpenClaim := { program := "ytangceejmjklcaa", sum := "e14fc8568a1f87c914fa9654b5821b1b7283428319b8168e17d07c79ca8c5cf3", func := "loop.example/pub-g01455/laws.FnLinesClear", spec := "fnLinesClear", unfollowed := true, recurses := true, apart := false, narrowed := true }
def FnLinesClearUptoSaid : Prop := fnLinesClearUptoRow.holds Try.pinned (OpenSpec.upto fnLinesClearSpec)

end Rows
end Go.Proofs.Ytangceejmjklcaa
