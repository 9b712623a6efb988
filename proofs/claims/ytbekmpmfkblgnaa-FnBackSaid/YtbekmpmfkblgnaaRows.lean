/-
  No cell of these rows narrows 'for every input' (looked for: loops, veiled, ifaces, maps, wideKeys, modest, calm, conditions, laid).
  DERIVED. THE GIVEN ROWS OF THIS SEAT. 11 by the template 'for every input the law returns true; each argument reads behind the call as it read before'; 0 by the template 'total and deterministic' (their statements: YtbekmpmfkblgnaaTotals.lean).
  GIVEN WITH THE SEED: the statements are not yours to turn. If you find one false, say at which input.
  Laid BY PROGRAM, IN A SANDBOX (cutbox-rows.mjs): the forced cells as the released guide's own fill.sh prints them over the translation 70c1d4975706d2ce… (all of the seat's roots in one cut). By AI agents, Wed Nov 11 2026. No macro, syntax, notation, axiom, sorry.
-/
import Derived.Test.YtbekmpmfkblgnaaChecked
import GoSem.Claim
import GoSem.ClaimJoined
import GoSem.ClaimMapViews
import Derived.JoinedTies
import Derived.KernelRfl
namespace Go.Proofs.Ytbekmpmfkblgnaa
/- THE CELL 'sum', in the pinned program and in every row, IS THE sha256 OF THE DUMP (.gsa) THAT YtbekmpmfkblgnaaProg.lean LOADS. Nothing in Lean hashes anything: it is a label: what it is worth is what the hold of that sum in a sandbox is worth. -/
noncomputable def Try.pinned : Pinned := { name := "ytbekmpmfkblgnaa", sum := "70c1d4975706d2ce1a0f8b6bcc8f7ea96a9c1ad63a67f92e65b17aee27dc65c6", checked := Try.checked }
namespace Rows
def none {H : Type} : Left H := { results := [], args := [] }

/-- 'laws.FnOrderFull': WHATEVER THE INPUT: true; the input reads as it did. -/
def fnOrderFullSpec : ChangeSpec := { name := "fnOrderFull", fn := fun _ => fun
  | [d1, d2, d3] => { results := [.lit (.bool true)], args := [d1, d2, d3] }
  | _ => none }
def fnOrderFullRow : OpenClaim := { program := "ytbekmpmfkblgnaa", sum := "70c1d4975706d2ce1a0f8b6bcc8f7ea96a9c1ad63a67f92e65b17aee27dc65c6", func := "loop.example/pub-g01455/laws.FnOrderFull", spec := "fnOrderFull", apart := false }
def FnOrderFullSaid : Prop := fnOrderFullRow.holds Try.pinned (OpenSpec.ofChange fnOrderFullSpec)

/-- ITS FALSE NEIGHBOUR: 'it returns false'. Refute it at one input. -/
def fnOrderFullWrong : ChangeSpec := { name := "fnOrderFull", fn := fun _ => fun
  | [d1, d2, d3] => { results := [.lit (.bool false)], args := [d1, d2, d3] }
  | _ => none }
def FnOrderFullWrongFalsely : Prop := fnOrderFullRow.holds Try.pinned (OpenSpec.ofChange fnOrderFullWrong)

/-- 'laws.FnSame': WHATEVER THE INPUT: true; the input reads as it did. -/
def fnSameSpec : ChangeSpec := { name := "fnSame", fn := fun _ => fun
  | [d1, d2] => { results := [.lit (.bool true)], args := [d1, d2] }
  | _ => none }
def fnSameRow : OpenClaim := { program := "ytbekmpmfkblgnaa", sum := "70c1d4975706d2ce1a0f8b6bcc8f7ea96a9c1ad63a67f92e65b17aee27dc65c6", func := "loop.example/pub-g01455/laws.FnSame", spec := "fnSame", apart := false }
def FnSameSaid : Prop := fnSameRow.holds Try.pinned (OpenSpec.ofChange fnSameSpec)

/-- ITS FALSE NEIGHBOUR: 'it returns false'. Refute it at one input. -/
def fnSameWrong : ChangeSpec := { name := "fnSame", fn := fun _ => fun
  | [d1, d2] => { results := [.lit (.bool false)], args := [d1, d2] }
  | _ => none }
def FnSameWrongFalsely : Prop := fnSameRow.holds Try.pinned (OpenSpec.ofChange fnSameWrong)

/-- 'laws.FnKnown': WHATEVER THE INPUT: true; the input reads as it did. -/
def fnKnownSpec : ChangeSpec := { name := "fnKnown", fn := fun _ => fun
  | [d1, d2] => { results := [.lit (.bool true)], args := [d1, d2] }
  | _ => none }
def fnKnownRow : OpenClaim := { program := "ytbekmpmfkblgnaa", sum := "70c1d4975706d2ce1a0f8b6bcc8f7ea96a9c1ad63a67f92e65b17aee27dc65c6", func := "loop.example/pub-g01455/laws.FnKnown", spec := "fnKnown", apart := false }
def FnKnownSaid : Prop := fnKnownRow.holds Try.pinned (OpenSpec.ofChange fnKnownSpec)

/-- ITS FALSE NEIGHBOUR: 'it returns false'. Refute it at one input. -/
def fnKnownWrong : ChangeSpec := { name := "fnKnown", fn := fun _ => fun
  | [d1, d2] => { results := [.lit (.bool false)], args := [d1, d2] }
  | _ => none }
def FnKnownWrongFalsely : Prop := fnKnownRow.holds Try.pinned (OpenSpec.ofChange fnKnownWrong)

/-- 'laws.FnRelative': WHATEVER THE INPUT: true; the input reads as it did. -/
def fnRelativeSpec : ChangeSpec := { name := "fnRelative", fn := fun _ => fun
  | [d1, d2, d3] => { results := [.lit (.bool true)], args := [d1, d2, d3] }
  | _ => none }
def fnRelativeRow : OpenClaim := { program := "ytbekmpmfkblgnaa", sum := "70c1d4975706d2ce1a0f8b6bcc8f7ea96a9c1ad63a67f92e65b17aee27dc65c6", func := "loop.example/pub-g01455/laws.FnRelative", spec := "fnRelative", apart := false }
def FnRelativeSaid : Prop := fnRelativeRow.holds Try.pinned (OpenSpec.ofChange fnRelativeSpec)

/-- ITS FALSE NEIGHBOUR: 'it returns false'. Refute it at one input. -/
def fnRelativeWrong : ChangeSpec := { name := "fnRelative", fn := fun _ => fun
  | [d1, d2, d3] => { results := [.lit (.bool false)], args := [d1, d2, d3] }
  | _ => none }
def FnRelativeWrongFalsely : Prop := fnRelativeRow.holds Try.pinned (OpenSpec.ofChange fnRelativeWrong)

/-- 'laws.FnTable': WHATEVER THE INPUT: true; the input reads as it did. -/
def fnTableSpec : ChangeSpec := { name := "fnTable", fn := fun _ => fun
  | [d1, d2] => { results := [.lit (.bool true)], args := [d1, d2] }
  | _ => none }
def fnTableRow : OpenClaim := { program := "ytbekmpmfkblgnaa", sum := "70c1d4975706d2ce1a0f8b6bcc8f7ea96a9c1ad63a67f92e65b17aee27dc65c6", func := "loop.example/pub-g01455/laws.FnTable", spec := "fnTable", apart := false }
def FnTableSaid : Prop := fnTableRow.holds Try.pinned (OpenSpec.ofChange fnTableSpec)

/-- ITS FALSE NEIGHBOUR: 'it returns false'. Refute it at one input. -/
def fnTableWrong : ChangeSpec := { name := "fnTable", fn := fun _ => fun
  | [d1, d2] => { results := [.lit (.bool false)], args := [d1, d2] }
  | _ => none }
def FnTableWrongFalsely : Prop := fnTableRow.holds Try.pinned (OpenSpec.ofChange fnTableWrong)

/-- 'laws.FnOrder': WHATEVER THE INPUT: true; the input reads as it did. -/
def fnOrderSpec : ChangeSpec := { name := "fnOrder", fn := fun _ => fun
  | [d1, d2] => { results := [.lit (.bool true)], args := [d1, d2] }
  | _ => none }
def fnOrderRow : OpenClaim := { program := "ytbekmpmfkblgnaa", sum := "70c1d4975706d2ce1a0f8b6bcc8f7ea96a9c1ad63a67f92e65b17aee27dc65c6", func := "loop.example/pub-g01455/laws.FnOrder", spec := "fnOrder", apart := false }
def FnOrderSaid : Prop := fnOrderRow.holds Try.pinned (OpenSpec.ofChange fnOrderSpec)

/-- ITS FALSE NEIGHBOUR: 'it returns false'. Refute it at one input. -/
def fnOrderWrong : ChangeSpec := { name := "fnOrder", fn := fun _ => fun
  | [d1, d2] => { results := [.lit (.bool false)], args := [d1, d2] }
  | _ => none }
def FnOrderWrongFalsely : Prop := fnOrderRow.holds Try.pinned (OpenSpec.ofChange fnOrderWrong)

/-- 'laws.FnOrderChain': WHATEVER THE INPUT: true; the input reads as it did. -/
def fnOrderChainSpec : ChangeSpec := { name := "fnOrderChain", fn := fun _ => fun
  | [d1, d2, d3] => { results := [.lit (.bool true)], args := [d1, d2, d3] }
  | _ => none }
def fnOrderChainRow : OpenClaim := { program := "ytbekmpmfkblgnaa", sum := "70c1d4975706d2ce1a0f8b6bcc8f7ea96a9c1ad63a67f92e65b17aee27dc65c6", func := "loop.example/pub-g01455/laws.FnOrderChain", spec := "fnOrderChain", apart := false }
def FnOrderChainSaid : Prop := fnOrderChainRow.holds Try.pinned (OpenSpec.ofChange fnOrderChainSpec)

/-- ITS FALSE NEIGHBOUR: 'it returns false'. Refute it at one input. -/
def fnOrderChainWrong : ChangeSpec := { name := "fnOrderChain", fn := fun _ => fun
  | [d1, d2, d3] => { results := [.lit (.bool false)], args := [d1, d2, d3] }
  | _ => none }
def FnOrderChainWrongFalsely : Prop := fnOrderChainRow.holds Try.pinned (OpenSpec.ofChange fnOrderChainWrong)

/-- 'laws.FnOrderFiles': WHATEVER THE INPUT: true; the input reads as it did. -/
def fnOrderFilesSpec : ChangeSpec := { name := "fnOrderFiles", fn := fun _ => fun
  | [d1, d2, d3, d4] => { results := [.lit (.bool true)], args := [d1, d2, d3, d4] }
  | _ => none }
def fnOrderFilesRow : OpenClaim := { program := "ytbekmpmfkblgnaa", sum := "70c1d4975706d2ce1a0f8b6bcc8f7ea96a9c1ad63a67f92e65b17aee27dc65c6", func := "loop.example/pub-g01455/laws.FnOrderFiles", spec := "fnOrderFiles", apart := false }
def FnOrderFilesSaid : Prop := fnOrderFilesRow.holds Try.pinned (OpenSpec.ofChange fnOrderFilesSpec)

/-- ITS FALSE NEIGHBOUR: 'it returns false'. Refute it at one input. -/
def fnOrderFilesWrong : ChangeSpec := { name := "fnOrderFiles", fn := fun _ => fun
  | [d1, d2, d3, d4] => { results := [.lit (.bool false)], args := [d1, d2, d3, d4] }
  | _ => none }
def FnOrderFilesWrongFalsely : Prop := fnOrderFilesRow.holds Try.pinned (OpenSpec.ofChange fnOrderFilesWrong)

/-- 'laws.FnBack': WHATEVER THE INPUT: true; the input reads as it did. -/
def fnBackSpec : ChangeSpec := { name := "fnBack", fn := fun _ => fun
  | [d1, d2] => { results := [.lit (.bool true)], args := [d1, d2] }
  | _ => none }
def fnBackRow : OpenClaim := { program := "ytbekmpmfkblgnaa", sum := "70c1d4975706d2ce1a0f8b6bcc8f7ea96a9c1ad63a67f92e65b17aee27dc65c6", func := "loop.example/pub-g01455/laws.FnBack", spec := "fnBack", apart := false }
def FnBackSaid : Prop := fnBackRow.holds Try.pinned (OpenSpec.ofChange fnBackSpec)

/-- ITS FALSE NEIGHBOUR: 'it returns false'. Refute it at one input. -/
def fnBackWrong : ChangeSpec := { name := "fnBack", fn := fun _ => fun
  | [d1, d2] => { results := [.lit (.bool false)], args := [d1, d2] }
  | _ => none }
def FnBackWrongFalsely : Prop := fnBackRow.holds Try.pinned (OpenSpec.ofChange fnBackWrong)

/-- 'laws.FnChanged': WHATEVER THE INPUT: true; the input reads as it did. -/
def fnChangedSpec : ChangeSpec := { name := "fnChanged", fn := fun _ => fun
  | [d1, d2, d3] => { results := [.lit (.bool true)], args := [d1, d2, d3] }
  | _ => none }
def fnChangedRow : OpenClaim := { program := "ytbekmpmfkblgnaa", sum := "70c1d4975706d2ce1a0f8b6bcc8f7ea96a9c1ad63a67f92e65b17aee27dc65c6", func := "loop.example/pub-g01455/laws.FnChanged", spec := "fnChanged", apart := false }
def FnChangedSaid : Prop := fnChangedRow.holds Try.pinned (OpenSpec.ofChange fnChangedSpec)

/-- ITS FALSE NEIGHBOUR: 'it returns false'. Refute it at one input. -/
def fnChangedWrong : ChangeSpec := { name := "fnChanged", fn := fun _ => fun
  | [d1, d2, d3] => { results := [.lit (.bool false)], args := [d1, d2, d3] }
  | _ => none }
def FnChangedWrongFalsely : Prop := fnChangedRow.holds Try.pinned (OpenSpec.ofChange fnChangedWrong)

/-- 'laws.FnMarked': WHATEVER THE INPUT: true; the input reads as it did. -/
def fnMarkedSpec : ChangeSpec := { name := "fnMarked", fn := fun _ => fun
  | [d1, d2, d3, d4] => { results := [.lit (.bool true)], args := [d1, d2, d3, d4] }
  | _ => none }
def fnMarkedRow : OpenClaim := { program := "ytbekmpmfkblgnaa", sum := "70c1d4975706d2ce1a0f8b6bcc8f7ea96a9c1ad63a67f92e65b17aee27dc65c6", func := "loop.example/pub-g01455/laws.FnMarked", spec := "fnMarked", apart := false }
def FnMarkedSaid : Prop := fnMarkedRow.holds Try.pinned (OpenSpec.ofChange fnMarkedSpec)

/-- ITS FALSE NEIGHBOUR: 'it returns false'. Refute it at one input. -/
def fnMarkedWrong : ChangeSpec := { name := "fnMarked", fn := fun _ => fun
  | [d1, d2, d3, d4] => { results := [.lit (.bool false)], args := [d1, d2, d3, d4] }
  | _ => none }
def FnMarkedWrongFalsely : Prop := fnMarkedRow.holds Try.pinned (OpenSpec.ofChange fnMarkedWrong)

/- THE SECOND FORM. 'bulk': how many values and letters a reading holds, each counted each time it is reached (what is shared counts as often as it is met; a slice's spare places count too). A statement '..UptoSaid' is the law's where the arguments, and the package variables that the reading takes, are together of bulk at most 1048576: NARROWER than '..Said'. Prove '..Said' where nothing that the law and all that it calls make is longer than what came in: it says more and counts as full. Else prove '..UptoSaid'. A law counts once. -/
mutual
def uptoBulk {H : Type} : DataW H → Nat
  | .lit (.string bytes) => bytes.length + 1
  | .lit _ => 1
  | .nil => 1
  | .ptr d => uptoBulk d + 1
  | .slice elems spare => uptoBulkAll elems + uptoBulkAll spare + 1
  | .agg parts => uptoBulkAll parts + 1
  | .iface _ d => uptoBulk d + 1
  | .map entries => uptoBulkEntries entries + 1
  | .held _ => 1
def uptoBulkAll {H : Type} : List (DataW H) → Nat
  | [] => 0
  | d :: r => uptoBulk d + uptoBulkAll r
def uptoBulkEntries {H : Type} : List (Lit × DataW H) → Nat
  | [] => 0
  | x :: r => uptoBulkEntry x + uptoBulkEntries r
def uptoBulkEntry {H : Type} : Lit × DataW H → Nat
  | (.string bytes, d) => bytes.length + uptoBulk d + 1
  | (_, d) => uptoBulk d + 1
 end
def uptoSmall : (H : Type) → List (DataW H) → Bool := fun _ ds => decide (uptoBulkAll ds ≤ 1048576)
def OpenSpec.upto (s : _root_.Go.ChangeSpec) : _root_.Go.OpenSpec := { _root_.Go.OpenSpec.ofChange s with cond := some uptoSmall }

/-- 'laws.FnOrderFull', WHERE WHAT IT READS IS OF BULK AT MOST 1048576: true; the input reads as it did. -/
def fnOrderFullUptoRow : OpenClaim := { program := "ytbekmpmfkblgnaa", sum := "70c1d4975706d2ce1a0f8b6bcc8f7ea96a9c1ad63a67f92e65b17aee27dc65c6", func := "loop.example/pub-g01455/laws.FnOrderFull", spec := "fnOrderFull", apart := false, narrowed := true }
def FnOrderFullUptoSaid : Prop := fnOrderFullUptoRow.holds Try.pinned (OpenSpec.upto fnOrderFullSpec)

/-- 'laws.FnSame', WHERE WHAT IT READS IS OF BULK AT MOST 1048576: true; the input reads as it did. -/
def fnSameUptoRow : OpenClaim := { program := "ytbekmpmfkblgnaa", sum := "70c1d4975706d2ce1a0f8b6bcc8f7ea96a9c1ad63a67f92e65b17aee27dc65c6", func := "loop.example/pub-g01455/laws.FnSame", spec := "fnSame", apart := false, narrowed := true }
def FnSameUptoSaid : Prop := fnSameUptoRow.holds Try.pinned (OpenSpec.upto fnSameSpec)

/-- 'laws.FnKnown', WHERE WHAT IT READS IS OF BULK AT MOST 1048576: true; the input reads as it did. -/
def fnKnownUptoRow : OpenClaim := { program := "ytbekmpmfkblgnaa", sum := "70c1d4975706d2ce1a0f8b6bcc8f7ea96a9c1ad63a67f92e65b17aee27dc65c6", func := "loop.example/pub-g01455/laws.FnKnown", spec := "fnKnown", apart := false, narrowed := true }
def FnKnownUptoSaid : Prop := fnKnownUptoRow.holds Try.pinned (OpenSpec.upto fnKnownSpec)

/-- 'laws.FnRelative', WHERE WHAT IT READS IS OF BULK AT MOST 1048576: true; the input reads as it did. -/
def fnRelativeUptoRow : OpenClaim := { program := "ytbekmpmfkblgnaa", sum := "70c1d4975706d2ce1a0f8b6bcc8f7ea96a9c1ad63a67f92e65b17aee27dc65c6", func := "loop.example/pub-g01455/laws.FnRelative", spec := "fnRelative", apart := false, narrowed := true }
def FnRelativeUptoSaid : Prop := fnRelativeUptoRow.holds Try.pinned (OpenSpec.upto fnRelativeSpec)

/-- 'laws.FnTable', WHERE WHAT IT READS IS OF BULK AT MOST 1048576: true; the input reads as it did. -/
def fnTableUptoRow : OpenClaim := { program := "ytbekmpmfkblgnaa", sum := "70c1d4975706d2ce1a0f8b6bcc8f7ea96a9c1ad63a67f92e65b17aee27dc65c6", func := "loop.example/pub-g01455/laws.FnTable", spec := "fnTable", apart := false, narrowed := true }
def FnTableUptoSaid : Prop := fnTableUptoRow.holds Try.pinned (OpenSpec.upto fnTableSpec)

/-- 'laws.FnOrder', WHERE WHAT IT READS IS OF BULK AT MOST 1048576: true; the input reads as it did. -/
def fnOrderUptoRow : OpenClaim := { program := "ytbekmpmfkblgnaa", sum := "70c1d4975706d2ce1a0f8b6bcc8f7ea96a9c1ad63a67f92e65b17aee27dc65c6", func := "loop.example/pub-g01455/laws.FnOrder", spec := "fnOrder", apart := false, narrowed := true }
def FnOrderUptoSaid : Prop := fnOrderUptoRow.holds Try.pinned (OpenSpec.upto fnOrderSpec)

/-- 'laws.FnOrderChain', WHERE WHAT IT READS IS OF BULK AT MOST 1048576: true; the input reads as it did. -/
def fnOrderChainUptoRow : OpenClaim := { program := "ytbekmpmfkblgnaa", sum := "70c1d4975706d2ce1a0f8b6bcc8f7ea96a9c1ad63a67f92e65b17aee27dc65c6", func := "loop.example/pub-g01455/laws.FnOrderChain", spec := "fnOrderChain", apart := false, narrowed := true }
def FnOrderChainUptoSaid : Prop := fnOrderChainUptoRow.holds Try.pinned (OpenSpec.upto fnOrderChainSpec)

/-- 'laws.FnOrderFiles', WHERE WHAT IT READS IS OF BULK AT MOST 1048576: true; the input reads as it did. -/
def fnOrderFilesUptoRow : OpenClaim := { program := "ytbekmpmfkblgnaa", sum := "70c1d4975706d2ce1a0f8b6bcc8f7ea96a9c1ad63a67f92e65b17aee27dc65c6", func := "loop.example/pub-g01455/laws.FnOrderFiles", spec := "fnOrderFiles", apart := false, narrowed := true }
def FnOrderFilesUptoSaid : Prop := fnOrderFilesUptoRow.holds Try.pinned (OpenSpec.upto fnOrderFilesSpec)

/-- 'laws.FnBack', WHERE WHAT IT READS IS OF BULK AT MOST 1048576: true; the input reads as it did. -/
def fnBackUptoRow : OpenClaim := { program := "ytbekmpmfkblgnaa", sum := "70c1d4975706d2ce1a0f8b6bcc8f7ea96a9c1ad63a67f92e65b17aee27dc65c6", func := "loop.example/pub-g01455/laws.FnBack", spec := "fnBack", apart := false, narrowed := true }
def FnBackUptoSaid : Prop := fnBackUptoRow.holds Try.pinned (OpenSpec.upto fnBackSpec)

/-- 'laws.FnChanged', WHERE WHAT IT READS IS OF BULK AT MOST 1048576: true; the input reads as it did. -/
def fnChangedUptoRow : OpenClaim := { program := "ytbekmpmfkblgnaa", sum := "70c1d4975706d2ce1a0f8b6bcc8f7ea96a9c1ad63a67f92e65b17aee27dc65c6", func := "loop.example/pub-g01455/laws.FnChanged", spec := "fnChanged", apart := false, narrowed := true }
def FnChangedUptoSaid : Prop := fnChangedUptoRow.holds Try.pinned (OpenSpec.upto fnChangedSpec)

/-- 'laws.FnMarked', WHERE WHAT IT READS IS OF BULK AT MOST 1048576: true; the input reads as it did. -/
def fnMarkedUptoRow : OpenClaim := { program := "ytbekmpmfkblgnaa", sum := "70c1d4975706d2ce1a0f8b6bcc8f7ea96a9c1ad63a67f92e65b17aee27dc65c6", func := "loop.example/pub-g01455/laws.FnMarked", spec := "fnMarked", apart := false, narrowed := true }
def FnMarkedUptoSaid : Prop := fnMarkedUptoRow.holds Try.pinned (OpenSpec.upto fnMarkedSpec)

end Rows
end Go.Proofs.Ytbekmpmfkblgnaa
