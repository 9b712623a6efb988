/-
  No cell of these rows narrows 'for every input' (looked for: loops, veiled, ifaces, maps, wideKeys, modest, calm, conditions, laid).
  DERIVED. THE GIVEN ROWS OF THIS SEAT. 10 by the template 'for every input the law returns true; each argument reads behind the call as it read before'; 0 by the template 'total and deterministic' (their statements: YtdmjcgipfkhibaaTotals.lean).
  GIVEN WITH THE SEED: the statements are not yours to turn. If you find one false, say at which input.
  Laid BY PROGRAM, IN A SANDBOX (cutbox-rows.mjs): the forced cells as the released guide's own fill.sh prints them over the translation 61a2571138da77d4… (all of the seat's roots in one cut). By AI agents, Wed Nov 11 2026. No macro, syntax, notation, axiom, sorry.
-/
import Derived.Test.YtdmjcgipfkhibaaChecked
import GoSem.Claim
import GoSem.ClaimJoined
import GoSem.ClaimMapViews
import Derived.JoinedTies
import Derived.KernelRfl
namespace Go.Proofs.Ytdmjcgipfkhibaa
/- THE CELL 'sum', in the pinned program and in every row, IS THE sha256 OF THE DUMP (.gsa) THAT YtdmjcgipfkhibaaProg.lean LOADS. Nothing in Lean hashes anything: it is a label: what it is worth is what the hold of that sum in a sandbox is worth. -/
noncomputable def Try.pinned : Pinned := { name := "ytdmjcgipfkhibaa", sum := "61a2571138da77d4b3a475df443ee92ed44baed8edb2f5687cdefe2298e09e28", checked := Try.checked }
namespace Rows
def none {H : Type} : Left H := { results := [], args := [] }

/-- 'laws.FnMap': WHATEVER THE INPUT: true; the input reads as it did. -/
def fnMapSpec : ChangeSpec := { name := "fnMap", fn := fun _ => fun
  | [d1, d2] => { results := [.lit (.bool true)], args := [d1, d2] }
  | _ => none }
def fnMapRow : OpenClaim := { program := "ytdmjcgipfkhibaa", sum := "61a2571138da77d4b3a475df443ee92ed44baed8edb2f5687cdefe2298e09e28", func := "loop.example/pub-g01455/laws.FnMap", spec := "fnMap", apart := false }
def FnMapSaid : Prop := fnMapRow.holds Try.pinned (OpenSpec.ofChange fnMapSpec)

/-- ITS FALSE NEIGHBOUR: 'it returns false'. Refute it at one input. -/
def fnMapWrong : ChangeSpec := { name := "fnMap", fn := fun _ => fun
  | [d1, d2] => { results := [.lit (.bool false)], args := [d1, d2] }
  | _ => none }
def FnMapWrongFalsely : Prop := fnMapRow.holds Try.pinned (OpenSpec.ofChange fnMapWrong)

/-- 'laws.FnMapEntries': WHATEVER THE INPUT: true; the input reads as it did. -/
def fnMapEntriesSpec : ChangeSpec := { name := "fnMapEntries", fn := fun _ => fun
  | [d1, d2, d3] => { results := [.lit (.bool true)], args := [d1, d2, d3] }
  | _ => none }
def fnMapEntriesRow : OpenClaim := { program := "ytdmjcgipfkhibaa", sum := "61a2571138da77d4b3a475df443ee92ed44baed8edb2f5687cdefe2298e09e28", func := "loop.example/pub-g01455/laws.FnMapEntries", spec := "fnMapEntries", apart := false }
def FnMapEntriesSaid : Prop := fnMapEntriesRow.holds Try.pinned (OpenSpec.ofChange fnMapEntriesSpec)

/-- ITS FALSE NEIGHBOUR: 'it returns false'. Refute it at one input. -/
def fnMapEntriesWrong : ChangeSpec := { name := "fnMapEntries", fn := fun _ => fun
  | [d1, d2, d3] => { results := [.lit (.bool false)], args := [d1, d2, d3] }
  | _ => none }
def FnMapEntriesWrongFalsely : Prop := fnMapEntriesRow.holds Try.pinned (OpenSpec.ofChange fnMapEntriesWrong)

/-- 'laws.FnMapLast': WHATEVER THE INPUT: true; the input reads as it did. -/
def fnMapLastSpec : ChangeSpec := { name := "fnMapLast", fn := fun _ => fun
  | [d1, d2, d3, d4] => { results := [.lit (.bool true)], args := [d1, d2, d3, d4] }
  | _ => none }
def fnMapLastRow : OpenClaim := { program := "ytdmjcgipfkhibaa", sum := "61a2571138da77d4b3a475df443ee92ed44baed8edb2f5687cdefe2298e09e28", func := "loop.example/pub-g01455/laws.FnMapLast", spec := "fnMapLast", apart := false }
def FnMapLastSaid : Prop := fnMapLastRow.holds Try.pinned (OpenSpec.ofChange fnMapLastSpec)

/-- ITS FALSE NEIGHBOUR: 'it returns false'. Refute it at one input. -/
def fnMapLastWrong : ChangeSpec := { name := "fnMapLast", fn := fun _ => fun
  | [d1, d2, d3, d4] => { results := [.lit (.bool false)], args := [d1, d2, d3, d4] }
  | _ => none }
def FnMapLastWrongFalsely : Prop := fnMapLastRow.holds Try.pinned (OpenSpec.ofChange fnMapLastWrong)

/-- 'laws.FnMapRemoves': WHATEVER THE INPUT: true; the input reads as it did. -/
def fnMapRemovesSpec : ChangeSpec := { name := "fnMapRemoves", fn := fun _ => fun
  | [d1, d2, d3, d4] => { results := [.lit (.bool true)], args := [d1, d2, d3, d4] }
  | _ => none }
def fnMapRemovesRow : OpenClaim := { program := "ytdmjcgipfkhibaa", sum := "61a2571138da77d4b3a475df443ee92ed44baed8edb2f5687cdefe2298e09e28", func := "loop.example/pub-g01455/laws.FnMapRemoves", spec := "fnMapRemoves", apart := false }
def FnMapRemovesSaid : Prop := fnMapRemovesRow.holds Try.pinned (OpenSpec.ofChange fnMapRemovesSpec)

/-- ITS FALSE NEIGHBOUR: 'it returns false'. Refute it at one input. -/
def fnMapRemovesWrong : ChangeSpec := { name := "fnMapRemoves", fn := fun _ => fun
  | [d1, d2, d3, d4] => { results := [.lit (.bool false)], args := [d1, d2, d3, d4] }
  | _ => none }
def FnMapRemovesWrongFalsely : Prop := fnMapRemovesRow.holds Try.pinned (OpenSpec.ofChange fnMapRemovesWrong)

/-- 'laws.FnMapPos': WHATEVER THE INPUT: true; the input reads as it did. -/
def fnMapPosSpec : ChangeSpec := { name := "fnMapPos", fn := fun _ => fun
  | [d1, d2] => { results := [.lit (.bool true)], args := [d1, d2] }
  | _ => none }
def fnMapPosRow : OpenClaim := { program := "ytdmjcgipfkhibaa", sum := "61a2571138da77d4b3a475df443ee92ed44baed8edb2f5687cdefe2298e09e28", func := "loop.example/pub-g01455/laws.FnMapPos", spec := "fnMapPos", apart := false }
def FnMapPosSaid : Prop := fnMapPosRow.holds Try.pinned (OpenSpec.ofChange fnMapPosSpec)

/-- ITS FALSE NEIGHBOUR: 'it returns false'. Refute it at one input. -/
def fnMapPosWrong : ChangeSpec := { name := "fnMapPos", fn := fun _ => fun
  | [d1, d2] => { results := [.lit (.bool false)], args := [d1, d2] }
  | _ => none }
def FnMapPosWrongFalsely : Prop := fnMapPosRow.holds Try.pinned (OpenSpec.ofChange fnMapPosWrong)

/-- 'laws.FnBiased': WHATEVER THE INPUT: true; the input reads as it did. -/
def fnBiasedSpec : ChangeSpec := { name := "fnBiased", fn := fun _ => fun
  | [d1, d2, d3] => { results := [.lit (.bool true)], args := [d1, d2, d3] }
  | _ => none }
def fnBiasedRow : OpenClaim := { program := "ytdmjcgipfkhibaa", sum := "61a2571138da77d4b3a475df443ee92ed44baed8edb2f5687cdefe2298e09e28", func := "loop.example/pub-g01455/laws.FnBiased", spec := "fnBiased", apart := false }
def FnBiasedSaid : Prop := fnBiasedRow.holds Try.pinned (OpenSpec.ofChange fnBiasedSpec)

/-- ITS FALSE NEIGHBOUR: 'it returns false'. Refute it at one input. -/
def fnBiasedWrong : ChangeSpec := { name := "fnBiased", fn := fun _ => fun
  | [d1, d2, d3] => { results := [.lit (.bool false)], args := [d1, d2, d3] }
  | _ => none }
def FnBiasedWrongFalsely : Prop := fnBiasedRow.holds Try.pinned (OpenSpec.ofChange fnBiasedWrong)

/-- 'laws.FnBiasedOutside': WHATEVER THE INPUT: true; the input reads as it did. -/
def fnBiasedOutsideSpec : ChangeSpec := { name := "fnBiasedOutside", fn := fun _ => fun
  | [d1, d2, d3, d4, d5] => { results := [.lit (.bool true)], args := [d1, d2, d3, d4, d5] }
  | _ => none }
def fnBiasedOutsideRow : OpenClaim := { program := "ytdmjcgipfkhibaa", sum := "61a2571138da77d4b3a475df443ee92ed44baed8edb2f5687cdefe2298e09e28", func := "loop.example/pub-g01455/laws.FnBiasedOutside", spec := "fnBiasedOutside", apart := false }
def FnBiasedOutsideSaid : Prop := fnBiasedOutsideRow.holds Try.pinned (OpenSpec.ofChange fnBiasedOutsideSpec)

/-- ITS FALSE NEIGHBOUR: 'it returns false'. Refute it at one input. -/
def fnBiasedOutsideWrong : ChangeSpec := { name := "fnBiasedOutside", fn := fun _ => fun
  | [d1, d2, d3, d4, d5] => { results := [.lit (.bool false)], args := [d1, d2, d3, d4, d5] }
  | _ => none }
def FnBiasedOutsideWrongFalsely : Prop := fnBiasedOutsideRow.holds Try.pinned (OpenSpec.ofChange fnBiasedOutsideWrong)

/-- 'laws.FnBiasedShift': WHATEVER THE INPUT: true; the input reads as it did. -/
def fnBiasedShiftSpec : ChangeSpec := { name := "fnBiasedShift", fn := fun _ => fun
  | [d1, d2, d3, d4] => { results := [.lit (.bool true)], args := [d1, d2, d3, d4] }
  | _ => none }
def fnBiasedShiftRow : OpenClaim := { program := "ytdmjcgipfkhibaa", sum := "61a2571138da77d4b3a475df443ee92ed44baed8edb2f5687cdefe2298e09e28", func := "loop.example/pub-g01455/laws.FnBiasedShift", spec := "fnBiasedShift", apart := false }
def FnBiasedShiftSaid : Prop := fnBiasedShiftRow.holds Try.pinned (OpenSpec.ofChange fnBiasedShiftSpec)

/-- ITS FALSE NEIGHBOUR: 'it returns false'. Refute it at one input. -/
def fnBiasedShiftWrong : ChangeSpec := { name := "fnBiasedShift", fn := fun _ => fun
  | [d1, d2, d3, d4] => { results := [.lit (.bool false)], args := [d1, d2, d3, d4] }
  | _ => none }
def FnBiasedShiftWrongFalsely : Prop := fnBiasedShiftRow.holds Try.pinned (OpenSpec.ofChange fnBiasedShiftWrong)

/-- 'laws.FnMapSet': WHATEVER THE INPUT: true; the input reads as it did. -/
def fnMapSetSpec : ChangeSpec := { name := "fnMapSet", fn := fun _ => fun
  | [d1, d2] => { results := [.lit (.bool true)], args := [d1, d2] }
  | _ => none }
def fnMapSetRow : OpenClaim := { program := "ytdmjcgipfkhibaa", sum := "61a2571138da77d4b3a475df443ee92ed44baed8edb2f5687cdefe2298e09e28", func := "loop.example/pub-g01455/laws.FnMapSet", spec := "fnMapSet", apart := false }
def FnMapSetSaid : Prop := fnMapSetRow.holds Try.pinned (OpenSpec.ofChange fnMapSetSpec)

/-- ITS FALSE NEIGHBOUR: 'it returns false'. Refute it at one input. -/
def fnMapSetWrong : ChangeSpec := { name := "fnMapSet", fn := fun _ => fun
  | [d1, d2] => { results := [.lit (.bool false)], args := [d1, d2] }
  | _ => none }
def FnMapSetWrongFalsely : Prop := fnMapSetRow.holds Try.pinned (OpenSpec.ofChange fnMapSetWrong)

/-- 'laws.FnMapTwo': WHATEVER THE INPUT: true; the input reads as it did. -/
def fnMapTwoSpec : ChangeSpec := { name := "fnMapTwo", fn := fun _ => fun
  | [d1, d2] => { results := [.lit (.bool true)], args := [d1, d2] }
  | _ => none }
def fnMapTwoRow : OpenClaim := { program := "ytdmjcgipfkhibaa", sum := "61a2571138da77d4b3a475df443ee92ed44baed8edb2f5687cdefe2298e09e28", func := "loop.example/pub-g01455/laws.FnMapTwo", spec := "fnMapTwo", apart := false }
def FnMapTwoSaid : Prop := fnMapTwoRow.holds Try.pinned (OpenSpec.ofChange fnMapTwoSpec)

/-- ITS FALSE NEIGHBOUR: 'it returns false'. Refute it at one input. -/
def fnMapTwoWrong : ChangeSpec := { name := "fnMapTwo", fn := fun _ => fun
  | [d1, d2] => { results := [.lit (.bool false)], args := [d1, d2] }
  | _ => none }
def FnMapTwoWrongFalsely : Prop := fnMapTwoRow.holds Try.pinned (OpenSpec.ofChange fnMapTwoWrong)

/- THE SECOND FORM. 'bulk': how many values and letters a reading holds, each counted each time it is reached (what is shared counts as often as it is met; a slice's spare places count too). A statement '..UptoSaid' is the law's where the arguments, and the package variables that the reading takes, are together of bulk at most 1048576: NARROWER than '..Said'. Prove '..Said' where nothing that the law and all that it calls make is longer than what came in: it says more and counts as full. Else prove '..UptoSaid'. A law counts once. -/
mutual
def uptoBulk {H : Type} : DataW H → Nat
  | .lit (.string bytes) => bytes.length + 1
  | .lit _ => 1
  | .nil => 1
  | .ptr d => uptoBulk d + 1
  | .slice elems spare => uptoBulkAll elems + uptoBulkAll spare + 1
  | .agg parts => uptoBulkAll parts + 1
  | .iface _ d => uptoBulk d + 1
  | .map entries => uptoBulkEntries entries + 1
  | .held _ => 1
def uptoBulkAll {H : Type} : List (DataW H) → Nat
  | [] => 0
  | d :: r => uptoBulk d + uptoBulkAll r
def uptoBulkEntries {H : Type} : List (Lit × DataW H) → Nat
  | [] => 0
  | x :: r => uptoBulkEntry x + uptoBulkEntries r
def uptoBulkEntry {H : Type} : Lit × DataW H → Nat
  | (.string bytes, d) => bytes.length + uptoBulk d + 1
  | (_, d) => uptoBulk d + 1
 end
def uptoSmall : (H : Type) → List (DataW H) → Bool := fun _ ds => decide (uptoBulkAll ds ≤ 1048576)
def OpenSpec.upto (s : _root_.Go.ChangeSpec) : _root_.Go.OpenSpec := { _root_.Go.OpenSpec.ofChange s with cond := some uptoSmall }

/-- 'laws.FnMap', WHERE WHAT IT READS IS OF BULK AT MOST 1048576: true; the input reads as it did. -/
def fnMapUptoRow : OpenClaim := { program := "ytdmjcgipfkhibaa", sum := "61a2571138da77d4b3a475df443ee92ed44baed8edb2f5687cdefe2298e09e28", func := "loop.example/pub-g01455/laws.FnMap", spec := "fnMap", apart := false, narrowed := true }
def FnMapUptoSaid : Prop := fnMapUptoRow.holds Try.pinned (OpenSpec.upto fnMapSpec)

/-- 'laws.FnMapEntries', WHERE WHAT IT READS IS OF BULK AT MOST 1048576: true; the input reads as it did. -/
def fnMapEntriesUptoRow : OpenClaim := { program := "ytdmjcgipfkhibaa", sum := "61a2571138da77d4b3a475df443ee92ed44baed8edb2f5687cdefe2298e09e28", func := "loop.example/pub-g01455/laws.FnMapEntries", spec := "fnMapEntries", apart := false, narrowed := true }
def FnMapEntriesUptoSaid : Prop := fnMapEntriesUptoRow.holds Try.pinned (OpenSpec.upto fnMapEntriesSpec)

/-- 'laws.FnMapLast', WHERE WHAT IT READS IS OF BULK AT MOST 1048576: true; the input reads as it did. -/
def fnMapLastUptoRow : OpenClaim := { program := "ytdmjcgipfkhibaa", sum := "61a2571138da77d4b3a475df443ee92ed44baed8edb2f5687cdefe2298e09e28", func := "loop.example/pub-g01455/laws.FnMapLast", spec := "fnMapLast", apart := false, narrowed := true }
def FnMapLastUptoSaid : Prop := fnMapLastUptoRow.holds Try.pinned (OpenSpec.upto fnMapLastSpec)

/-- 'laws.FnMapRemoves', WHERE WHAT IT READS IS OF BULK AT MOST 1048576: true; the input reads as it did. -/
def fnMapRemovesUptoRow : OpenClaim := { program := "ytdmjcgipfkhibaa", sum := "61a2571138da77d4b3a475df443ee92ed44baed8edb2f5687cdefe2298e09e28", func := "loop.example/pub-g01455/laws.FnMapRemoves", spec := "fnMapRemoves", apart := false, narrowed := true }
def FnMapRemovesUptoSaid : Prop := fnMapRemovesUptoRow.holds Try.pinned (OpenSpec.upto fnMapRemovesSpec)

/-- 'laws.FnMapPos', WHERE WHAT IT READS IS OF BULK AT MOST 1048576: true; the input reads as it did. -/
def fnMapPosUptoRow : OpenClaim := { program := "ytdmjcgipfkhibaa", sum := "61a2571138da77d4b3a475df443ee92ed44baed8edb2f5687cdefe2298e09e28", func := "loop.example/pub-g01455/laws.FnMapPos", spec := "fnMapPos", apart := false, narrowed := true }
def FnMapPosUptoSaid : Prop := fnMapPosUptoRow.holds Try.pinned (OpenSpec.upto fnMapPosSpec)

/-- 'laws.FnBiased', WHERE WHAT IT READS IS OF BULK AT MOST 1048576: true; the input reads as it did. -/
def fnBiasedUptoRow : OpenClaim := { program := "ytdmjcgipfkhibaa", sum := "61a2571138da77d4b3a475df443ee92ed44baed8edb2f5687cdefe2298e09e28", func := "loop.example/pub-g01455/laws.FnBiased", spec := "fnBiased", apart := false, narrowed := true }
def FnBiasedUptoSaid : Prop := fnBiasedUptoRow.holds Try.pinned (OpenSpec.upto fnBiasedSpec)

/-- 'laws.FnBiasedOutside', WHERE WHAT IT READS IS OF BULK AT MOST 1048576: true; the input reads as it did. -/
def fnBiasedOutsideUptoRow : OpenClaim := { program := "ytdmjcgipfkhibaa", sum := "61a2571138da77d4b3a475df443ee92ed44baed8edb2f5687cdefe2298e09e28", func := "loop.example/pub-g01455/laws.FnBiasedOutside", spec := "fnBiasedOutside", apart := false, narrowed := true }
def FnBiasedOutsideUptoSaid : Prop := fnBiasedOutsideUptoRow.holds Try.pinned (OpenSpec.upto fnBiasedOutsideSpec)

/-- 'laws.FnBiasedShift', WHERE WHAT IT READS IS OF BULK AT MOST 1048576: true; the input reads as it did. -/
def fnBiasedShiftUptoRow : OpenClaim := { program := "ytdmjcgipfkhibaa", sum := "61a2571138da77d4b3a475df443ee92ed44baed8edb2f5687cdefe2298e09e28", func := "loop.example/pub-g01455/laws.FnBiasedShift", spec := "fnBiasedShift", apart := false, narrowed := true }
def FnBiasedShiftUptoSaid : Prop := fnBiasedShiftUptoRow.holds Try.pinned (OpenSpec.upto fnBiasedShiftSpec)

/-- 'laws.FnMapSet', WHERE WHAT IT READS IS OF BULK AT MOST 1048576: true; the input reads as it did. -/
def fnMapSetUptoRow : OpenClaim := { program := "ytdmjcgipfkhibaa", sum := "61a2571138da77d4b3a475df443ee92ed44baed8edb2f5687cdefe2298e09e28", func := "loop.example/pub-g01455/laws.FnMapSet", spec := "fnMapSet", apart := false, narrowed := true }
def FnMapSetUptoSaid : Prop := fnMapSetUptoRow.holds Try.pinned (OpenSpec.upto fnMapSetSpec)

/-- 'laws.FnMapTwo', WHERE WHAT IT READS IS OF BULK AT MOST 1048576: true; the input reads as it did. -/
def fnMapTwoUptoRow : OpenClaim := { program := "ytdmjcgipfkhibaa", sum := "61a2571138da77d4b3a475df443ee92ed44baed8edb2f5687cdefe2298e09e28", func := "loop.example/pub-g01455/laws.FnMapTwo", spec := "fnMapTwo", apart := false, narrowed := true }
def FnMapTwoUptoSaid : Prop := fnMapTwoUptoRow.holds Try.pinned (OpenSpec.upto fnMapTwoSpec)

end Rows
end Go.Proofs.Ytdmjcgipfkhibaa
