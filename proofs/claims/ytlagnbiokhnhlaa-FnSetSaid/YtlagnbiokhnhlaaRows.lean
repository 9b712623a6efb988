/-
  No cell of these rows narrows 'for every input' (looked for: loops, veiled, ifaces, maps, wideKeys, modest, calm, conditions, laid).
  DERIVED. THE GIVEN ROWS OF THIS SEAT. 9 by the template 'for every input the law returns true; each argument reads behind the call as it read before'; 0 by the template 'total and deterministic' (their statements: YtlagnbiokhnhlaaTotals.lean).
  GIVEN WITH THE SEED: the statements are not yours to turn. If you find one false, say at which input.
  Laid BY PROGRAM, IN A SANDBOX (cutbox-rows.mjs): the forced cells as the released guide's own fill.sh prints them over the translation 59f6152adeb72c8e… (all of the seat's roots in one cut). By AI agents, Wed Nov 11 2026. No macro, syntax, notation, axiom, sorry.
-/
import Derived.Test.YtlagnbiokhnhlaaChecked
import GoSem.Claim
import GoSem.ClaimJoined
import GoSem.ClaimMapViews
import Derived.JoinedTies
import Derived.KernelRfl
namespace Go.Proofs.Ytlagnbiokhnhlaa
/- THE CELL 'sum', in the pinned program and in every row, IS THE sha256 OF THE DUMP (.gsa) THAT YtlagnbiokhnhlaaProg.lean LOADS. Nothing in Lean hashes anything: it is a label: what it is worth is what the hold of that sum in a sandbox is worth. -/
noncomputable def Try.pinned : Pinned := { name := "ytlagnbiokhnhlaa", sum := "59f6152adeb72c8e39bc966a42bb21ed2aaddf95c9358e8233196f2e51eecda2", checked := Try.checked }
namespace Rows
def none {H : Type} : Left H := { results := [], args := [] }

/-- 'laws.FnIDs': WHATEVER THE INPUT: true; the input reads as it did. -/
def fnIDsSpec : ChangeSpec := { name := "fnIDs", fn := fun _ => fun
  | [d] => { results := [.lit (.bool true)], args := [d] }
  | _ => none }
def fnIDsRow : OpenClaim := { program := "ytlagnbiokhnhlaa", sum := "59f6152adeb72c8e39bc966a42bb21ed2aaddf95c9358e8233196f2e51eecda2", func := "loop.example/pub-g01455/laws.FnIDs", spec := "fnIDs", apart := false }
def FnIDsSaid : Prop := fnIDsRow.holds Try.pinned (OpenSpec.ofChange fnIDsSpec)

/-- ITS FALSE NEIGHBOUR: 'it returns false'. Refute it at one input. -/
def fnIDsWrong : ChangeSpec := { name := "fnIDs", fn := fun _ => fun
  | [d] => { results := [.lit (.bool false)], args := [d] }
  | _ => none }
def FnIDsWrongFalsely : Prop := fnIDsRow.holds Try.pinned (OpenSpec.ofChange fnIDsWrong)

/-- 'laws.FnSet': WHATEVER THE INPUT: true; the input reads as it did. -/
def fnSetSpec : ChangeSpec := { name := "fnSet", fn := fun _ => fun
  | [d1, d2] => { results := [.lit (.bool true)], args := [d1, d2] }
  | _ => none }
def fnSetRow : OpenClaim := { program := "ytlagnbiokhnhlaa", sum := "59f6152adeb72c8e39bc966a42bb21ed2aaddf95c9358e8233196f2e51eecda2", func := "loop.example/pub-g01455/laws.FnSet", spec := "fnSet", apart := false }
def FnSetSaid : Prop := fnSetRow.holds Try.pinned (OpenSpec.ofChange fnSetSpec)

/-- ITS FALSE NEIGHBOUR: 'it returns false'. Refute it at one input. -/
def fnSetWrong : ChangeSpec := { name := "fnSet", fn := fun _ => fun
  | [d1, d2] => { results := [.lit (.bool false)], args := [d1, d2] }
  | _ => none }
def FnSetWrongFalsely : Prop := fnSetRow.holds Try.pinned (OpenSpec.ofChange fnSetWrong)

/-- 'laws.FnSetAddAll': WHATEVER THE INPUT: true; the input reads as it did. -/
def fnSetAddAllSpec : ChangeSpec := { name := "fnSetAddAll", fn := fun _ => fun
  | [d1, d2, d3] => { results := [.lit (.bool true)], args := [d1, d2, d3] }
  | _ => none }
def fnSetAddAllRow : OpenClaim := { program := "ytlagnbiokhnhlaa", sum := "59f6152adeb72c8e39bc966a42bb21ed2aaddf95c9358e8233196f2e51eecda2", func := "loop.example/pub-g01455/laws.FnSetAddAll", spec := "fnSetAddAll", apart := false }
def FnSetAddAllSaid : Prop := fnSetAddAllRow.holds Try.pinned (OpenSpec.ofChange fnSetAddAllSpec)

/-- ITS FALSE NEIGHBOUR: 'it returns false'. Refute it at one input. -/
def fnSetAddAllWrong : ChangeSpec := { name := "fnSetAddAll", fn := fun _ => fun
  | [d1, d2, d3] => { results := [.lit (.bool false)], args := [d1, d2, d3] }
  | _ => none }
def FnSetAddAllWrongFalsely : Prop := fnSetAddAllRow.holds Try.pinned (OpenSpec.ofChange fnSetAddAllWrong)

/-- 'laws.FnSetClears': WHATEVER THE INPUT: true; the input reads as it did. -/
def fnSetClearsSpec : ChangeSpec := { name := "fnSetClears", fn := fun _ => fun
  | [d1, d2, d3] => { results := [.lit (.bool true)], args := [d1, d2, d3] }
  | _ => none }
def fnSetClearsRow : OpenClaim := { program := "ytlagnbiokhnhlaa", sum := "59f6152adeb72c8e39bc966a42bb21ed2aaddf95c9358e8233196f2e51eecda2", func := "loop.example/pub-g01455/laws.FnSetClears", spec := "fnSetClears", apart := false }
def FnSetClearsSaid : Prop := fnSetClearsRow.holds Try.pinned (OpenSpec.ofChange fnSetClearsSpec)

/-- ITS FALSE NEIGHBOUR: 'it returns false'. Refute it at one input. -/
def fnSetClearsWrong : ChangeSpec := { name := "fnSetClears", fn := fun _ => fun
  | [d1, d2, d3] => { results := [.lit (.bool false)], args := [d1, d2, d3] }
  | _ => none }
def FnSetClearsWrongFalsely : Prop := fnSetClearsRow.holds Try.pinned (OpenSpec.ofChange fnSetClearsWrong)

/-- 'laws.FnSetHas': WHATEVER THE INPUT: true; the input reads as it did. -/
def fnSetHasSpec : ChangeSpec := { name := "fnSetHas", fn := fun _ => fun
  | [d1, d2, d3] => { results := [.lit (.bool true)], args := [d1, d2, d3] }
  | _ => none }
def fnSetHasRow : OpenClaim := { program := "ytlagnbiokhnhlaa", sum := "59f6152adeb72c8e39bc966a42bb21ed2aaddf95c9358e8233196f2e51eecda2", func := "loop.example/pub-g01455/laws.FnSetHas", spec := "fnSetHas", apart := false }
def FnSetHasSaid : Prop := fnSetHasRow.holds Try.pinned (OpenSpec.ofChange fnSetHasSpec)

/-- ITS FALSE NEIGHBOUR: 'it returns false'. Refute it at one input. -/
def fnSetHasWrong : ChangeSpec := { name := "fnSetHas", fn := fun _ => fun
  | [d1, d2, d3] => { results := [.lit (.bool false)], args := [d1, d2, d3] }
  | _ => none }
def FnSetHasWrongFalsely : Prop := fnSetHasRow.holds Try.pinned (OpenSpec.ofChange fnSetHasWrong)

/-- 'laws.FnSetPops': WHATEVER THE INPUT: true; the input reads as it did. -/
def fnSetPopsSpec : ChangeSpec := { name := "fnSetPops", fn := fun _ => fun
  | [d1, d2] => { results := [.lit (.bool true)], args := [d1, d2] }
  | _ => none }
def fnSetPopsRow : OpenClaim := { program := "ytlagnbiokhnhlaa", sum := "59f6152adeb72c8e39bc966a42bb21ed2aaddf95c9358e8233196f2e51eecda2", func := "loop.example/pub-g01455/laws.FnSetPops", spec := "fnSetPops", apart := false }
def FnSetPopsSaid : Prop := fnSetPopsRow.holds Try.pinned (OpenSpec.ofChange fnSetPopsSpec)

/-- ITS FALSE NEIGHBOUR: 'it returns false'. Refute it at one input. -/
def fnSetPopsWrong : ChangeSpec := { name := "fnSetPops", fn := fun _ => fun
  | [d1, d2] => { results := [.lit (.bool false)], args := [d1, d2] }
  | _ => none }
def FnSetPopsWrongFalsely : Prop := fnSetPopsRow.holds Try.pinned (OpenSpec.ofChange fnSetPopsWrong)

/-- 'laws.FnSetRemoves': WHATEVER THE INPUT: true; the input reads as it did. -/
def fnSetRemovesSpec : ChangeSpec := { name := "fnSetRemoves", fn := fun _ => fun
  | [d1, d2, d3] => { results := [.lit (.bool true)], args := [d1, d2, d3] }
  | _ => none }
def fnSetRemovesRow : OpenClaim := { program := "ytlagnbiokhnhlaa", sum := "59f6152adeb72c8e39bc966a42bb21ed2aaddf95c9358e8233196f2e51eecda2", func := "loop.example/pub-g01455/laws.FnSetRemoves", spec := "fnSetRemoves", apart := false }
def FnSetRemovesSaid : Prop := fnSetRemovesRow.holds Try.pinned (OpenSpec.ofChange fnSetRemovesSpec)

/-- ITS FALSE NEIGHBOUR: 'it returns false'. Refute it at one input. -/
def fnSetRemovesWrong : ChangeSpec := { name := "fnSetRemoves", fn := fun _ => fun
  | [d1, d2, d3] => { results := [.lit (.bool false)], args := [d1, d2, d3] }
  | _ => none }
def FnSetRemovesWrongFalsely : Prop := fnSetRemovesRow.holds Try.pinned (OpenSpec.ofChange fnSetRemovesWrong)

/-- 'laws.FnSetTold': WHATEVER THE INPUT: true; the input reads as it did. -/
def fnSetToldSpec : ChangeSpec := { name := "fnSetTold", fn := fun _ => fun
  | [d1, d2] => { results := [.lit (.bool true)], args := [d1, d2] }
  | _ => none }
def fnSetToldRow : OpenClaim := { program := "ytlagnbiokhnhlaa", sum := "59f6152adeb72c8e39bc966a42bb21ed2aaddf95c9358e8233196f2e51eecda2", func := "loop.example/pub-g01455/laws.FnSetTold", spec := "fnSetTold", apart := false }
def FnSetToldSaid : Prop := fnSetToldRow.holds Try.pinned (OpenSpec.ofChange fnSetToldSpec)

/-- ITS FALSE NEIGHBOUR: 'it returns false'. Refute it at one input. -/
def fnSetToldWrong : ChangeSpec := { name := "fnSetTold", fn := fun _ => fun
  | [d1, d2] => { results := [.lit (.bool false)], args := [d1, d2] }
  | _ => none }
def FnSetToldWrongFalsely : Prop := fnSetToldRow.holds Try.pinned (OpenSpec.ofChange fnSetToldWrong)

/-- 'laws.FnSetUndone': WHATEVER THE INPUT: true; the input reads as it did. -/
def fnSetUndoneSpec : ChangeSpec := { name := "fnSetUndone", fn := fun _ => fun
  | [d1, d2, d3] => { results := [.lit (.bool true)], args := [d1, d2, d3] }
  | _ => none }
def fnSetUndoneRow : OpenClaim := { program := "ytlagnbiokhnhlaa", sum := "59f6152adeb72c8e39bc966a42bb21ed2aaddf95c9358e8233196f2e51eecda2", func := "loop.example/pub-g01455/laws.FnSetUndone", spec := "fnSetUndone", apart := false }
def FnSetUndoneSaid : Prop := fnSetUndoneRow.holds Try.pinned (OpenSpec.ofChange fnSetUndoneSpec)

/-- ITS FALSE NEIGHBOUR: 'it returns false'. Refute it at one input. -/
def fnSetUndoneWrong : ChangeSpec := { name := "fnSetUndone", fn := fun _ => fun
  | [d1, d2, d3] => { results := [.lit (.bool false)], args := [d1, d2, d3] }
  | _ => none }
def FnSetUndoneWrongFalsely : Prop := fnSetUndoneRow.holds Try.pinned (OpenSpec.ofChange fnSetUndoneWrong)

/- THE SECOND FORM. 'bulk': how many values and letters a reading holds, each counted each time it is reached (what is shared counts as often as it is met; a slice's spare places count too). A statement '..UptoSaid' is the law's where the arguments, and the package variables that the reading takes, are together of bulk at most 1048576: NARROWER than '..Said'. Prove '..Said' where nothing that the law and all that it calls make is longer than what came in: it says more and counts as full. Else prove '..UptoSaid'. A law counts once. -/
mutual
def uptoBulk {H : Type} : DataW H → Nat
  | .lit (.string bytes) => bytes.length + 1
  | .lit _ => 1
  | .nil => 1
  | .ptr d => uptoBulk d + 1
  | .slice elems spare => uptoBulkAll elems + uptoBulkAll spare + 1
  | .agg parts => uptoBulkAll parts + 1
  | .iface _ d => uptoBulk d + 1
  | .map entries => uptoBulkEntries entries + 1
  | .held _ => 1
def uptoBulkAll {H : Type} : List (DataW H) → Nat
  | [] => 0
  | d :: r => uptoBulk d + uptoBulkAll r
def uptoBulkEntries {H : Type} : List (Lit × DataW H) → Nat
  | [] => 0
  | x :: r => uptoBulkEntry x + uptoBulkEntries r
def uptoBulkEntry {H : Type} : Lit × DataW H → Nat
  | (.string bytes, d) => bytes.length + uptoBulk d + 1
  | (_, d) => uptoBulk d + 1
 end
def uptoSmall : (H : Type) → List (DataW H) → Bool := fun _ ds => decide (uptoBulkAll ds ≤ 1048576)
def OpenSpec.upto (s : _root_.Go.ChangeSpec) : _root_.Go.OpenSpec := { _root_.Go.OpenSpec.ofChange s with cond := some uptoSmall }

/-- 'laws.FnIDs', WHERE WHAT IT READS IS OF BULK AT MOST 1048576: true; the input reads as it did. -/
def fnIDsUptoRow : OpenClaim := { program := "ytlagnbiokhnhlaa", sum := "59f6152adeb72c8e39bc966a42bb21ed2aaddf95c9358e8233196f2e51eecda2", func := "loop.example/pub-g01455/laws.FnIDs", spec := "fnIDs", apart := false, narrowed := true }
def FnIDsUptoSaid : Prop := fnIDsUptoRow.holds Try.pinned (OpenSpec.upto fnIDsSpec)

/-- 'laws.FnSet', WHERE WHAT IT READS IS OF BULK AT MOST 1048576: true; the input reads as it did. -/
def fnSetUptoRow : OpenClaim := { program := "ytlagnbiokhnhlaa", sum := "59f6152adeb72c8e39bc966a42bb21ed2aaddf95c9358e8233196f2e51eecda2", func := "loop.example/pub-g01455/laws.FnSet", spec := "fnSet", apart := false, narrowed := true }
def FnSetUptoSaid : Prop := fnSetUptoRow.holds Try.pinned (OpenSpec.upto fnSetSpec)

/-- 'laws.FnSetAddAll', WHERE WHAT IT READS IS OF BULK AT MOST 1048576: true; the input reads as it did. -/
def fnSetAddAllUptoRow : OpenClaim := { program := "ytlagnbiokhnhlaa", sum := "59f6152adeb72c8e39bc966a42bb21ed2aaddf95c9358e8233196f2e51eecda2", func := "loop.example/pub-g01455/laws.FnSetAddAll", spec := "fnSetAddAll", apart := false, narrowed := true }
def FnSetAddAllUptoSaid : Prop := fnSetAddAllUptoRow.holds Try.pinned (OpenSpec.upto fnSetAddAllSpec)

/-- 'laws.FnSetClears', WHERE WHAT IT READS IS OF BULK AT MOST 1048576: true; the input reads as it did. -/
def fnSetClearsUptoRow : OpenClaim := { program := "ytlagnbiokhnhlaa", sum := "59f6152adeb72c8e39bc966a42bb21ed2aaddf95c9358e8233196f2e51eecda2", func := "loop.example/pub-g01455/laws.FnSetClears", spec := "fnSetClears", apart := false, narrowed := true }
def FnSetClearsUptoSaid : Prop := fnSetClearsUptoRow.holds Try.pinned (OpenSpec.upto fnSetClearsSpec)

/-- 'laws.FnSetHas', WHERE WHAT IT READS IS OF BULK AT MOST 1048576: true; the input reads as it did. -/
def fnSetHasUptoRow : OpenClaim := { program := "ytlagnbiokhnhlaa", sum := "59f6152adeb72c8e39bc966a42bb21ed2aaddf95c9358e8233196f2e51eecda2", func := "loop.example/pub-g01455/laws.FnSetHas", spec := "fnSetHas", apart := false, narrowed := true }
def FnSetHasUptoSaid : Prop := fnSetHasUptoRow.holds Try.pinned (OpenSpec.upto fnSetHasSpec)

/-- 'laws.FnSetPops', WHERE WHAT IT READS IS OF BULK AT MOST 1048576: true; the input reads as it did. -/
def fnSetPopsUptoRow : OpenClaim := { program := "ytlagnbiokhnhlaa", sum := "59f6152adeb72c8e39bc966a42bb21ed2aaddf95c9358e8233196f2e51eecda2", func := "loop.example/pub-g01455/laws.FnSetPops", spec := "fnSetPops", apart := false, narrowed := true }
def FnSetPopsUptoSaid : Prop := fnSetPopsUptoRow.holds Try.pinned (OpenSpec.upto fnSetPopsSpec)

/-- 'laws.FnSetRemoves', WHERE WHAT IT READS IS OF BULK AT MOST 1048576: true; the input reads as it did. -/
def fnSetRemovesUptoRow : OpenClaim := { program := "ytlagnbiokhnhlaa", sum := "59f6152adeb72c8e39bc966a42bb21ed2aaddf95c9358e8233196f2e51eecda2", func := "loop.example/pub-g01455/laws.FnSetRemoves", spec := "fnSetRemoves", apart := false, narrowed := true }
def FnSetRemovesUptoSaid : Prop := fnSetRemovesUptoRow.holds Try.pinned (OpenSpec.upto fnSetRemovesSpec)

/-- 'laws.FnSetTold', WHERE WHAT IT READS IS OF BULK AT MOST 1048576: true; the input reads as it did. -/
def fnSetToldUptoRow : OpenClaim := { program := "ytlagnbiokhnhlaa", sum := "59f6152adeb72c8e39bc966a42bb21ed2aaddf95c9358e8233196f2e51eecda2", func := "loop.example/pub-g01455/laws.FnSetTold", spec := "fnSetTold", apart := false, narrowed := true }
def FnSetToldUptoSaid : Prop := fnSetToldUptoRow.holds Try.pinned (OpenSpec.upto fnSetToldSpec)

/-- 'laws.FnSetUndone', WHERE WHAT IT READS IS OF BULK AT MOST 1048576: true; the input reads as it did. -/
def fnSetUndoneUptoRow : OpenClaim := { program := "ytlagnbiokhnhlaa", sum := "59f6152adeb72c8e39bc966a42bb21ed2aaddf95c9358e8233196f2e51eecda2", func := "loop.example/pub-g01455/laws.FnSetUndone", spec := "fnSetUndone", apart := false, narrowed := true }
def FnSetUndoneUptoSaid : Prop := fnSetUndoneUptoRow.holds Try.pinned (OpenSpec.upto fnSetUndoneSpec)

end Rows
end Go.Proofs.Ytlagnbiokhnhlaa
