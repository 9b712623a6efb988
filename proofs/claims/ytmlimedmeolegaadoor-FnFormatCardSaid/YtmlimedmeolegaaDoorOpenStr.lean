/-
  What the arguments of a law are, out of the form's reading: numbers, slices of numbers, as the walks take them.
-/
import Derived.Test.YtmlimedmeolegaaDoorRows
import Derived.Test.YtmlimedmeolegaaDoorMem
import Derived.ProofKit
import Derived.OpenShut
import Derived.ShutString
import Derived.ChangeOld
import Derived.Below
import Derived.Deep.Slices
import Derived.Deep.Fields
import Derived.ChangeSame
namespace Go.Proofs.YtmlimedmeolegaaDoor
open Go.ChangeShapes Go.WideShapes Go.ChangeAt Go.RowKit Go.Deep
open Go.ChangeMaps (open_string shut_string)

theorem own_knob : ownKnob Tryd.prog.godebug = none := by kernel_rfl
theorem laid_out : laidOutB Tryd.prog = true := by kernel_rfl

section
variable {H : Type} {enc : TypeId × Value → H} {W : World}

set_option maxRecDepth 100000 in
theorem arg_i64 {b0 : Nat} {r : Reach} {t : TypeId} {v : Value} {d : DataW H} {ps : List MemPlace} (ht : Tryd.prog.underlying t = some (.int .i64)) (hval : Value.okWide Tryd.prog W r b0 t v)
    (h : DataW.Trod enc Tryd.prog W 0 (fun _ => true) true t v d ps) : ∃ a : Int, v = .int .i64 a ∧ -9223372036854775808 ≤ a ∧ a ≤ 9223372036854775807 := by
  obtain ⟨a, rfl, _, _, wa⟩ := open_int ht hval h
  exact ⟨a, rfl, bounds_i64 wa⟩

theorem arg_str {b0 : Nat} {r : Reach} {t : TypeId} {v : Value} {d : DataW H} {ps : List MemPlace} (ht : Tryd.prog.underlying t = some .string) (hval : Value.okWide Tryd.prog W r b0 t v)
    (h : DataW.Trod enc Tryd.prog W 0 (fun _ => true) true t v d ps) : ∃ s : ByteArray, v = .string s ∧ s.size ≤ maxLen := by
  obtain ⟨s, rfl, _, _, hs⟩ := open_string ht hval h
  exact ⟨s, rfl, hs⟩

theorem trod_lt' {t : TypeId} {v : Value} {d : DataW H} {ps : List MemPlace} (h : DataW.Trod enc Tryd.prog W 0 (fun _ => true) true t v d ps) : ∀ x ∈ ps, x.block < W.heap.size := by
  obtain ⟨m, hm⟩ := h
  exact DataW.trod_lt m _ _ _ hm

end
end Go.Proofs.YtmlimedmeolegaaDoor
