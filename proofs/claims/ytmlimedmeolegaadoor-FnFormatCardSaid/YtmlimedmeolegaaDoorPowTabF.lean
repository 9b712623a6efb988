/- The row's listed tables: what the walk reads of them; the door's own heap meets the condition. -/
import Derived.Test.YtmlimedmeolegaaDoorNumUF
import Derived.Lib.LaidU8
import Derived.LaidMore
import Derived.Test.YtmlimedmeolegaaDoorRows
namespace Go.Proofs.YtmlimedmeolegaaDoor
open Go.RowKit Go.Lib

theorem pow_glob : Tryd.prog.globalNamed powName = some 0 := by kernel_rfl
theorem pow_type : (Tryd.prog.globals[0]?).map (·.type) = some 74 := by kernel_rfl
theorem pow_data : (Rows.laid_internal_strconv_uint64pow10 : DataW Unit) = tabData .u64 pow10Tab := by kernel_rfl
theorem pow_tab {W : World} (h : laidMetH Tryd.prog Rows.fnFormatRow.laid W) : Lib.TabIs Tryd.prog W powName .u64 Lib.pow10Tab := by
  rw [MakeChecks.laidMetH_plain _ _ _ (by kernel_rfl)] at h
  obtain ⟨g, t, cs, fuel, p, hg, ht, hvar, hd⟩ := Lib.laidMet.reads h (n := powName) (d := Rows.laid_internal_strconv_uint64pow10) (.tail _ (.tail _ (.head _)))
  obtain rfl := Option.some.inj (pow_glob.symm.trans hg)
  obtain rfl := Option.some.inj (pow_type.symm.trans ht)
  rw [pow_data] at hd
  unfold TabIs
  rw [hvar, ← cells_of_tab Tryd.underlying74 Tryd.underlying65 (by kernel_rfl) (by kernel_rfl) hd]
/-- The door's own heap meets the condition. -/
theorem door_met (os : Os) (args : Array Value) : laidMetH Tryd.prog Rows.fnFormatRow.laid ((World.doorLaid Tryd.prog 400 os).forCall (fun _ _ => 0) ⟨#[], args, []⟩).memory :=
  laidMetH_of_parts3 (fuel := 8) (laidMet_of_run' 8 (by kernel_rfl) (by kernel_rfl)) (by kernel_rfl) (by kernel_rfl)
end Go.Proofs.YtmlimedmeolegaaDoor
