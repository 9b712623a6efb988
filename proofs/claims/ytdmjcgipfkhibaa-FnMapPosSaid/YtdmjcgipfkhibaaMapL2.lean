/- The walks of spec.OfMap, OfBiased, OfPos. -/
import Derived.Test.YtdmjcgipfkhibaaMapL1
import Derived.Test.YtdmjcgipfkhibaaSpecM8
namespace Go.Proofs.Ytdmjcgipfkhibaa
open Go.RowKit

theorem ofMap_any (n : Int) (w : World) (h0 : 0 ≤ n) (h1 : n ≤ 1000000) : Calls Try.prog 15 #[.int .i64 n] w fun e w' => e = .returned (rulesV (Pl.ofMap n)) ∧ Bel w w' := by
  go_enter Try.func15, Try.ntmps15
  go_wp2
  exact bodyPost_ret (v := rulesV (Pl.ofMap n)) (by simp [results, Try.results15, go_sem, Pl.ofMap]) rfl ⟨rfl, (Bel.refl w).alloc _⟩
theorem FitQ.stepM {n : Nat} {S : List Pl.StepD} (h : FitP n S) : ∀ s ∈ S, StepM n s := fun s hs => by
  have h1 := h s hs
  exact ⟨h1.1.1, h1.1.2, h1.2.1.1, by have := h1.2.1.2; omega⟩
end Go.Proofs.Ytdmjcgipfkhibaa
