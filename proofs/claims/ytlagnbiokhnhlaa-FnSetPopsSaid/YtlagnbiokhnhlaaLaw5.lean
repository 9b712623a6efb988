/- append of one input slice of numbers onto another one that has no room. -/
import Derived.Test.YtlagnbiokhnhlaaLaw4
namespace Go.Proofs.Ytlagnbiokhnhlaa
open Go.RowKit

/-- append of nothing: the slice as it is. -/
theorem run_append_zero {t e : TypeId} {size bytes : Nat} (A : ElTy t e size bytes) (w : World) (ty : TypeId) (s x : Option Addr) (n c cx : Nat) (hn : n ≤ c) : (Builtin.append_ #[t, t] ty #[.slice s n c, .slice x 0 cx]).run Try.prog w = .ok (.slice s n c) w := by
  obtain ⟨i, z, hi, hz, hsz, hby, hzc⟩ := A.ex
  cases s <;> cases x <;> simp [Builtin.append_, run_underlying A.sl, sizeOf, typeInfo, hi, Builtin.lenOf, Builtin.firstCells, hn, storeCells, loadCells, loadCellsFrom]

theorem wpList_cat {w : World} {ops : Array Oper} {rest : List Oper} {o : Oper} {a : Act} {Q : Exit → Act → World → Prop} (hgd : o.guard = none) (s x : Operand)
    (ho : o.op = .call { callee := .builtin .append, args := #[s, x], argTypes := #[22, 22] })
    (ao bo : Option Addr) (l m : List Int) (c : Nat) (hs : a.eval s = .slice ao l.length l.length) (hI : Ints w ao l) (hnone : ao = none → l.length = 0)
    (hx : a.eval x = .slice bo m.length c) (hJ : Ints w bo m) (hl : l.length ≤ 100000) (hm : m.length ≤ 100000)
    (h : ∀ v' w', IntS w' v' (l ++ m) → Bel w w' → wpList Try.prog ops Q rest (a.put o.dst v') w') : wpList Try.prog ops Q (o :: rest) a w := by
  obtain ⟨i, z, hi, hz, hsz, hby, hzc⟩ := el22'.ex
  by_cases h0 : m.length = 0
  · have hm0 : m = [] := List.length_eq_zero_iff.1 h0
    subst hm0
    refine wpList_plain hgd fun K hK => ?_
    have hrun := run_append_zero el22' w o.type ao bo l.length l.length c (Nat.le_refl _)
    unfold Oper.wp
    rw [show ([] : List Int).length = 0 from rfl] at hx
    simp [execOp, ho, resolve, invoke, builtin, hs, hx, hrun, Result.andThen]
    refine hK _ _ (h _ _ ?_ (Bel.refl w))
    rw [List.append_nil]
    exact ⟨ao, l.length, rfl, Nat.le_refl _, by omega, hI⟩
  · obtain ⟨b, off, rfl, hb⟩ := hJ (by omega)
    refine wpList_append_grows w hgd s x 22 ho 2 i z 1 8 el22'.sl hi hz hsz hby hzc (by decide) ao l.length l.length (l.map (Value.int .i64)) hs (fun e => ⟨hnone e, hnone e⟩) (by simp) (fun ad had j u hj => ?_)
      ⟨b, off, none⟩ m.length c (m.map (Value.int .i64)) hx (by simp) (fun j u hj => ?_) (fun u hu => ?_) (by omega) (by unfold maxLen; omega) (by omega) (fun v' w' ho' hg' => ?_)
    · rw [List.getElem?_map] at hj
      obtain ⟨q, hq, rfl⟩ := Option.map_eq_some_iff.1 hj
      obtain ⟨b', o', e', hc⟩ := hI (by have := (List.getElem?_eq_some_iff.1 hq).1; omega)
      rw [had] at e'
      cases e'
      rw [Go.WideShapes.add_plain]
      exact hc j q hq
    · rw [List.getElem?_map] at hj
      obtain ⟨q, hq, rfl⟩ := Option.map_eq_some_iff.1 hj
      rw [Go.WideShapes.add_plain]
      exact hb j q hq
    · obtain ⟨q, _, rfl⟩ := List.mem_map.1 hu
      rfl
    · refine h v' w' ?_ ((Bel.refl w).grown hg' (by simp))
      rw [← List.map_append] at ho'
      exact ints_own ho'
end Go.Proofs.Ytlagnbiokhnhlaa
