/- Appends of rows and of nothing. -/
import Derived.Test.YtlagnbiokhnhlaaLaw3
import Derived.Laws.AppendOwnNone
import Derived.ArgAppend
namespace Go.Proofs.Ytlagnbiokhnhlaa
open Go.RowKit

/-- append of a row of the call's own onto another one. -/
theorem wpList_appr {t e : TypeId} {size bytes : Nat} (A : ElTy t e size bytes) (w : World) {ops : Array Oper} {rest : List Oper} {o : Oper} {a : Act} {Q : Exit → Act → World → Prop} (hgd : o.guard = none) (s x : Operand)
    (ho : o.op = .call { callee := .builtin .append, args := #[s, x], argTypes := #[t, t] })
    (base : Nat) (v : Value) (n : Nat) (xs : List Value) (hs : a.eval s = v) (hown : w.ownsRow base e size v n xs)
    (base' : Nat) (u : Value) (m : Nat) (cs : List Value) (hx : a.eval x = u) (hu : w.ownsRow base' e size u m cs) (h1 : ∀ u ∈ cs, u.oneCell' = true)
    (hbytes : (n + m) * bytes ≤ 140737488355328) (h63 : n + m ≤ 9223372036854775807) (hbase : base ≤ w.heap.size)
    (h : ∀ v' w', w'.ownsRow base e size v' (n + m) (xs ++ cs) → w.grownBy w' v.ownBlock → wpList Try.prog ops Q rest (a.put o.dst v') w') :
    wpList Try.prog ops Q (o :: rest) a w := by
  obtain ⟨i, z, hi, hz, hsz, hby, hzc⟩ := A.ex
  have hl := hu.1
  rcases hu.2 with ⟨rfl, hm⟩ | ⟨g, cap, cur, rfl, _, hh, hnc, hcm, hsz', ht⟩
  · subst hm
    have hcs : cs = [] := by
      rw [Nat.zero_mul] at hl
      exact List.length_eq_zero_iff.1 hl
    subst hcs
    refine wpList_append_own_none hgd s x t ho base e i size A.sl hi v n xs hs hown hx ?_
    exact h v w (by simpa using hown) ⟨rfl, rfl, rfl, Nat.le_refl _, fun _ _ _ => rfl⟩
  · exact wpList_append_own_at w hgd s x t ho base e i z size bytes A.sl hi hz hsz hby hzc A.pos v n xs hs hown ⟨g, 0, none⟩ m cap cs hx hl
      (fun j u' hj => hu.cells (g := g) rfl j u' hj) h1 (by simp only [maxLen]; omega) hbytes hbase (fun v' w' h2 h3 _ _ => h v' w' h2 h3)
theorem stepCells_one (L : List StepT) (h : ∀ p ∈ L, ∃ a n c, p.2 = .slice a n c) : ∀ u ∈ stepCells L, u.oneCell' = true := by
  intro u hu
  unfold stepCells at hu
  obtain ⟨p, hp, hu⟩ := List.mem_flatMap.1 hu
  obtain ⟨a, n, c, e⟩ := h p hp
  simp only [List.mem_cons, List.not_mem_nil, or_false] at hu
  rcases hu with rfl | rfl | rfl | rfl
  · rfl
  · rfl
  · rfl
  · rw [e]; rfl
theorem addT_one (l : List Int) : ∀ u ∈ stepCells (l.map addT), u.oneCell' = true := stepCells_one _ (fun p hp => by obtain ⟨x, _, rfl⟩ := List.mem_map.1 hp; exact ⟨_, _, _, rfl⟩)

end Go.Proofs.Ytlagnbiokhnhlaa
