/- What the laws' scripts need once more: a script behind the adds; a list of answers by its places. -/
import Derived.Test.YtlagnbiokhnhlaaLaw2
namespace Go.Proofs.Ytlagnbiokhnhlaa
open Go.RowKit

/-- A script of adds and of some steps more without lists, laid out. -/
theorem script_own {w : World} {base : Nat} {u : Value} {l : List Int} {n : Nat} {T : List Pl.StepD} (h : w.ownsRow base 43 4 u n (stepCells (l.map addT) ++ stepCells (T.map fun s => (s, nilV)))) (hT : ∀ s ∈ T, s.list = []) : StepS w u (l.map addS ++ T) := by
  have := stepS_own (L := l.map addT ++ T.map fun s => (s, nilV)) (by rw [stepCells_append]; exact h) (fun p hp => by
    have : p.2 = .slice none 0 0 ∧ p.1.list = [] := by
      rcases List.mem_append.1 hp with hp | hp
      · obtain ⟨x, _, rfl⟩ := List.mem_map.1 hp; exact ⟨rfl, rfl⟩
      · obtain ⟨s, hs, rfl⟩ := List.mem_map.1 hp; exact ⟨rfl, hT s hs⟩
    rw [this.1, this.2]; exact IntS.nil _)
  have e : (T.map fun s => ((s, nilV) : StepT)).map (·.1) = T := by rw [List.map_map]; exact List.map_id T
  rw [List.map_append, addT_fst, e] at this
  exact this
theorem stepIn_script {n : Nat} {l : List Int} {T : List Pl.StepD} (hl : ∀ x ∈ l, 0 ≤ x ∧ x < (n : Int)) (hT : ∀ s ∈ T, StepIn n s) : ∀ s ∈ l.map addS ++ T, StepIn n s := fun s hs => by
  rcases List.mem_append.1 hs with hs | hs
  · obtain ⟨x, hx, rfl⟩ := List.mem_map.1 hs; exact StepIn.add (hl x hx)
  · exact hT s hs
theorem keyS_in {n : Nat} {x : Int} (k : Int) (h0 : 0 ≤ x) (h1 : x < n) : StepIn n ⟨k, x, 0, []⟩ := ⟨h0, h1, by simp, by simp⟩
theorem script_at (n : Nat) (l : List Int) (T : List Pl.StepD) (i : Nat) : (Pl.setRun n [] (l.map addS ++ T))[l.length + i]? = (Pl.setRun n (Pl.setAt [] (l.map addS)) T)[i]? := by
  have := setRun_get_last n (l.map addS) T i
  rwa [List.length_map] at this
theorem adds_rep (l : List Int) : Pl.Rep (Pl.putAll [] l) (Pl.setAt [] (l.map addS)) ∧ Zero (Pl.setAt [] (l.map addS)) := setAt_adds l [] [] Pl.Rep.nil (by intro e he; cases he)
/-- append of m elements at a step of a region that draws its order; the new slice written out. -/
theorem step_appm {t e : TypeId} {size bytes : Nat} (A : ElTy t e size bytes) {w : World} {ops : Array Oper} {o : Oper} {a : Act} {K : Act → World → Prop} {Q : Exit → Act → World → Prop} {E : Prop} (hgd : o.guard = none) (s x : Operand)
    (ho : o.op = .call { callee := .builtin .append, args := #[s, x], argTypes := #[t, t] })
    (base : Nat) (v : Value) (n : Nat) (xs : List Value) (hs : a.eval s = v) (hown : w.ownsRow base e size v n xs)
    (B m c : Nat) (cs : List Value) (hx : a.eval x = .slice (some ⟨B, 0, none⟩) m c) (hB : Blk w B e cs) (hl : cs.length = m * size) (hm : 0 < m) (h1 : ∀ u ∈ cs, u.oneCell' = true)
    (hbytes : (n + m) * bytes ≤ 140737488355328) (h63 : n + m ≤ 9223372036854775807) (hbase : base ≤ w.heap.size)
    (h : ∀ g cap w', w'.ownsRow base e size (.slice (some ⟨g, 0, none⟩) (n + m) cap) (n + m) (xs ++ cs) → w.grownBy w' v.ownBlock → (v.ownBlock = some g ∨ g = w.heap.size) → g < w'.heap.size → K (a.put o.dst (.slice (some ⟨g, 0, none⟩) (n + m) cap)) w') :
    if Region.wanted o (yielded ops a.tmps) = true then Oper.wp Try.prog o a w K Q else E := by
  obtain ⟨i, z, hi, hz, hsz, hby, hzc⟩ := A.ex
  exact step_append_lies w hgd s x t ho base e i z size bytes A.sl hi hz hsz hby hzc A.pos v n xs hs hown ⟨B, 0, none⟩ m c cs hx hl
    (by intro j u hj; have := World.news_of_block hB j u (by simpa using hj); exact this) h1 hm (by simp only [maxLen]; omega) hbytes hbase _ rfl h
/-- Behind the append in a region that draws its order. -/
theorem held_app {w w0 w1 w2 w5 : World} {u1 v5 : Value} {l : List Int} {T : List Pl.StepD} {o : Obj} {n b : Nat} (hbw0 : Bel w w0) (hb1 : Bel w0.drew w1) (hb2 : Bel w1 w2) (ho1 : w1.ownsRow w0.drew.heap.size 43 4 u1 l.length (stepCells (l.map addT)))
    (hg5 : (w2.alloc o).grownBy w5 u1.ownBlock) (ho5 : w5.ownsRow b 43 4 v5 n (stepCells (l.map addT) ++ stepCells (T.map fun s => (s, nilV)))) (hT : ∀ s ∈ T, s.list = []) :
    Bel w w5 ∧ StepS w5 v5 (l.map addS ++ T) ∧ ∀ {g : Nat} {t : TypeId} {cs : List Value}, Blk w2 g t cs → g < w0.heap.size → Blk w5 g t cs := by
  refine ⟨?_, script_own ho5 hT, fun {g t cs} hB hlt => ?_⟩
  · exact (((hbw0.drew.trans hb1).trans hb2).alloc _).grown hg5 (fun k hk => Nat.le_trans hbw0.size (ho1.lt k hk).1)
  · refine (hB.alloc _).grown hg5 (fun e => ?_)
    have h1 := (ho1.lt _ e.symm).1
    rw [World.size_drew] at h1
    omega
theorem eqb_self (b : Bool) : (b == b) = true := by cases b <;> rfl
end Go.Proofs.Ytlagnbiokhnhlaa
