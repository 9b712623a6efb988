/- Appends at steps of regions that draw their order; behind the script of sets. -/
import Derived.Test.YtdmjcgipfkhibaaMapL3
namespace Go.Proofs.Ytdmjcgipfkhibaa
open Go.RowKit

/-- append of m elements at a step of a region that draws its order; the new slice written out. -/
theorem step_appm {t e : TypeId} {size bytes : Nat} (A : ElTy t e size bytes) {w : World} {ops : Array Oper} {o : Oper} {a : Act} {K : Act → World → Prop} {Q : Exit → Act → World → Prop} {E : Prop} (hgd : o.guard = none) (s x : Operand)
    (ho : o.op = .call { callee := .builtin .append, args := #[s, x], argTypes := #[t, t] })
    (base : Nat) (v : Value) (n : Nat) (xs : List Value) (hs : a.eval s = v) (hown : w.ownsRow base e size v n xs)
    (B m c : Nat) (cs : List Value) (hx : a.eval x = .slice (some ⟨B, 0, none⟩) m c) (hB : Blk w B e cs) (hl : cs.length = m * size) (hm : 0 < m) (h1 : ∀ u ∈ cs, u.oneCell' = true)
    (hbytes : (n + m) * bytes ≤ 140737488355328) (h63 : n + m ≤ 9223372036854775807) (hbase : base ≤ w.heap.size)
    (h : ∀ g cap w', w'.ownsRow base e size (.slice (some ⟨g, 0, none⟩) (n + m) cap) (n + m) (xs ++ cs) → w.grownBy w' v.ownBlock → (v.ownBlock = some g ∨ g = w.heap.size) → g < w'.heap.size → K (a.put o.dst (.slice (some ⟨g, 0, none⟩) (n + m) cap)) w') :
    if Region.wanted o (yielded ops a.tmps) = true then Oper.wp Try.prog o a w K Q else E := by
  obtain ⟨i, z, hi, hz, hsz, hby, hzc⟩ := A.ex
  exact step_append_lies w hgd s x t ho base e i z size bytes A.sl hi hz hsz hby hzc A.pos v n xs hs hown ⟨B, 0, none⟩ m c cs hx hl
    (by intro j u hj; have := World.news_of_block hB j u (by simpa using hj); exact this) h1 hm (by simp only [maxLen]; omega) hbytes hbase _ rfl h
/-- Behind the append in a region that draws its order. -/
theorem held_sapp {w w0 w1 w5 : World} {u1 v5 : Value} {l : List Pl.Ent} {T : List Pl.StepD} {o : Obj} {m n b : Nat} (hbw0 : Bel w w0) (hb1 : Bel w0.drew w1) (ho1 : w1.ownsRow w0.drew.heap.size 39 4 u1 m (stepCells (l.map setT)))
    (hg5 : (w1.alloc o).grownBy w5 u1.ownBlock) (ho5 : w5.ownsRow b 39 4 v5 n (stepCells (l.map setT) ++ stepCells (T.map fun s => (s, nilV)))) (hT : ∀ s ∈ T, s.list = []) :
    Bel w w5 ∧ StepS w5 v5 (l.map setS ++ T) ∧ ∀ {g : Nat} {t : TypeId} {cs : List Value}, Blk w1 g t cs → g < w0.heap.size → Blk w5 g t cs := by
  refine ⟨?_, sscript_own ho5 hT, fun {g t cs} hB hlt => ?_⟩
  · exact ((hbw0.drew.trans hb1).alloc _).grown hg5 (fun k hk => Nat.le_trans hbw0.size (ho1.lt k hk).1)
  · refine (hB.alloc _).grown hg5 (fun e => ?_)
    have h1 := (ho1.lt _ e.symm).1
    rw [World.size_drew] at h1
    omega
/-- The same where the appended row was laid ahead of the call. -/
theorem held_sapp2 {w w0 w1 w5 : World} {u1 v5 : Value} {l : List Pl.Ent} {T : List Pl.StepD} {o : Obj} {m n b : Nat} (hbw0 : Bel w w0) (hb1 : Bel (w0.drew.alloc o) w1) (ho1 : w1.ownsRow (w0.drew.alloc o).heap.size 39 4 u1 m (stepCells (l.map setT)))
    (hg5 : w1.grownBy w5 u1.ownBlock) (ho5 : w5.ownsRow b 39 4 v5 n (stepCells (l.map setT) ++ stepCells (T.map fun s => (s, nilV)))) (hT : ∀ s ∈ T, s.list = []) :
    Bel w w5 ∧ StepS w5 v5 (l.map setS ++ T) ∧ ∀ {g : Nat} {t : TypeId} {cs : List Value}, Blk w1 g t cs → g < w0.heap.size → Blk w5 g t cs := by
  have hs := hbw0.size
  refine ⟨?_, sscript_own ho5 hT, fun {g t cs} hB hlt => ?_⟩
  · exact ((hbw0.drew.alloc _).trans hb1).grown hg5 (fun k hk => by have := (ho1.lt k hk).1; simp at this; omega)
  · refine hB.grown hg5 (fun e => ?_)
    have h1 := (ho1.lt _ e.symm).1
    simp at h1
    omega
end Go.Proofs.Ytdmjcgipfkhibaa
