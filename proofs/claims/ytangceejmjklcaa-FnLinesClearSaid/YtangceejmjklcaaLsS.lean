/- Three appends in a drawn region: steps of the call's own onto input steps, input steps behind them, and one step more. -/
import Derived.Test.YtangceejmjklcaaLsR
import Derived.Deep.AppendLies
namespace Go.Proofs.Ytangceejmjklcaa
open Go.RowKit Go.BigFrame

abbrev LSTY : TypeId := 29
/-- append of nothing: the slice as it is. -/
theorem run_append_zero {t e : TypeId} {size bytes : Nat} (A : ElTy t e size bytes) (w : World) (ty : TypeId) (s x : Option Addr) (n c cx : Nat) (hn : n ≤ c) : (Builtin.append_ #[t, t] ty #[.slice s n c, .slice x 0 cx]).run Try.prog w = .ok (.slice s n c) w := by
  obtain ⟨i, z, hi, hz, hsz, hby, hzc⟩ := A.ex
  cases s <;> cases x <;> simp [Builtin.append_, run_underlying A.sl, sizeOf, typeInfo, hi, Builtin.lenOf, Builtin.firstCells, hn, storeCells, loadCells, loadCellsFrom]
/-- append of own steps onto input steps without room: own memory, new. -/
theorem step_lcat2 {w : World} {ops : Array Oper} {o : Oper} {a : Act} {K : Act → World → Prop} {Q : Exit → Act → World → Prop} {E : Prop} (hgd : o.guard = none) (s x : Operand)
    (ho : o.op = .call { callee := .builtin .append, args := #[s, x], argTypes := #[23, 23] })
    (a2 : Option Addr) (n : Nat) (S : List Pl.LStep) (hs : a.eval s = .slice a2 n n) (hS : LSt w a2 n S) (b m : Nat) (T : List Pl.LStep) (hx : a.eval x = .slice (some ⟨b, 0, none⟩) m m) (hB : Blk w b LSTY (lsCells T)) (hm : T.length = m) (hm0 : 0 < m) (hn : n ≤ 2147483647) (hm' : m ≤ 100)
    (h : ∀ v w', w'.ownsRow w.heap.size LSTY 5 v (n + m) (lsCells (S ++ T)) → Bel w w' → K (a.put o.dst v) w') :
    if Region.wanted o (yielded ops a.tmps) = true then Oper.wp Try.prog o a w K Q else E := by
  obtain ⟨i, z, hi, hz, hsz, hby, hzc⟩ := elLs.ex
  have hnone : a2 = none → n = 0 := fun e => by
    rcases Nat.eq_zero_or_pos n with h0 | h0
    · exact h0
    · obtain ⟨_, _, e', _⟩ := hS.2 h0; rw [e] at e'; cases e'
  refine step_append_grows hgd s x 23 ho LSTY i z 5 40 elLs.sl hi hz hsz hby hzc (by decide) a2 n n (lsCells S) hs (fun e => ⟨hnone e, hnone e⟩) (by rw [lsCells_length, hS.1]) (fun ad had j u hj => ?_)
    ⟨b, 0, none⟩ m m (lsCells T) hx (by rw [lsCells_length, hm]) (fun j u hj => ?_) (lsCells_mem T) (by omega) (by unfold maxLen; omega) (by omega) (fun v' w' ho' hg' => ?_)
  · have hn0 : 0 < n := by
      have := (List.getElem?_eq_some_iff.1 hj).1
      rw [lsCells_length, hS.1] at this
      omega
    obtain ⟨b', o', e', _⟩ := hS.2 hn0
    rw [had] at e'
    cases e'
    subst had
    rw [Go.WideShapes.add_plain]
    exact hS.cells j u hj
  · rw [Go.WideShapes.add_plain, Nat.zero_add, hB.cell]
    exact hj
  · rw [← lsCells_append] at ho'
    exact h v' w' ho' ((Bel.refl w).grown hg' (by simp))
/-- append of input steps onto a row of own steps. -/
theorem step_lapp {w : World} {ops : Array Oper} {o : Oper} {a : Act} {K : Act → World → Prop} {Q : Exit → Act → World → Prop} {E : Prop} (hgd : o.guard = none) (s x : Operand)
    (ho : o.op = .call { callee := .builtin .append, args := #[s, x], argTypes := #[23, 23] })
    (base : Nat) (v : Value) (n : Nat) (S : List Pl.LStep) (hs : a.eval s = v) (hown : w.ownsRow base LSTY 5 v n (lsCells S)) (a3 : Option Addr) (m c3 : Nat) (T : List Pl.LStep) (hx : a.eval x = .slice a3 m c3) (hT : LSt w a3 m T) (hbase : base ≤ w.heap.size) (hn : n ≤ 3000000000) (hm : m ≤ 2147483647)
    (h : ∀ v' w', w'.ownsRow base LSTY 5 v' (n + m) (lsCells (S ++ T)) → w.grownBy w' v.ownBlock → (v'.ownBlock = v.ownBlock ∨ v'.ownBlock = some w.heap.size) → K (a.put o.dst v') w') :
    if Region.wanted o (yielded ops a.tmps) = true then Oper.wp Try.prog o a w K Q else E := by
  obtain ⟨i, z, hi, hz, hsz, hby, hzc⟩ := elLs.ex
  rcases Nat.eq_zero_or_pos m with h0 | h0
  · subst h0
    have hT0 : T = [] := List.length_eq_zero_iff.1 hT.1
    subst hT0
    obtain ⟨xa, xc, rfl, hc, _, _⟩ := own_form hown
    have hw : Region.wanted o (yielded ops a.tmps) = true := by simp [Region.wanted, hgd]
    rw [if_pos hw]
    have hrun := run_append_zero elLs w o.type xa a3 n xc c3 hc
    unfold Oper.wp
    simp [execOp, ho, resolve, invoke, builtin, hs, hx, hrun, Result.andThen]
    refine h _ _ (by simpa using hown) ⟨rfl, rfl, rfl, Nat.le_refl _, fun _ _ _ => rfl⟩ (.inl rfl)
  · obtain ⟨b, off, rfl, _⟩ := hT.2 h0
    refine step_append_lies w hgd s x 23 ho base LSTY i z 5 40 elLs.sl hi hz hsz hby hzc (by decide) v n (lsCells S) hs hown ⟨b, off, none⟩ m c3 (lsCells T) hx (by rw [lsCells_length, hT.1]) (fun j u hj => ?_) (lsCells_mem T) h0 (by unfold maxLen; omega) (by omega) hbase _ rfl ?_
    · rw [Go.WideShapes.add_plain]; exact hT.cells j u hj
    · intro g cap w' ho' hg' hb' _
      rw [← lsCells_append] at ho'
      exact h _ _ ho' hg' (by rcases hb' with e | e; exact .inl (by rw [e]; rfl); exact .inr (by rw [← e]; rfl))

/-- The worlds of the region: operations 8, 13 lay own steps into blocks, 9, 11, 14 append. -/
structure ZC (w0 : World) (n m : Nat) (S T1 T2 T3 : List Pl.LStep) (D : Nat → Bool) (b1 : Nat) (v1 v2 : Value) (b2 : Nat) (v3 : Value) (W : World) : Prop where
  bel : Bel w0 W
  k1 : D 8 = true → D 9 = false → Blk W b1 LSTY (lsCells T1)
  r1 : D 9 = true → D 11 = false → W.ownsRow w0.heap.size LSTY 5 v1 (n + 2) (lsCells (S ++ T1))
  r2 : D 11 = true → D 14 = false → W.ownsRow w0.heap.size LSTY 5 v2 (n + 2 + m) (lsCells (S ++ T1 ++ T2))
  k2 : D 13 = true → D 14 = false → Blk W b2 LSTY (lsCells T3)
  a1 : D 13 = true → D 9 = true → D 11 = false → v1.ownBlock ≠ some b2
  a2 : D 13 = true → D 11 = true → D 14 = false → v2.ownBlock ≠ some b2
  r3 : D 14 = true → W.ownsRow w0.heap.size LSTY 5 v3 (n + 2 + m + 1) (lsCells (S ++ T1 ++ T2 ++ T3))
section
variable {w0 W W' : World} {n m : Nat} {S T1 T2 T3 : List Pl.LStep} {D : Nat → Bool} {b1 b2 : Nat} {v1 v2 v3 : Value}
theorem ZC.start : ZC w0 n m S T1 T2 T3 (fun _ => false) b1 v1 v2 b2 v3 w0.drew := by
  refine ⟨(Bel.refl w0).drew, ?_, ?_, ?_, ?_, ?_, ?_, ?_⟩ <;> intro h <;> cases h
theorem ZC.quiet (h : ZC w0 n m S T1 T2 T3 D b1 v1 v2 b2 v3 W) {k : Nat} (hk : k ≠ 8 ∧ k ≠ 9 ∧ k ≠ 11 ∧ k ≠ 13 ∧ k ≠ 14) : ZC w0 n m S T1 T2 T3 (also D k) b1 v1 v2 b2 v3 W := by
  obtain ⟨h8, h9, h11, h13, h14⟩ := hk
  refine ⟨h.bel, ?_, ?_, ?_, ?_, ?_, ?_, ?_⟩ <;> simp only [also_ne (Ne.symm h8), also_ne (Ne.symm h9), also_ne (Ne.symm h11), also_ne (Ne.symm h13), also_ne (Ne.symm h14)]
  · exact h.k1
  · exact h.r1
  · exact h.r2
  · exact h.k2
  · exact h.a1
  · exact h.a2
  · exact h.r3
theorem ZC.mk1 (h : ZC w0 n m S T1 T2 T3 D b1 v1 v2 b2 v3 W) {cs : List Value} (hc : cs = lsCells T1) (hb : Bel W W') (hB : Blk W' W.heap.size LSTY cs) : ZC w0 n m S T1 T2 T3 (also D 8) W.heap.size v1 v2 b2 v3 W' := by
  subst hc
  refine ⟨h.bel.trans hb, fun _ _ => hB, ?_, ?_, ?_, ?_, ?_, ?_⟩ <;> simp only [also_ne (show 9 ≠ 8 by decide), also_ne (show 11 ≠ 8 by decide), also_ne (show 13 ≠ 8 by decide), also_ne (show 14 ≠ 8 by decide)]
  · exact fun x y => own_bel (h.r1 x y) hb
  · exact fun x y => own_bel (h.r2 x y) hb
  · exact fun x y => (h.k2 x y).bel hb
  · exact h.a1
  · exact h.a2
  · exact fun x => own_bel (h.r3 x) hb
theorem ZC.ap1 (h : ZC w0 n m S T1 T2 T3 D b1 v1 v2 b2 v3 W) (h11 : D 11 = false) (h14 : D 14 = false) {v' : Value} (ho : W'.ownsRow W.heap.size LSTY 5 v' (n + 2) (lsCells (S ++ T1))) (hb : Bel W W') : ZC w0 n m S T1 T2 T3 (also D 9) b1 v' v2 b2 v3 W' := by
  refine ⟨h.bel.trans hb, ?_, ?_, ?_, ?_, ?_, ?_, ?_⟩ <;> simp only [also_self, also_ne (show 8 ≠ 9 by decide), also_ne (show 11 ≠ 9 by decide), also_ne (show 13 ≠ 9 by decide), also_ne (show 14 ≠ 9 by decide), h11, h14]
  · exact fun _ e => by cases e
  · exact fun _ _ => own_base ho (fun k hk => by have := (ho.lt k hk).1; have := h.bel.size; omega)
  · exact fun e => by cases e
  · exact fun x _ => (h.k2 x h14).bel hb
  · intro x _ _ e
    have h1 := (ho.lt b2 e).1
    have h2 := (h.k2 x h14).lt
    omega
  · exact fun _ e => by cases e
  · exact fun e => by cases e
theorem ZC.ap2 (h : ZC w0 n m S T1 T2 T3 D b1 v1 v2 b2 v3 W) (h9 : D 9 = true) (h11 : D 11 = false) (h14 : D 14 = false) {v' : Value} (ho : W'.ownsRow w0.heap.size LSTY 5 v' (n + 2 + m) (lsCells (S ++ T1 ++ T2))) (hg : W.grownBy W' v1.ownBlock) (hv : v'.ownBlock = v1.ownBlock ∨ v'.ownBlock = some W.heap.size) : ZC w0 n m S T1 T2 T3 (also D 11) b1 v1 v' b2 v3 W' := by
  refine ⟨h.bel.grown hg (fun k hk => ((h.r1 h9 h11).lt k hk).1), ?_, ?_, ?_, ?_, ?_, ?_, ?_⟩ <;> simp only [also_self, also_ne (show 8 ≠ 11 by decide), also_ne (show 9 ≠ 11 by decide), also_ne (show 13 ≠ 11 by decide), also_ne (show 14 ≠ 11 by decide), h9, h14]
  · exact fun _ e => by cases e
  · exact fun _ e => by cases e
  · exact fun _ _ => ho
  · exact fun x _ => (h.k2 x h14).grown hg (fun e => h.a1 x h9 h11 e.symm)
  · exact fun _ _ e => by cases e
  · intro x _ _ e
    rcases hv with e1 | e1
    · exact h.a1 x h9 h11 (by rw [← e1]; exact e)
    · rw [e] at e1
      injection e1 with e1
      have := (h.k2 x h14).lt
      omega
  · exact fun e => by cases e
theorem ZC.mk2 (h : ZC w0 n m S T1 T2 T3 D b1 v1 v2 b2 v3 W) (h14 : D 14 = false) {cs : List Value} (hc : cs = lsCells T3) (hb : Bel W W') (hB : Blk W' W.heap.size LSTY cs) : ZC w0 n m S T1 T2 T3 (also D 13) b1 v1 v2 W.heap.size v3 W' := by
  subst hc
  refine ⟨h.bel.trans hb, ?_, ?_, ?_, ?_, ?_, ?_, ?_⟩ <;> simp only [also_self, also_ne (show 8 ≠ 13 by decide), also_ne (show 9 ≠ 13 by decide), also_ne (show 11 ≠ 13 by decide), also_ne (show 14 ≠ 13 by decide), h14]
  · exact fun x y => (h.k1 x y).bel hb
  · exact fun x y => own_bel (h.r1 x y) hb
  · exact fun x y => own_bel (h.r2 x h14) hb
  · exact fun _ _ => hB
  · intro _ x y e
    have := ((h.r1 x y).lt _ e).2
    omega
  · intro _ x _ e
    have := ((h.r2 x h14).lt _ e).2
    omega
  · exact fun e => by cases e
theorem ZC.ap3 (h : ZC w0 n m S T1 T2 T3 D b1 v1 v2 b2 v3 W) (h9 : D 9 = true) (h11 : D 11 = true) (h14 : D 14 = false) {v' : Value} (ho : W'.ownsRow w0.heap.size LSTY 5 v' (n + 2 + m + 1) (lsCells (S ++ T1 ++ T2 ++ T3))) (hg : W.grownBy W' v2.ownBlock) : ZC w0 n m S T1 T2 T3 (also D 14) b1 v1 v2 b2 v' W' := by
  refine ⟨h.bel.grown hg (fun k hk => ((h.r2 h11 h14).lt k hk).1), ?_, ?_, ?_, ?_, ?_, ?_, ?_⟩ <;> simp only [also_self, also_ne (show 8 ≠ 14 by decide), also_ne (show 9 ≠ 14 by decide), also_ne (show 11 ≠ 14 by decide), also_ne (show 13 ≠ 14 by decide), h9, h11]
  · exact fun _ e => by cases e
  · exact fun _ e => by cases e
  · exact fun _ e => by cases e
  · exact fun _ e => by cases e
  · exact fun _ _ e => by cases e
  · exact fun _ _ e => by cases e
  · exact fun _ => ho
end
end Go.Proofs.Ytangceejmjklcaa
