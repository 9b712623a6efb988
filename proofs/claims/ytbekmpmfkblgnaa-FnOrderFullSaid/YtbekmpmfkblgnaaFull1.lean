/- Two positions in full, compared. -/
import Derived.Test.YtbekmpmfkblgnaaNames
import Derived.Test.YtbekmpmfkblgnaaInv3
import Derived.Test.YtbekmpmfkblgnaaRel3
namespace Go.Proofs.Ytbekmpmfkblgnaa
open Go.RowKit Go.BigFrame

attribute [local go_sem ↓] eql_str
attribute [local go_sem ↓] lss_str
attribute [local go_sem ↓] gtr_str

def fullB (n m : ByteArray) (x y : Int) : Bool := strLt n m || (decide (n = m) && decide (x < y))

theorem two_boxes (w : World) (a b c d : Value) (t : TypeId) : Blk ((w.alloc (.cells #[a, b] t)).alloc (.cells #[c, d] t)) w.heap.size t [a, b] ∧ Blk ((w.alloc (.cells #[a, b] t)).alloc (.cells #[c, d] t)) (w.heap.size + 1) t [c, d] := by
  refine ⟨(Blk.new w t [a, b]).alloc _, ?_⟩
  have := Blk.new (w.alloc (.cells #[a, b] t)) t [c, d]
  rwa [World.size_alloc] at this

set_option maxRecDepth 100000 in
set_option maxHeartbeats 2000000 in
theorem fullBefore_any (g1 g2 : Nat) (x y f1 f2 : Int) (n m : ByteArray) (w : World) (h1 : Blk w g1 93 (fileBase g1 n f1)) (h2 : Blk w g2 93 (fileBase g2 m f2)) :
    Calls Try.prog 33 #[.agg #[ptr g1, .int .u32 x], .agg #[ptr g2, .int .u32 y]] w fun e w' => e = .returned (.bool (fullB n m x y)) ∧ Bel w w' := by
  obtain ⟨hP, hQ⟩ := two_boxes w (ptr g1) (.int .u32 x) (ptr g2) (.int .u32 y) 65
  have hb : Bel w ((w.alloc (.cells #[ptr g1, .int .u32 x] 65)).alloc (.cells #[ptr g2, .int .u32 y] 65)) := ((Bel.refl w).alloc _).alloc _
  have HG := Lib.hid (And.intro (h1.bel hb) (h2.bel hb)); clear h1 h2
  have HB := Lib.hid hb; clear hb
  go_enter Try.func33, Try.ntmps33
  go_upto_region 1 with (fail)
  generalize (w.alloc (.cells #[ptr g1, .int .u32 x] 65)).alloc (.cells #[ptr g2, .int .u32 y] 65) = W at hP hQ HG HB ⊢
  have p0 : W.cell? ⟨w.heap.size, 0, none⟩ = some (ptr g1) := hP.cell 0
  have p1 : W.cell? ⟨w.heap.size, 1, none⟩ = some (.int .u32 x) := hP.cell 1
  have q0 : W.cell? ⟨w.heap.size + 1, 0, none⟩ = some (ptr g2) := hQ.cell 0
  have q1 : W.cell? ⟨w.heap.size + 1, 1, none⟩ = some (.int .u32 y) := hQ.cell 1
  have HPQ := Lib.hid (And.intro p1 q1)
  clear hP hQ
  obtain ⟨p0, p1, q0, q1⟩ := And.intro (Later.cell p0) (And.intro (Later.cell p1) (And.intro (Later.cell q0) (Later.cell q1)))
  refine region_later (by kernel_rfl) (by kernel_rfl) ?_
  repeat (go_big_quiet_step ((go_at_call 52; first | exact call_later _ (fileName_any g1 x f1 n _ (HG.out.1.bel (Later.bel _))) | exact call_later _ (fileName_any g2 y f2 m _ (HG.out.2.bel (Later.bel _))))))
  refine wpQuiet_nil ?_
  intro _ hw'
  obtain ⟨z, hz⟩ := hw'
  subst hz
  have hbz := Lib.hid (HB.out.trans z.bel)
  have r1 := z.bel.cell HPQ.out.1
  have r2 := z.bel.cell HPQ.out.2
  clear p0 p1 q0 q1
  generalize z.at = W2 at r1 r2 hbz ⊢
  by_cases hn : n = m
  · subst hn
    have hz : Op.bytesLess n.toList n.toList = false := strLt_self n
    by_cases hx : x < y
    · go_wp2
      go_ret
      exact ⟨ret_bool (by simp [fullB, hx]), hbz.out⟩
    · go_wp2
      go_ret
      exact ⟨ret_bool (by simp [fullB, strLt_self, hx]), hbz.out⟩
  · have d2 : (n.toList == m.toList) = false := by rw [beq_str]; simpa using hn
    cases hs : strLt n m
    · have hz : Op.bytesLess n.toList m.toList = false := hs
      go_wp2
      go_ret
      exact ⟨ret_bool (by simp [fullB, hs, hn]), hbz.out⟩
    · have hz : Op.bytesLess n.toList m.toList = true := hs
      go_wp2
      go_ret
      exact ⟨ret_bool (by simp [fullB, hs]), hbz.out⟩
set_option maxRecDepth 100000 in
set_option maxHeartbeats 2000000 in
theorem fullAfter_any (g1 g2 : Nat) (x y f1 f2 : Int) (n m : ByteArray) (w : World) (h1 : Blk w g1 93 (fileBase g1 n f1)) (h2 : Blk w g2 93 (fileBase g2 m f2)) :
    Calls Try.prog 34 #[.agg #[ptr g1, .int .u32 x], .agg #[ptr g2, .int .u32 y]] w fun e w' => e = .returned (.bool (fullB m n y x)) ∧ Bel w w' := by
  obtain ⟨hP, hQ⟩ := two_boxes w (ptr g1) (.int .u32 x) (ptr g2) (.int .u32 y) 65
  have hb : Bel w ((w.alloc (.cells #[ptr g1, .int .u32 x] 65)).alloc (.cells #[ptr g2, .int .u32 y] 65)) := ((Bel.refl w).alloc _).alloc _
  have HG := Lib.hid (And.intro (h1.bel hb) (h2.bel hb)); clear h1 h2
  have HB := Lib.hid hb; clear hb
  go_enter Try.func34, Try.ntmps34
  go_upto_region 1 with (fail)
  generalize (w.alloc (.cells #[ptr g1, .int .u32 x] 65)).alloc (.cells #[ptr g2, .int .u32 y] 65) = W at hP hQ HG HB ⊢
  have p0 : W.cell? ⟨w.heap.size, 0, none⟩ = some (ptr g1) := hP.cell 0
  have p1 : W.cell? ⟨w.heap.size, 1, none⟩ = some (.int .u32 x) := hP.cell 1
  have q0 : W.cell? ⟨w.heap.size + 1, 0, none⟩ = some (ptr g2) := hQ.cell 0
  have q1 : W.cell? ⟨w.heap.size + 1, 1, none⟩ = some (.int .u32 y) := hQ.cell 1
  have HPQ := Lib.hid (And.intro p1 q1)
  clear hP hQ
  obtain ⟨p0, p1, q0, q1⟩ := And.intro (Later.cell p0) (And.intro (Later.cell p1) (And.intro (Later.cell q0) (Later.cell q1)))
  refine region_later (by kernel_rfl) (by kernel_rfl) ?_
  repeat (go_big_quiet_step ((go_at_call 52; first | exact call_later _ (fileName_any g1 x f1 n _ (HG.out.1.bel (Later.bel _))) | exact call_later _ (fileName_any g2 y f2 m _ (HG.out.2.bel (Later.bel _))))))
  refine wpQuiet_nil ?_
  intro _ hw'
  obtain ⟨z, hz⟩ := hw'
  subst hz
  have hbz := Lib.hid (HB.out.trans z.bel)
  have r1 := z.bel.cell HPQ.out.1
  have r2 := z.bel.cell HPQ.out.2
  clear p0 p1 q0 q1
  generalize z.at = W2 at r1 r2 hbz ⊢
  by_cases hn : n = m
  · subst hn
    have hz : Op.bytesLess n.toList n.toList = false := strLt_self n
    by_cases hx : y < x
    · go_wp2
      go_ret
      exact ⟨ret_bool (by simp [fullB, hx]), hbz.out⟩
    · go_wp2
      go_ret
      exact ⟨ret_bool (by simp [fullB, strLt_self, hx]), hbz.out⟩
  · have d2 : (n.toList == m.toList) = false := by rw [beq_str]; simpa using hn
    have hsw := strLt_swap hn
    cases hs : strLt n m
    · have hz : Op.bytesLess n.toList m.toList = false := hs
      go_wp2
      go_ret
      exact ⟨ret_bool (by simp [fullB, hsw, hs]), hbz.out⟩
    · have hz : Op.bytesLess n.toList m.toList = true := hs
      go_wp2
      go_ret
      exact ⟨ret_bool (by simp [fullB, hsw, hs, Ne.symm hn]), hbz.out⟩
end Go.Proofs.Ytbekmpmfkblgnaa
