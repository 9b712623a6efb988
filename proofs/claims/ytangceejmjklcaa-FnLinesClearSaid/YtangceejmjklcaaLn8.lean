/- The methods of a map of lines: Foreach, with the closure of impl.lineStep. -/
import Derived.Test.YtangceejmjklcaaLn7
import Derived.Test.YtangceejmjklcaaLPos
namespace Go.Proofs.Ytangceejmjklcaa
open Go.RowKit Go.BigFrame

theorem LnM.out {w w' : World} {B B2 x m : Nat} {F : Nat → FileS} {d : Nat → List Pl.Ent} {vd : Nat → Value} {bm : Nat} {p : List Nat} (h : LnM w B x m F d vd bm p) (hk : KT outT B2 w w') : LnM w' B x m F d vd bm p := by
  obtain ⟨⟨li, lm, h1, h2⟩, hm, hp, hbb, hd, hB, hn, hmm⟩ := h
  refine ⟨⟨li, lm, h1.kt hk (.inl (by decide)), h2⟩, hm.kt hk, hp, fun i hi => ?_, hd, hB, hn, hmm⟩
  obtain ⟨sp, hs⟩ := hbb i hi
  exact ⟨sp, ⟨hs.hb.kt hk (.inl (by decide)), ⟨hs.hm.hg.kt hk (.inl (by decide)), hs.hm.hs.kt hk (.inl (by decide)), own_kt hs.hm.hd hk (.inl (by decide)), hs.hm.hi, hs.hm.hz, hs.hm.hb⟩, hs.hg⟩⟩

namespace Pl
/-- The files, lines and values of the files q, in that order. -/
def entF (d : Nat → List Ent) (q : List Nat) : List Int := q.flatMap fun i => (d i).map fun _ => ((i : Int) + 1)
def entL (f : Nat → Int) (d : Nat → List Ent) (q : List Nat) : List Int := q.flatMap fun i => (d i).map fun e => e.1 + f i
def entV (d : Nat → List Ent) (q : List Nat) : List Int := q.flatMap fun i => (d i).map fun e => e.2
end Pl
def qOf (p : List Nat) (seen : Array Nat) : List Nat := seen.toList.map fun k => p.getD k 0
theorem qOf_push (p : List Nat) (seen : Array Nat) (k : Nat) : qOf p (seen.push k) = qOf p seen ++ [p.getD k 0] := by simp [qOf]

/-- What foreachEntry's loop keeps. -/
structure FeI (w W : World) (B B2 o x m : Nat) (F : Nat → FileS) (d : Nat → List Pl.Ent) (vd : Nat → Value) (bm r : Nat) (p : List Nat) (seen : Array Nat) (ok va : Value) : Prop where
  rg : KRange W bm r (intKV .i32 (mapL F p)) seen
  ln : LnM W B x m F d vd bm p
  out : OutW W B2 o ok va (Pl.entF d (qOf p seen)) (Pl.entL (fun i => (F i).f) d (qOf p seen)) (Pl.entV d (qOf p seen))
  nd : seen.toList.Nodup
  lt : ∀ k ∈ seen.toList, k < m
  len : (Pl.entF d (qOf p seen)).length ≤ seen.size * 1000000
  kt : KT outT B2 w W
/-- .. and its inner loop's. -/
structure FeJ (w W : World) (B B2 o x m : Nat) (F : Nat → FileS) (d : Nat → List Pl.Ent) (vd : Nat → Value) (bm r : Nat) (p : List Nat) (seen : Array Nat) (ok va : Value) (k i t : Nat) : Prop where
  rg : KRange W bm r (intKV .i32 (mapL F p)) (seen.push k)
  ln : LnM W B x m F d vd bm p
  out : OutW W B2 o ok va (Pl.entF d (qOf p seen) ++ ((d i).take t).map fun _ => ((i : Int) + 1)) (Pl.entL (fun i => (F i).f) d (qOf p seen) ++ ((d i).take t).map fun e => e.1 + (F i).f) (Pl.entV d (qOf p seen) ++ ((d i).take t).map fun e => e.2)
  kt : KT outT B2 w W
theorem FeI.size_le {w W : World} {B B2 o x m : Nat} {F : Nat → FileS} {d : Nat → List Pl.Ent} {vd : Nat → Value} {bm r : Nat} {p : List Nat} {seen : Array Nat} {ok va : Value} (h : FeI w W B B2 o x m F d vd bm r p seen ok va) : seen.size ≤ m := by
  simpa using nodup_le m _ h.nd h.lt
theorem LnM.len {w : World} {B x m : Nat} {F : Nat → FileS} {d : Nat → List Pl.Ent} {vd : Nat → Value} {bm : Nat} {p : List Nat} (h : LnM w B x m F d vd bm p) {i : Nat} (hi : i < m) : (d i).length ≤ 1000000 := by
  obtain ⟨sp, hs⟩ := h.hb i hi
  have := hs.hm.hi.le
  have := (h.hn i hi).1
  omega
theorem FeI.first {w W W1 : World} {B B2 o x m : Nat} {F : Nat → FileS} {d : Nat → List Pl.Ent} {vd : Nat → Value} {bm r : Nat} {p : List Nat} {seen : Array Nat} {ok va : Value} (h : FeI w W B B2 o x m F d vd bm r p seen ok va) (hr : w.heap.size ≤ r) {k i : Nat}
    (hrg : KRange W1 bm r (intKV .i32 (mapL F p)) (seen.push k)) (hg : W.grownBy W1 (some r)) : FeJ w W1 B B2 o x m F d vd bm r p seen ok va k i 0 := by
  refine ⟨hrg, h.ln.iter h.rg hg, ?_, h.kt.iter hg hr⟩
  simp only [List.take_zero, List.map_nil, List.append_nil]
  obtain ⟨n, u1, u2, u3, h1, h2, h3, h4, h5⟩ := h.out
  have hne : ∀ (u : Value) (xs : List Value), W.ownsRow B2 2 1 u n xs → W1.ownsRow B2 2 1 u n xs := fun u xs ho => ho.kept hg (by
    cases hu : u.ownBlock with
    | none => exact .inl rfl
    | some q =>
      refine .inr (fun e => ?_)
      injection e with e
      obtain ⟨_, cs, t, mm, hh, _⟩ := own_kt_mem ho hu
      rw [e, h.rg.it] at hh
      cases hh)
  refine ⟨n, u1, u2, u3, h1.grown hg (fun e => ?_), hne _ _ h2, hne _ _ h3, hne _ _ h4, h5⟩
  injection e with e
  have := h.rg.it
  unfold Blk at h1
  rw [← e, h1] at this
  cases this
theorem FeJ.step {w W W1 W2 : World} {B B2 o x m : Nat} {F : Nat → FileS} {d : Nat → List Pl.Ent} {vd : Nat → Value} {bm r : Nat} {p : List Nat} {seen : Array Nat} {ok va : Value} {k i t : Nat} (h : FeJ w W B B2 o x m F d vd bm r p seen ok va k i t) {e : Pl.Ent} (he : (d i)[t]? = some e)
    (hb : Bel W W1) (hk : KT outT B2 W1 W2) (ho : OutW W2 B2 o ok va ((Pl.entF d (qOf p seen) ++ ((d i).take t).map fun _ => ((i : Int) + 1)) ++ [(i : Int) + 1]) ((Pl.entL (fun i => (F i).f) d (qOf p seen) ++ ((d i).take t).map fun e => e.1 + (F i).f) ++ [e.1 + (F i).f]) ((Pl.entV d (qOf p seen) ++ ((d i).take t).map fun e => e.2) ++ [e.2])) :
    FeJ w W2 B B2 o x m F d vd bm r p seen ok va k i (t + 1) ∧ W2.rangeLeft bm r = W.rangeLeft bm r := by
  have hk2 : KT outT B2 W W2 := (KT.of_bel hb).trans hk
  refine ⟨⟨h.rg.kt hk2, h.ln.out hk2, ?_, h.kt.trans hk2⟩, h.rg.left_kt hk2⟩
  rw [List.take_add_one, he]
  simpa using ho
theorem FeJ.done {w W0 W : World} {B B2 o x m : Nat} {F : Nat → FileS} {d : Nat → List Pl.Ent} {vd : Nat → Value} {bm r : Nat} {p : List Nat} {seen : Array Nat} {ok va : Value} {k i : Nat} (h : FeJ w W B B2 o x m F d vd bm r p seen ok va k i (d i).length) (h0 : FeI w W0 B B2 o x m F d vd bm r p seen ok va) (hki : p[k]? = some i) (hks : seen.contains k = false) :
    FeI w W B B2 o x m F d vd bm r p (seen.push k) ok va := by
  have hg : p.getD k 0 = i := by rw [List.getD_eq_getElem?_getD, hki]; rfl
  have hkm : k < m := by have := (List.getElem?_eq_some_iff.1 hki).1; rw [h.ln.plen] at this; exact this
  have hi : i < m := perm_at h.ln.hp hki
  have hl := h.ln.len hi
  have ho := h.out
  rw [List.take_of_length_le (Nat.le_refl _)] at ho
  have e1 : Pl.entF d (qOf p (seen.push k)) = Pl.entF d (qOf p seen) ++ (d i).map fun _ => ((i : Int) + 1) := by rw [qOf_push, hg]; simp [Pl.entF]
  refine ⟨h.rg, h.ln, ?_, ?_, ?_, ?_, h.kt⟩
  · have e2 : Pl.entL (fun i => (F i).f) d (qOf p (seen.push k)) = Pl.entL (fun i => (F i).f) d (qOf p seen) ++ (d i).map fun e => e.1 + (F i).f := by rw [qOf_push, hg]; simp [Pl.entL]
    have e3 : Pl.entV d (qOf p (seen.push k)) = Pl.entV d (qOf p seen) ++ (d i).map fun e => e.2 := by rw [qOf_push, hg]; simp [Pl.entV]
    rw [e1, e2, e3]; exact ho
  · rw [Array.toList_push, List.nodup_append]
    exact ⟨h0.nd, by simp, fun a ha b hb => by simp at hb; subst hb; rintro rfl; exact not_seen hks ha⟩
  · intro j hj
    rw [Array.toList_push] at hj
    rcases List.mem_append.1 hj with hj | hj
    · exact h0.lt j hj
    · simp at hj; omega
  · rw [e1, List.length_append, List.length_map, Array.size_push]
    have := h0.len
    omega
theorem FeI.all {w W : World} {B B2 o x m : Nat} {F : Nat → FileS} {d : Nat → List Pl.Ent} {vd : Nat → Value} {bm r : Nat} {p : List Nat} {seen : Array Nat} {ok va : Value} (h : FeI w W B B2 o x m F d vd bm r p seen ok va) (hall : ∀ k, k < (intKV .i32 (mapL F p)).length → seen.contains k = true) : (qOf p seen).Perm (List.range m) := by
  have hpl := h.ln.plen
  have h1 : seen.toList.Perm (List.range m) := (List.perm_ext_iff_of_nodup h.nd List.nodup_range).2 (fun k => ⟨fun hk => List.mem_range.2 (h.lt k hk), fun hk => by
    have := hall k (by rw [mapKV_length, hpl]; exact List.mem_range.1 hk)
    simpa using this⟩)
  have h2 : (qOf p seen).Perm ((List.range m).map fun k => p.getD k 0) := h1.map _
  refine h2.trans ?_
  have h3 : (List.range m).map (fun k => p.getD k 0) = p := by
    rw [← hpl]
    apply List.ext_getElem
    · simp
    · intro j hj1 hj2; simp [List.getD_eq_getElem?_getD, hj2]
  rw [h3]
  exact h.ln.hp

set_option maxRecDepth 100000 in
set_option maxHeartbeats 4000000 in
theorem lforeach0 {w : World} {B B2 x m o : Nat} {F : Nat → FileS} {d : Nat → List Pl.Ent} (h : LnW w B x m F d) {ok va : Value} (ho : OutW w B2 o ok va [] [] []) :
    Calls Try.prog 41 #[mptr x, .func (Fn.func 32) #[] #[mptr o]] w fun e w' => (∃ u, e = .returned u) ∧ LnW w' B x m F d ∧ KT outT B2 w w' ∧ ∃ q, q.Perm (List.range m) ∧ OutW w' B2 o ok va (Pl.entF d q) (Pl.entL (fun i => (F i).f) d q) (Pl.entV d q) := by
  obtain ⟨vd, bm, p, hM⟩ := h
  obtain ⟨li, lm, hx, _⟩ := hM.hx
  have c0 : w.cell? ⟨x, 0, none⟩ = some (.map (some bm)) := hx.cell 0
  have hr1 := run_range_map (P := Try.prog) w 88 21 89 bm (kvEs (intKV .i32 (mapL F p)) 0).toArray m tyMap hM.hm
  have hl : (intKV .i32 (mapL F p)).length = m := by rw [mapKV_length, hM.plen]
  have HS : Hid (FeI w (w.alloc (.mapIter (some bm) m #[] m)) B B2 o x m F d vd bm w.heap.size p #[] ok va) := Lib.hid
    ⟨⟨by rw [hl]; exact hM.hm.alloc _, by rw [hl]; exact heap_alloc_new w _⟩, hM.bel ((Bel.refl w).alloc _), ho.bel ((Bel.refl w).alloc _), by simp, by simp, by simp [Pl.entF, qOf], KT.of_bel ((Bel.refl w).alloc _)⟩
  clear hM hx hl ho
  go_enter Try.func41, Try.ntmps41
  go_wp2_with fail
  generalize hr : w.heap.size = r at HS ⊢
  generalize w.alloc (.mapIter (some bm) m #[] m) = w2 at HS ⊢
  have HR := Lib.hid hr
  clear hr hr1 c0
  go_loopw [15] (fun _ wr => ∃ seen, FeI w wr B B2 o x m F d vd bm r p seen ok va) (fun _ wr => wr.rangeLeft bm r)
  case atStart => exact ⟨_, HS.out⟩
  case round =>
    obtain ⟨seen, hT⟩ := hrel
    have HT := Lib.hid hT; clear hT HS
    go_wp2_with (at_next; refine wpList_nextKV rfl _ rfl rfl HT.out.rg ?_ ?_)
    · intro hall
      have HP := Lib.hid (HT.out.all (fun k hk => by simpa using hall k hk))
      clear hall
      go_wp2
      go_end0
      exact ⟨⟨_, rfl⟩, ⟨vd, bm, p, HT.out.ln⟩, HT.out.kt, _, HP.out, HT.out.out⟩
    · intro k ea eb w3 hk hks hr3 hg3 hs3 hlt3 hen
      obtain ⟨i, hki, he⟩ := mapL_at hk
      obtain ⟨rfl, rfl⟩ := Prod.mk.inj he
      have hks' : seen.contains k = false := by simpa using hks
      have HJ := Lib.hid (HT.out.first (i := i) (by rw [HR.out]; exact Nat.le_refl _) hr3 hg3)
      have HG := Lib.hid (And.intro hki (And.intro hks' hlt3))
      have hi : i < m := perm_at HJ.out.ln.hp hki
      have HSZ := Lib.hid (And.intro HT.out.size_le HT.out.len)
      clear he hk hks hks' hr3 hg3 hs3 hlt3 hki
      obtain ⟨sp, hbi⟩ := HJ.out.ln.hb i hi
      have HBS := Lib.hid (bsize0 hbi)
      have hdl := HJ.out.ln.len hi
      obtain ⟨nn0, ff0, ff1⟩ := HJ.out.ln.hn i hi
      have hmm := HJ.out.ln.hmm
      clear hbi
      go_wp2_with (go_at_call 50; refine HBS.out.mono ?_; rintro e w' ⟨rfl, rfl⟩)
      generalize hws : w3 = ws at HJ HG hen ⊢
      have HW3 := Lib.hid hws; clear hws hen HBS
      go_loopw [7] (fun t wr2 => ∃ j : Nat, j ≤ (d i).length ∧ t = .int .i64 j ∧ FeJ w wr2 B B2 o x m F d vd bm r p seen ok va k i j ∧ wr2.rangeLeft bm r = ws.rangeLeft bm r) (fun t _ => (d i).length - (intOf t).toNat)
      case atStart => exact ⟨0, Nat.zero_le _, rfl, HJ.out, rfl⟩
      case round =>
        obtain ⟨j, hj, rfl, hJ, hleft⟩ := hrel
        have HJ2 := Lib.hid (And.intro hJ hleft); clear hJ hleft
        by_cases hlt : j < (d i).length
        · obtain ⟨e, he⟩ : ∃ e, (d i)[j]? = some e := ⟨_, List.getElem?_eq_getElem hlt⟩
          obtain ⟨sp2, hb2⟩ := HJ2.out.1.ln.hb i hi
          have hkeys := hb2.hm.keys e (List.mem_of_getElem? he)
          have hval := hb2.hm.hz e (List.mem_of_getElem? he)
          have HEN := Lib.hid (bentry0 hb2 nn0 ff0 ff1 he)
          have HE := Lib.hid he
          have HV := Lib.hid hval
          clear hb2 he hval
          obtain ⟨kk0, kk1⟩ := hkeys
          go_wp2_with fail
          refine HEN.out.mono ?_
          rintro ex w5 ⟨rfl, hb5⟩
          have hO := HJ2.out.1.out.bel hb5
          have hGA := gather_any hO (j := (i : Int) + 1) (l := e.1 + (F i).f) (x := e.2) (by unfold Val32; omega) (by omega) (by omega) HV.out (by
            have h1 := HSZ.out.1
            have h2 := HSZ.out.2
            rw [List.length_append, List.length_map, List.length_take]
            have h3 : seen.size * 1000000 ≤ m * 1000000 := Nat.mul_le_mul_right _ h1
            omega)
          have HGA := Lib.hid hGA
          have HB5 := Lib.hid hb5
          clear hO hGA hb5
          go_wp2_with fail
          refine HGA.out.mono ?_
          rintro ex w6 ⟨⟨u, rfl⟩, hO6, hk6⟩
          have HST := Lib.hid (HJ2.out.1.step HE.out HB5.out hk6 hO6)
          clear hO6 hk6
          go_wp2
          go_roundw
          case rel => exact ⟨j + 1, by omega, by go_num, HST.out.1, by rw [HST.out.2]; exact HJ2.out.2⟩
          case measure => simp [intOf]; omega
        · obtain rfl : j = (d i).length := by omega
          have HD := Lib.hid (HJ2.out.1.done HT.out HG.out.1 HG.out.2.1)
          have HL := Lib.hid (And.intro HJ2.out.2 HG.out.2.2)
          clear HJ2
          go_wp2
          go_roundw
          case rel => exact ⟨_, HD.out⟩
          case measure => rw [HL.out.1]; exact HL.out.2
end Go.Proofs.Ytangceejmjklcaa
