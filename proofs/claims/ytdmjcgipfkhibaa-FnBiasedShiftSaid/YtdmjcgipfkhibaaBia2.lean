/- The walks of a biased map's methods, on. -/
import Derived.Test.YtdmjcgipfkhibaaBia1
namespace Go.Proofs.Ytdmjcgipfkhibaa
open Go.RowKit
attribute [local go_sem ↓] Go.wp_at_zero Go.wp_at_succ

theorem bCap_any {w : World} {base n g gs gb : Nat} {f : Int} {vd : Value} {d : List Pl.Ent} {sp : List Int} (h : BiaW w base n g gs gb f vd d sp) (hn : n ≤ 1000000) (f0 : 0 ≤ f) (f1 : f ≤ 1073741824) :
    Calls Try.prog 78 #[mptr gb] w fun e w' => e = .returned (.int .i64 ((n : Int) + f)) ∧ Bel w w' := by
  have H := Lib.hid (bcap0 h hn f0 f1)
  clear h
  go_enter Try.func78, Try.ntmps78
  go_wp2_with (go_at_call 115; refine H.out.mono ?_; rintro e w' ⟨rfl, hs⟩)
  go_ret
  exact ⟨rfl, hs⟩

theorem bsize0 {w : World} {base n g gs gb : Nat} {f : Int} {vd : Value} {d : List Pl.Ent} {sp : List Int} (h : BiaW w base n g gs gb f vd d sp) :
    Calls Try.prog 112 #[mptr gb] w fun e w' => e = .returned (.int .i64 d.length) ∧ w = w' := by
  have H := Lib.hid h
  have c0 : w.cell? ⟨gb, 0, none⟩ = some (mptr g) := h.hb.cell 0
  clear h
  go_enter Try.func112, Try.ntmps112
  go_wp2_with (go_at_call 95; refine (msize0 H.out.hm).mono ?_; rintro e w' ⟨rfl, rfl⟩)
  go_ret
  exact ⟨rfl, rfl⟩
theorem bSize_any {w : World} {base n g gs gb : Nat} {f : Int} {vd : Value} {d : List Pl.Ent} {sp : List Int} (h : BiaW w base n g gs gb f vd d sp) :
    Calls Try.prog 75 #[mptr gb] w fun e w' => e = .returned (.int .i64 d.length) ∧ w = w' := by
  have H := Lib.hid (bsize0 h)
  clear h
  go_enter Try.func75, Try.ntmps75
  go_wp2_with (go_at_call 112; refine H.out.mono ?_; rintro e w' ⟨rfl, rfl⟩)
  go_ret
  exact ⟨rfl, rfl⟩

/-- The bounds of a key. -/
structure KeyIn (x : Int) : Prop where
  x0 : 0 ≤ x
  x1 : x ≤ 1099511627776

set_option maxHeartbeats 1000000 in
theorem bcontains0 {w : World} {base n g gs gb : Nat} {f : Int} {vd : Value} {d : List Pl.Ent} {sp : List Int} (h : BiaW w base n g gs gb f vd d sp) (hn : n ≤ 1000000) (f0 : 0 ≤ f) (f1 : f ≤ 1073741824) {x : Int} (hx : KeyIn x) :
    Calls Try.prog 110 #[mptr gb, .int .u64 x] w fun e w' => e = .returned (.bool (hasB (shE f d) x)) ∧ Bel w w' := by
  have H := Lib.hid h
  have c0 : w.cell? ⟨gb, 0, none⟩ = some (mptr g) := h.hb.cell 0
  have c1 : w.cell? ⟨gb, 1, none⟩ = some (.int .i64 f) := h.hb.cell 1
  clear h
  obtain ⟨x0, x1⟩ := hx
  by_cases hlt : x < f
  · rw [hasB_out H.out.hm.keys (.inl hlt)]
    go_enter Try.func110, Try.ntmps110
    go_wp2
    go_ret
    exact ⟨rfl, Bel.refl w⟩
  by_cases hge : (n : Int) + f ≤ x
  · rw [hasB_out H.out.hm.keys (.inr (by omega))]
    go_enter Try.func110, Try.ntmps110
    go_wp2_with (go_at_call 115; refine (bcap0 H.out hn f0 f1).mono ?_; rintro e w1 ⟨rfl, hb1⟩)
    go_ret
    exact ⟨rfl, hb1⟩
  rw [hasB_sh]
  obtain ⟨k, hk⟩ := Int.eq_ofNat_of_zero_le (a := x - f) (by omega)
  rw [hk]
  have hkn : k < n := by omega
  have i0 : IntKind.i64.wrap x = x := IntWalk.i64_in _ (by omega)
  have i1 : IntKind.i64.wrap (x - f) = (k : Int) := by rw [hk]; exact IntWalk.i64_in _ (by omega)
  have i2 : IntKind.i32.wrap (k : Int) = (k : Int) := IntWalk.i32_in _ (by omega)
  have HKK := Lib.hid hk; clear hk
  go_enter Try.func110, Try.ntmps110
  go_wp2_with (go_at_call 115; refine (bcap0 H.out hn f0 f1).mono ?_; rintro e w1 ⟨rfl, hb1⟩)
  have d0 := hb1.cell c0
  have d1 := hb1.cell c1
  clear c0 c1
  have H1 := Lib.hid (H.out.bel hb1)
  go_region_held3 (fun w' => w'.cell? ⟨gb, 0, none⟩ = some (mptr g) ∧ w'.cell? ⟨gb, 1, none⟩ = some (.int .i64 f)) (go_keep)
    (first | (go_at_call 93; refine (mcontains0 (H1.out.hm.bel (Bel.refl w1).drew) hn k hkn).mono ?_; rintro e w' ⟨rfl, rfl⟩))
  go_wp2
  go_ret
  exact ⟨rfl, hb1.drew⟩
theorem bContains_any {w : World} {base n g gs gb : Nat} {f : Int} {vd : Value} {d : List Pl.Ent} {sp : List Int} (h : BiaW w base n g gs gb f vd d sp) (hn : n ≤ 1000000) (f0 : 0 ≤ f) (f1 : f ≤ 1073741824) {x : Int} (hx : KeyIn x) :
    Calls Try.prog 73 #[mptr gb, .int .u64 x] w fun e w' => e = .returned (.bool (hasB (shE f d) x)) ∧ Bel w w' := by
  have H := Lib.hid (bcontains0 h hn f0 f1 hx)
  clear h
  go_enter Try.func73, Try.ntmps73
  go_wp2_with (go_at_call 110; refine H.out.mono ?_; rintro e w' ⟨rfl, hs⟩)
  go_ret
  exact ⟨rfl, hs⟩

set_option maxHeartbeats 1000000 in
theorem bget0 {w : World} {base n g gs gb : Nat} {f : Int} {vd : Value} {d : List Pl.Ent} {sp : List Int} (h : BiaW w base n g gs gb f vd d sp) (hn : n ≤ 1000000) (f0 : 0 ≤ f) (f1 : f ≤ 1073741824) {x : Int} (hx : KeyIn x) :
    Calls Try.prog 111 #[mptr gb, .int .u64 x] w fun e w' => e = .returned (.tuple #[.int .i32 (getV (shE f d) x), .bool (hasB (shE f d) x)]) ∧ Bel w w' := by
  have H := Lib.hid h
  have c0 : w.cell? ⟨gb, 0, none⟩ = some (mptr g) := h.hb.cell 0
  have c1 : w.cell? ⟨gb, 1, none⟩ = some (.int .i64 f) := h.hb.cell 1
  clear h
  obtain ⟨x0, x1⟩ := hx
  by_cases hlt : x < f
  · have ho := hasB_out H.out.hm.keys (.inl hlt)
    rw [getV_out ho, ho]
    clear ho
    go_enter Try.func111, Try.ntmps111
    go_wp2
    go_ret2
    exact ⟨rfl, Bel.refl w⟩
  by_cases hge : (n : Int) + f ≤ x
  · have ho := hasB_out (x := x) (f := f) H.out.hm.keys (.inr (by omega))
    rw [getV_out ho, ho]
    clear ho
    go_enter Try.func111, Try.ntmps111
    go_wp2_with (go_at_call 115; refine (bcap0 H.out hn f0 f1).mono ?_; rintro e w1 ⟨rfl, hb1⟩)
    go_ret2
    exact ⟨rfl, hb1⟩
  rw [hasB_sh, getV_sh]
  obtain ⟨k, hk⟩ := Int.eq_ofNat_of_zero_le (a := x - f) (by omega)
  rw [hk]
  have hkn : k < n := by omega
  have i0 : IntKind.i64.wrap x = x := IntWalk.i64_in _ (by omega)
  have i1 : IntKind.i64.wrap (x - f) = (k : Int) := by rw [hk]; exact IntWalk.i64_in _ (by omega)
  have i2 : IntKind.i32.wrap (k : Int) = (k : Int) := IntWalk.i32_in _ (by omega)
  have HKK := Lib.hid hk; clear hk
  cases hb : hasB d k
  · rw [getV_out hb]
    have HN := Lib.hid hb; clear hb
    go_enter Try.func111, Try.ntmps111
    go_wp2_with fail
    refine (bcap0 H.out hn f0 f1).mono ?_
    rintro e w1 ⟨rfl, hb1⟩
    have d0 := hb1.cell c0
    have d1 := hb1.cell c1
    clear c0 c1
    have H1 := Lib.hid (mcontains0 (H.out.bel hb1).hm hn k hkn)
    rw [HN.out] at H1
    go_wp2_with fail
    refine H1.out.mono ?_
    rintro e w2 ⟨rfl, rfl⟩
    go_wp2
    go_ret2
    exact ⟨rfl, hb1⟩
  · have HN := Lib.hid hb; clear hb
    go_enter Try.func111, Try.ntmps111
    go_wp2_with fail
    refine (bcap0 H.out hn f0 f1).mono ?_
    rintro e w1 ⟨rfl, hb1⟩
    have d0 := hb1.cell c0
    have d1 := hb1.cell c1
    clear c0 c1
    have H1 := Lib.hid (mcontains0 (H.out.bel hb1).hm hn k hkn)
    have H2 := Lib.hid (mget_any (H.out.bel hb1).hm hn k hkn)
    rw [HN.out] at H1 H2
    go_wp2_with fail
    refine H1.out.mono ?_
    rintro e w2 ⟨rfl, rfl⟩
    go_wp2_with fail
    refine H2.out.mono ?_
    rintro e w2 ⟨rfl, hb2⟩
    go_wp2
    go_ret2
    exact ⟨rfl, hb1.trans hb2⟩
theorem bGet_any {w : World} {base n g gs gb : Nat} {f : Int} {vd : Value} {d : List Pl.Ent} {sp : List Int} (h : BiaW w base n g gs gb f vd d sp) (hn : n ≤ 1000000) (f0 : 0 ≤ f) (f1 : f ≤ 1073741824) {x : Int} (hx : KeyIn x) :
    Calls Try.prog 74 #[mptr gb, .int .u64 x] w fun e w' => e = .returned (.tuple #[.int .i32 (getV (shE f d) x), .bool (hasB (shE f d) x)]) ∧ Bel w w' := by
  have H := Lib.hid (bget0 h hn f0 f1 hx)
  clear h
  go_enter Try.func74, Try.ntmps74
  go_wp2_with (go_at_call 111; refine H.out.mono ?_; rintro e w' ⟨rfl, hs⟩)
  go_ret2
  exact ⟨rfl, hs⟩

/-- What Set leaves: keys outside change nothing. -/
def bputE (n : Nat) (f : Int) (d : List Pl.Ent) (x v : Int) : List Pl.Ent := if f ≤ x ∧ x < n + f then putE d (x - f) v else d

set_option maxHeartbeats 1000000 in
theorem bset0 {w : World} {base n g gs gb : Nat} {f : Int} {vd : Value} {d : List Pl.Ent} {sp : List Int} (h : BiaW w base n g gs gb f vd d sp) (hn : n ≤ 1000000) (f0 : 0 ≤ f) (f1 : f ≤ 1073741824) {x : Int} (hx : KeyIn x) (v : Int) (hv : Val32 v) :
    Calls Try.prog 108 #[mptr gb, .int .u64 x, .int .i32 v] w fun e w' => (∃ v, e = .returned v) ∧ BiaTo w w' base n g gs gb f vd (bputE n f d x v) := by
  have H := Lib.hid h
  have hbs : base ≤ w.heap.size := by have := h.hg; have := h.hb.lt; omega
  have c0 : w.cell? ⟨gb, 0, none⟩ = some (mptr g) := h.hb.cell 0
  have c1 : w.cell? ⟨gb, 1, none⟩ = some (.int .i64 f) := h.hb.cell 1
  clear h
  obtain ⟨x0, x1⟩ := hx
  unfold bputE
  by_cases hlt : x < f
  · rw [if_neg (by omega)]
    go_enter Try.func108, Try.ntmps108
    go_wp2
    refine bodyPost_ret (results_none rfl _ _ _) rfl ?_
    exact ⟨⟨_, rfl⟩, BiaTo.same H.out (Bel.refl w)⟩
  by_cases hge : (n : Int) + f ≤ x
  · rw [if_neg (by omega)]
    go_enter Try.func108, Try.ntmps108
    go_wp2_with (go_at_call 115; refine (bcap0 H.out hn f0 f1).mono ?_; rintro e w1 ⟨rfl, hb1⟩)
    refine bodyPost_ret (results_none rfl _ _ _) rfl ?_
    exact ⟨⟨_, rfl⟩, BiaTo.same H.out hb1⟩
  rw [if_pos (by omega)]
  obtain ⟨k, hk⟩ := Int.eq_ofNat_of_zero_le (a := x - f) (by omega)
  rw [hk]
  have hkn : k < n := by omega
  have i0 : IntKind.i64.wrap x = x := IntWalk.i64_in _ (by omega)
  have i1 : IntKind.i64.wrap (x - f) = (k : Int) := by rw [hk]; exact IntWalk.i64_in _ (by omega)
  have i2 : IntKind.i32.wrap (k : Int) = (k : Int) := IntWalk.i32_in _ (by omega)
  have HKK := Lib.hid hk; clear hk
  have HV := Lib.hid hv; clear hv
  go_enter Try.func108, Try.ntmps108
  go_wp2_with (go_at_call 115; refine (bcap0 H.out hn f0 f1).mono ?_; rintro e w1 ⟨rfl, hb1⟩)
  have d0 := hb1.cell c0
  have d1 := hb1.cell c1
  have hbz := hb1.size
  clear c0 c1
  have H1 := Lib.hid (H.out.bel hb1)
  have HS := Lib.hid (fun w2 (hs : MapTo w1.drew w2 base n g gs vd (putE d k v)) => (⟨H1.out.hb.kept (BiaTo.of H1.out (Bel.refl w1).drew hs).choose_spec.choose_spec.2.1 H1.out.far, BiaTo.of H.out hb1.drew hs⟩ : Blk w2 gb 138 [mptr g, .int .i64 f] ∧ BiaTo w w2 base n g gs gb f vd (putE d k v)))
  go_region_held3 (fun w' => w'.cell? ⟨gb, 0, none⟩ = some (mptr g) ∧ w'.cell? ⟨gb, 1, none⟩ = some (.int .i64 f)) (first | exact k2 | go_keep)
    (first | (go_at_call 91; refine (mset_any (H1.out.hm.bel (Bel.refl w1).drew) hn (by simp; omega) k hkn v HV.out).mono ?_; rintro e w2 ⟨⟨u, rfl⟩, hs⟩; have HR := Lib.hid (HS.out w2 hs); clear hs; have k2 := And.intro (HR.out.1.cell 0) (HR.out.1.cell 1)))
  go_wp2
  go_end0
  exact ⟨⟨_, rfl⟩, HR.out.2⟩
theorem bSet_any {w : World} {base n g gs gb : Nat} {f : Int} {vd : Value} {d : List Pl.Ent} {sp : List Int} (h : BiaW w base n g gs gb f vd d sp) (hn : n ≤ 1000000) (f0 : 0 ≤ f) (f1 : f ≤ 1073741824) {x : Int} (hx : KeyIn x) (v : Int) (hv : Val32 v) :
    Calls Try.prog 71 #[mptr gb, .int .u64 x, .int .i32 v] w fun e w' => (∃ v, e = .returned v) ∧ BiaTo w w' base n g gs gb f vd (bputE n f d x v) := by
  have H := Lib.hid (bset0 h hn f0 f1 hx v hv)
  clear h
  go_enter Try.func71, Try.ntmps71
  go_wp2_with (go_at_call 108; refine H.out.mono ?_; rintro e w' ⟨⟨u, rfl⟩, hs⟩)
  go_end0
  exact ⟨⟨_, rfl⟩, hs⟩

theorem outE_far {d : List Pl.Ent} {n : Nat} (h : ∀ e ∈ d, 0 ≤ e.1 ∧ e.1 < (n : Int)) {x : Int} (hx : x < 0 ∨ (n : Int) ≤ x) : outE d x = d := outE_not (fun v hv => by have := h _ hv; simp at this; omega)

set_option maxHeartbeats 1000000 in
theorem bremove0 {w : World} {base n g gs gb : Nat} {f : Int} {vd : Value} {d : List Pl.Ent} {sp : List Int} (h : BiaW w base n g gs gb f vd d sp) (hn : n ≤ 1000000) (f0 : 0 ≤ f) (f1 : f ≤ 1073741824) {x : Int} (hx : KeyIn x) :
    Calls Try.prog 109 #[mptr gb, .int .u64 x] w fun e w' => (∃ v, e = .returned v) ∧ BiaTo w w' base n g gs gb f vd (outE d (x - f)) := by
  have H := Lib.hid h
  have c0 : w.cell? ⟨gb, 0, none⟩ = some (mptr g) := h.hb.cell 0
  have c1 : w.cell? ⟨gb, 1, none⟩ = some (.int .i64 f) := h.hb.cell 1
  clear h
  obtain ⟨x0, x1⟩ := hx
  by_cases hlt : x < f
  · rw [outE_far H.out.hm.keys (.inl (by omega))]
    go_enter Try.func109, Try.ntmps109
    go_wp2
    refine bodyPost_ret (results_none rfl _ _ _) rfl ?_
    exact ⟨⟨_, rfl⟩, BiaTo.same H.out (Bel.refl w)⟩
  by_cases hge : (n : Int) + f ≤ x
  · rw [outE_far H.out.hm.keys (.inr (by omega))]
    go_enter Try.func109, Try.ntmps109
    go_wp2_with (go_at_call 115; refine (bcap0 H.out hn f0 f1).mono ?_; rintro e w1 ⟨rfl, hb1⟩)
    refine bodyPost_ret (results_none rfl _ _ _) rfl ?_
    exact ⟨⟨_, rfl⟩, BiaTo.same H.out hb1⟩
  obtain ⟨k, hk⟩ := Int.eq_ofNat_of_zero_le (a := x - f) (by omega)
  rw [hk]
  have hkn : k < n := by omega
  have i0 : IntKind.i64.wrap x = x := IntWalk.i64_in _ (by omega)
  have i1 : IntKind.i64.wrap (x - f) = (k : Int) := by rw [hk]; exact IntWalk.i64_in _ (by omega)
  have i2 : IntKind.i32.wrap (k : Int) = (k : Int) := IntWalk.i32_in _ (by omega)
  have HKK := Lib.hid hk; clear hk
  go_enter Try.func109, Try.ntmps109
  go_wp2_with (go_at_call 115; refine (bcap0 H.out hn f0 f1).mono ?_; rintro e w1 ⟨rfl, hb1⟩)
  have d0 := hb1.cell c0
  have d1 := hb1.cell c1
  clear c0 c1
  have H1 := Lib.hid (H.out.bel hb1)
  have HS := Lib.hid (fun w2 (hs : MapTo w1.drew w2 base n g gs vd (outE d k)) => (⟨H1.out.hb.kept (BiaTo.of H1.out (Bel.refl w1).drew hs).choose_spec.choose_spec.2.1 H1.out.far, BiaTo.of H.out hb1.drew hs⟩ : Blk w2 gb 138 [mptr g, .int .i64 f] ∧ BiaTo w w2 base n g gs gb f vd (outE d k)))
  go_region_held3 (fun w' => w'.cell? ⟨gb, 0, none⟩ = some (mptr g) ∧ w'.cell? ⟨gb, 1, none⟩ = some (.int .i64 f)) (first | exact k2 | go_keep)
    (first | (go_at_call 92; refine (mremove_any (H1.out.hm.bel (Bel.refl w1).drew) hn k hkn).mono ?_; rintro e w2 ⟨⟨u, rfl⟩, hs⟩; have HR := Lib.hid (HS.out w2 hs); clear hs; have k2 := And.intro (HR.out.1.cell 0) (HR.out.1.cell 1)))
  go_wp2
  go_end0
  exact ⟨⟨_, rfl⟩, HR.out.2⟩
theorem bRemove_any {w : World} {base n g gs gb : Nat} {f : Int} {vd : Value} {d : List Pl.Ent} {sp : List Int} (h : BiaW w base n g gs gb f vd d sp) (hn : n ≤ 1000000) (f0 : 0 ≤ f) (f1 : f ≤ 1073741824) {x : Int} (hx : KeyIn x) :
    Calls Try.prog 72 #[mptr gb, .int .u64 x] w fun e w' => (∃ v, e = .returned v) ∧ BiaTo w w' base n g gs gb f vd (outE d (x - f)) := by
  have H := Lib.hid (bremove0 h hn f0 f1 hx)
  clear h
  go_enter Try.func72, Try.ntmps72
  go_wp2_with (go_at_call 109; refine H.out.mono ?_; rintro e w' ⟨⟨u, rfl⟩, hs⟩)
  go_end0
  exact ⟨⟨_, rfl⟩, hs⟩

theorem bclear0 {w : World} {base n g gs gb : Nat} {f : Int} {vd : Value} {d : List Pl.Ent} {sp : List Int} (h : BiaW w base n g gs gb f vd d sp) :
    Calls Try.prog 113 #[mptr gb] w fun e w' => (∃ v, e = .returned v) ∧ BiaTo w w' base n g gs gb f vd [] := by
  have H := Lib.hid h
  have c0 : w.cell? ⟨gb, 0, none⟩ = some (mptr g) := h.hb.cell 0
  clear h
  go_enter Try.func113, Try.ntmps113
  go_wp2_with (go_at_call 96; refine (mclear0 H.out.hm).mono ?_; rintro e w2 ⟨⟨u, rfl⟩, hs⟩)
  go_end0
  exact ⟨⟨_, rfl⟩, BiaTo.of H.out (Bel.refl w) hs⟩
theorem bClear_any {w : World} {base n g gs gb : Nat} {f : Int} {vd : Value} {d : List Pl.Ent} {sp : List Int} (h : BiaW w base n g gs gb f vd d sp) :
    Calls Try.prog 76 #[mptr gb] w fun e w' => (∃ v, e = .returned v) ∧ BiaTo w w' base n g gs gb f vd [] := by
  have H := Lib.hid (bclear0 h)
  clear h
  go_enter Try.func76, Try.ntmps76
  go_wp2_with (go_at_call 113; refine H.out.mono ?_; rintro e w' ⟨⟨u, rfl⟩, hs⟩)
  go_end0
  exact ⟨⟨_, rfl⟩, hs⟩

set_option maxHeartbeats 1000000 in
theorem bentry0 {w : World} {base n g gs gb : Nat} {f : Int} {vd : Value} {d : List Pl.Ent} {sp : List Int} (h : BiaW w base n g gs gb f vd d sp) (hn : n ≤ 1000000) (f0 : 0 ≤ f) (f1 : f ≤ 1073741824) {i : Nat} {e : Pl.Ent} (he : d[i]? = some e) :
    Calls Try.prog 114 #[mptr gb, .int .i64 i] w fun e' w' => e' = .returned (.tuple #[.int .u64 (e.1 + f), .int .i32 e.2]) ∧ Bel w w' := by
  have H := Lib.hid h
  have HCO := Lib.hid (mcontents_any h.hm)
  obtain ⟨k0, k1⟩ := h.hm.keys e (List.mem_of_getElem? he)
  have hil : i < d.length := (List.getElem?_eq_some_iff.1 he).1
  have hle := h.hm.hi.le
  have c0 : w.cell? ⟨gb, 0, none⟩ = some (mptr g) := h.hb.cell 0
  have c1 : w.cell? ⟨gb, 1, none⟩ = some (.int .i64 f) := h.hb.cell 1
  obtain ⟨a, c, rfl, hlc, hcm, hcell⟩ := own_form h.hm.hd
  obtain ⟨gd, rfl, hgd⟩ := hcell (by omega)
  have c2 := hgd _ _ (mapCells_at he).1
  have c3 := hgd _ _ (mapCells_at he).2
  clear hcell hgd h he
  obtain ⟨ek, ev⟩ := e
  simp only at k0 k1 c2 c3 ⊢
  have i1 : IntKind.i64.wrap (ek + f) = ek + f := IntWalk.i64_in _ (by omega)
  have i2 : IntKind.i64.wrap ek = ek := IntWalk.i64_in _ (by omega)
  have i3 : IntKind.u64.wrap (ek + f) = ek + f := IntWalk.u64_in _ (by omega)
  go_enter Try.func114, Try.ntmps114
  go_wp2_with (go_at_call 97; refine HCO.out.mono ?_; rintro e w' ⟨rfl, rfl⟩)
  have hb1 := (Bel.refl w).alloc (.cells #[.int .i32 ek, .int .i32 ev] 128)
  have hB1 := Blk.new w 128 [.int .i32 ek, .int .i32 ev]
  change Blk (w.alloc (.cells #[.int .i32 ek, .int .i32 ev] 128)) _ _ _ at hB1
  generalize w.alloc (.cells #[.int .i32 ek, .int .i32 ev] 128) = w1 at hb1 hB1 ⊢
  have d1 := hb1.cell c1
  have d2 : w1.cell? ⟨w.heap.size, 0, none⟩ = some (.int .i32 ek) := hB1.cell 0
  have d3 : w1.cell? ⟨w.heap.size, 1, none⟩ = some (.int .i32 ev) := hB1.cell 1
  clear hB1 c0 c1 c2 c3
  go_region
  go_wp2
  go_ret2
  exact ⟨rfl, hb1.drew⟩
theorem bEntry_any {w : World} {base n g gs gb : Nat} {f : Int} {vd : Value} {d : List Pl.Ent} {sp : List Int} (h : BiaW w base n g gs gb f vd d sp) (hn : n ≤ 1000000) (f0 : 0 ≤ f) (f1 : f ≤ 1073741824) {i : Nat} {e : Pl.Ent} (he : d[i]? = some e) :
    Calls Try.prog 77 #[mptr gb, .int .i64 i] w fun e' w' => e' = .returned (.tuple #[.int .u64 (e.1 + f), .int .i32 e.2]) ∧ Bel w w' := by
  have H := Lib.hid (bentry0 h hn f0 f1 he)
  clear h he
  go_enter Try.func77, Try.ntmps77
  go_wp2_with (go_at_call 114; refine H.out.mono ?_; rintro e w' ⟨rfl, hs⟩)
  go_ret2
  exact ⟨rfl, hs⟩

theorem bnew0 (f : Int) (n : Nat) (w : World) (hn : n ≤ 1000000) (hn0 : 0 < n) (f0 : 0 ≤ f) (f1 : f ≤ 1073741824) :
    Calls Try.prog 70 #[.int .i64 f, .int .i64 (f + n - 1)] w fun e w' => ∃ g gs gb, e = .returned (mptr gb) ∧ BiaW w' w.heap.size n g gs gb f (.slice none 0 0) [] (List.replicate n 0) ∧ Bel w w' := by
  have H := Lib.hid (mnew1 n w hn)
  have e1 : (1 : Int) + (f + (n : Int) - 1) - f = n := by omega
  have e2 : ¬ (f + (n : Int) - 1 < f) := by omega
  generalize hl : f + (n : Int) - 1 = l at e1 e2 ⊢
  have hl0 : f ≤ l := by omega
  have hl1 : l ≤ 1074741824 := by omega
  clear hl
  go_enter Try.func70, Try.ntmps70
  go_wp2_with (go_at_call 48; refine H.out.mono ?_; rintro e w' ⟨g, gs, rfl, hs, hb⟩)
  go_ret
  refine ⟨g, gs, w'.heap.size, rfl, ⟨Blk.new w' _ [_, _], hs.bel ((Bel.refl _).alloc _), hb.size⟩, hb.alloc _⟩
theorem bnew_any (f : Int) (n : Nat) (w : World) (hn : n ≤ 1000000) (hn0 : 0 < n) (f0 : 0 ≤ f) (f1 : f ≤ 1073741824) :
    Calls Try.prog 41 #[.int .i64 f, .int .i64 (f + n - 1)] w fun e w' => ∃ g gs gb, e = .returned (mptr gb) ∧ BiaW w' w.heap.size n g gs gb f (.slice none 0 0) [] (List.replicate n 0) ∧ Bel w w' := by
  have H := Lib.hid (bnew0 f n w hn hn0 f0 f1)
  go_enter Try.func41, Try.ntmps41
  go_wp2_with (go_at_call 70; refine H.out.mono ?_; rintro e w' ⟨g, gs, gb, rfl, hs, hb⟩)
  go_ret
  exact ⟨g, gs, gb, rfl, hs, hb⟩
end Go.Proofs.Ytdmjcgipfkhibaa
