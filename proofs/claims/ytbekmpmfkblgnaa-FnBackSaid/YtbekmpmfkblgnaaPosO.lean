/- impl.Changed: a position behind some changes. -/
import Derived.Test.YtbekmpmfkblgnaaPosN
namespace Go.Proofs.Ytbekmpmfkblgnaa
open Go.RowKit Go.BigFrame

/-- The number behind the first k changes. -/
def chgs (x : Int) (cs : List Pl.Ent) (k : Nat) : Int := (cs.take k).foldl (fun x c => chg x c.1 c.2) x
theorem chgs_zero (x : Int) (cs : List Pl.Ent) : chgs x cs 0 = x := by simp [chgs]
theorem chgs_succ (x : Int) (cs : List Pl.Ent) (k : Nat) (c : Pl.Ent) (h : cs[k]? = some c) : chgs x cs (k + 1) = chg (chgs x cs k) c.1 c.2 := by
  unfold chgs; rw [List.take_add_one, h]; simp
def chgOk (cs : List Pl.Ent) : Prop := ∀ c ∈ cs, 0 ≤ c.2 ∧ c.2 ≤ 2
theorem chgs_line (x : Int) (cs : List Pl.Ent) (h0 : 4096 ≤ x) (hc : chgOk cs) : ∀ k, k ≤ cs.length → chgs x cs k / 4096 = x / 4096 ∧ 4096 ≤ chgs x cs k
  | 0, _ => by rw [chgs_zero]; exact ⟨rfl, h0⟩
  | k + 1, hk => by
    have hk' : k < cs.length := by omega
    obtain ⟨h1, h2⟩ := chgs_line x cs h0 hc k (by omega)
    have hm := hc cs[k] (List.getElem_mem _)
    rw [chgs_succ x cs k cs[k] (List.getElem?_eq_getElem hk')]
    obtain ⟨a, b⟩ := chg_line (chgs x cs k) cs[k].1 cs[k].2 h2 hm.1 hm.2
    exact ⟨a.trans h1, b⟩
/-- The cells of the place that a number tells. -/
def plCells (x : Int) : List Value := [.int .i64 0, .int .i64 (x / 4096), .int .i64 (x / 16 % 256), .int .i64 (x % 4), .int .i64 (x / 4 % 4)]
def plTo (x : Int) (cs : List Pl.Ent) : Nat → List Value
  | 0 => plCells x
  | k + 1 => plTo x cs k ++ plCells (chgs x cs (k + 1))
theorem plTo_length (x : Int) (cs : List Pl.Ent) : ∀ k, (plTo x cs k).length = (k + 1) * 5
  | 0 => rfl
  | k + 1 => by simp [plTo, plTo_length x cs k, plCells]; omega

theorem el40 : ElTy 40 23 5 40 := ElTy.mk' (z := .agg #[.int .i64 0, .int .i64 0, .int .i64 0, .int .i64 0, .int .i64 0]) Try.underlying40 (by kernel_rfl) rfl (by decide)

def one : List ByteArray := [⟨#[97]⟩]
theorem strs_one (w : World) (H : Nat) (hH : w.heap.size = H) : Strs (w.alloc (.cells #[.string ⟨#[97]⟩] 9)) (some ⟨H, 0, none⟩) 1 one := by
  subst hH
  refine ⟨rfl, fun _ => ⟨w.heap.size, 0, rfl, fun i s hs => ?_⟩⟩
  have hb := Blk.new w 9 [.string ⟨#[97]⟩]
  rw [Nat.zero_add]
  refine (hb.cell i).trans ?_
  match i, hs with
  | 0, hs => simp [one] at hs; subst hs; rfl

theorem idx_first : idx [] 0 = 1 := rfl

/-- A slice of one element that has just been laid. -/
theorem owns_one (w : World) (base : Nat) (e : TypeId) (cs : List Value) (H : Nat) (hH : w.heap.size = H) (hb : base ≤ H) : (w.alloc (.cells cs.toArray e)).ownsRow base e cs.length (.slice (some ⟨H, 0, none⟩) 1 1) 1 cs := by
  subst hH
  exact ⟨by simp, .inr ⟨w.heap.size, 1, cs.toArray, rfl, hb, heap_alloc_new w _, Nat.le_refl _, by simp [maxLen], by simp, by simp⟩⟩

set_option maxRecDepth 100000 in
set_option maxHeartbeats 4000000 in
theorem changedAll_any (l c : Int) (a : Option Addr) (n cap : Nat) (cs : List Pl.Ent) (w : World) (h : Ents w a n cs) (hn : n ≤ 50) (hc : chgOk cs) (h0 : 1 ≤ l) (h1 : l ≤ 1000000) (h2 : 1 ≤ c) (h3 : c ≤ 250) :
    Calls Try.prog 29 #[.int .i64 l, .int .i64 c, .slice a n cap] w fun e w' => ∃ v, e = .returned v ∧ w'.ownsRow w.heap.size 23 5 v (n + 1) (plTo (l * 4096 + c * 16) cs n) ∧ Bel w w' := by
  have HH := Lib.hid h; clear h
  have HC := Lib.hid hc; clear hc
  go_enter Try.func29, Try.ntmps29
  go_wp2_with fail
  refine (newFiles_any _ 1 _ one _ (strs_one _ _ rfl) (by omega)).mono ?_
  rintro e w1 ⟨f, gs, rfl, hnf, hb1⟩
  obtain ⟨hF, hge⟩ := hnf.files (by decide) (by decide)
  have hgl : gs.length = 1 := by obtain ⟨v, h, _⟩ := hF; exact h.2.1.1
  have hbw : Bel w w1 := ((Bel.refl w).alloc _).trans hb1
  have HF := Lib.hid hF; clear hF
  clear hnf hb1
  have HGE := Lib.hid hge; clear hge
  have HGL := Lib.hid hgl; clear hgl
  go_wp2_with fail
  refine (at_files f gs one [] [] 0 l c _ HF.out (by rw [HGL.out]; omega) (by omega) (by omega) (by omega) (by omega)).mono ?_
  rintro e w2 ⟨S2, rfl, _, _, hk2, _⟩
  rw [idx_first]
  have hbw2 : Bel w w2 := hbw.kept hk2 (fun x hx => by have := HGE.out x (by simpa using hx); simp at this; omega)
  clear hk2 hbw
  have hs2 := hbw2.size
  have hx0 : 4096 ≤ l * 4096 + c * 16 := by omega
  have hx1 : (l * 4096 + c * 16) / 4096 ≤ 1000000 := by omega
  generalize hxe : l * 4096 + c * 16 = x at hx0 hx1 ⊢
  have HXE := Lib.hid hxe; clear hxe
  have HLN := Lib.hid (chgs_line x cs hx0 HC.out)
  have HN := Lib.hid HH.out.1
  clear h0 h1 h2 h3 HF HGE HGL
  go_wp2_with fail
  have hBx := Blk.new w2 77 [.int .i32 1, .int .u32 x]
  have hb2a := hbw2.alloc (.cells #[.int .i32 1, .int .u32 x] 77)
  change Blk (w2.alloc (.cells #[.int .i32 1, .int .u32 x] 77)) _ _ _ at hBx
  generalize w2.alloc (.cells #[.int .i32 1, .int .u32 x] 77) = w2a at hBx hb2a ⊢
  refine (place_tells 1 x 0 _ (by omega) (by omega)).mono ?_
  rintro e w3 ⟨rfl, hb3⟩
  have hB3 := hBx.bel hb3
  have hb03 := hb2a.trans hb3
  have hs3 := hb03.size
  have HR0 : Hid ((w3.alloc (.cells (plCells x).toArray 23)).ownsRow w.heap.size 23 5 (.slice (some ⟨w3.heap.size, 0, none⟩) 1 1) (0 + 1) (plTo x cs 0) ∧ Blk (w3.alloc (.cells (plCells x).toArray 23)) w2.heap.size 77 [.int .i32 1, .int .u32 (chgs x cs 0)] ∧ Bel w (w3.alloc (.cells (plCells x).toArray 23))) :=
    Lib.hid ⟨owns_one w3 _ _ (plCells x) _ rfl hs3, by rw [chgs_zero]; exact hB3.alloc _, hb03.alloc _⟩
  clear hB3 hb03 hBx hb2a hb3 hbw2
  go_wp2
  go_loopw [9, 23] (fun u i wr => ∃ k : Nat, k ≤ n ∧ i = .int .i64 k ∧ wr.ownsRow w.heap.size 23 5 u (k + 1) (plTo x cs k) ∧ Blk wr w2.heap.size 77 [.int .i32 1, .int .u32 (chgs x cs k)] ∧ Bel w wr) (fun _ i _ => n - (intOf i).toNat)
  case atStart => exact ⟨0, Nat.zero_le _, rfl, HR0.out.1, HR0.out.2.1, HR0.out.2.2⟩
  case round =>
    obtain ⟨k, hk, rfl, ho, hB, hbel⟩ := hrel
    have HO := Lib.hid ho; clear ho
    have hbs := hbel.size
    by_cases hlt : k < n
    · obtain ⟨b, o, rfl, hcell⟩ := HH.out.2 (by omega)
      obtain ⟨ch, hch⟩ : ∃ e, cs[k]? = some e := ⟨_, List.getElem?_eq_getElem (by rw [HN.out]; exact hlt)⟩
      have hc0 := hbel.cell (hcell k ch hch).1
      have hc1 := hbel.cell (hcell k ch hch).2
      have HS := Lib.hid (chgs_succ x cs k ch hch)
      obtain ⟨g0, g1⟩ := HC.out ch (List.mem_of_getElem? hch)
      obtain ⟨y0, y1⟩ := HLN.out k (by rw [HN.out]; omega)
      obtain ⟨z0, z1⟩ := HLN.out (k + 1) (by rw [HN.out]; omega)
      rw [HS.out] at z0 z1
      clear hcell hch
      have HB := Lib.hid hB
      have d0 : wr.cell? ⟨w2.heap.size, 0, none⟩ = some (.int .i32 1) := hB.cell 0
      have d1 : wr.cell? ⟨w2.heap.size, 1, none⟩ = some (.int .u32 (chgs x cs k)) := hB.cell 1
      have nb : ¬ w2.heap.size = wr.heap.size := by have := hB.lt; omega
      clear hB
      obtain ⟨ck, cn⟩ := ch
      simp only at hc0 hc1 g0 g1 z0 z1 HS
      have d0a := ((Bel.refl wr).alloc (.cells #[.int .i64 ck, .int .i64 cn] 55)).cell d0
      have d1a := ((Bel.refl wr).alloc (.cells #[.int .i64 ck, .int .i64 cn] 55)).cell d1
      have HCH := Lib.hid (fun W => changed_any 1 (chgs x cs k) ck cn W y1 (by omega) g0 g1)
      generalize hxx : chg (chgs x cs k) ck cn = x' at z0 z1 HCH
      have HXX := Lib.hid hxx; clear hxx
      have zb : x' / 4096 ≤ 1000000 := by omega
      have zc : x' < 4294967296 := by omega
      clear y0 z0
      go_wp2_with fail
      refine (HCH.out _).mono ?_
      rintro e w4 ⟨rfl, hb4⟩
      have hb4' : Bel wr w4 := ((Bel.refl wr).alloc _).trans hb4
      have hB4 := HB.out.bel hb4'
      have f0 : w4.cell? ⟨w2.heap.size, 0, none⟩ = some (.int .i32 1) := hB4.cell 0
      have f1 : w4.cell? ⟨w2.heap.size, 1, none⟩ = some (.int .u32 (chgs x cs k)) := hB4.cell 1
      have f2 := hB4.frozen 0
      have f3 := hB4.frozen 1
      have hO4 := own_bel HO.out hb4'
      have HBO := Lib.hid (And.intro hB4 (And.intro hO4 (hbel.trans hb4')))
      clear d0 d1 d0a d1a nb hb4 hb4' hB4 hO4 HB HO
      go_wp2_with fail
      have hB5 : Blk ((w4.setCell ⟨w2.heap.size, 0, none⟩ (.int .i32 1)).setCell ⟨w2.heap.size, 1, none⟩ (.int .u32 x')) w2.heap.size 77 [.int .i32 1, .int .u32 x'] := (HBO.out.1.set 0 (.int .i32 1)).set 1 (.int .u32 x')
      have hO5 := ownsRow_setCell_other (ownsRow_setCell_other HBO.out.2.1 (a := ⟨w2.heap.size, 0, none⟩) (own_ne HBO.out.2.1 HBO.out.1 (by decide)) (.int .i32 1)) (a := ⟨w2.heap.size, 1, none⟩) (own_ne HBO.out.2.1 HBO.out.1 (by decide)) (.int .u32 x')
      have hb5 : Bel w ((w4.setCell ⟨w2.heap.size, 0, none⟩ (.int .i32 1)).setCell ⟨w2.heap.size, 1, none⟩ (.int .u32 x')) := ((Kept.of_bel (S := []) (((Kept.of_bel (S := []) HBO.out.2.2).setCell (p := ⟨w2.heap.size, 0, none⟩) (.inr hs2) (.int .i32 1)).bel)).setCell (p := ⟨w2.heap.size, 1, none⟩) (.inr hs2) (.int .u32 x')).bel
      generalize (w4.setCell ⟨w2.heap.size, 0, none⟩ (.int .i32 1)).setCell ⟨w2.heap.size, 1, none⟩ (.int .u32 x') = w5 at hB5 hO5 hb5 ⊢
      clear f0 f1 f2 f3 HBO
      refine (place_tells 1 x' 0 _ (by omega) zc).mono ?_
      rintro e w6 ⟨rfl, hb6⟩
      have HO6 := Lib.hid (own_bel hO5 hb6)
      have hB6 := hB5.bel hb6
      have hb06 := hb5.trans hb6
      have hs6 := hb06.size
      clear hO5 hB5 hb5 hb6
      go_wp2_with (at_builtin; refine wpList_push el40 rfl (.tmp 30) (.tmp 33) rfl w.heap.size u9 (k + 1) _ rfl HO6.out [.int .i64 0, .int .i64 (x' / 4096), .int .i64 (x' / 16 % 256), .int .i64 (x' % 4), .int .i64 (x' / 4 % 4)] w6.heap.size rfl rfl rfl (by simp [Value.oneCell']) (by omega) (by omega) hs6 ?_)
      intro u1 w7 ho7 hg7 _
      have hb7 : Bel w w7 := hb06.grown hg7 (fun k hk => (HO6.out.lt k hk).1)
      have hB7 : Blk w7 w2.heap.size 77 [.int .i32 1, .int .u32 (chgs x cs (k + 1))] := by rw [HS.out, HXX.out]; exact hB6.grown hg7 (fun e => own_ne HO6.out hB6 (by decide) e.symm)
      have HO7 : Hid (w7.ownsRow w.heap.size 23 5 u1 (k + 1 + 1) (plTo x cs (k + 1))) := Lib.hid (by show w7.ownsRow _ _ _ _ _ (plTo x cs k ++ plCells (chgs x cs (k + 1))); rw [HS.out, HXX.out]; exact ho7)
      have HB7 := Lib.hid hB7
      clear ho7 hg7 hB6 hB7
      go_wp2
      go_roundw
      case rel => exact ⟨k + 1, by omega, by go_num, HO7.out, HB7.out, hb7⟩
      case measure => simp [intOf]; omega
    · go_wp2
      go_ret
      obtain rfl : k = n := by omega
      exact ⟨_, rfl, by rw [HXE.out]; exact HO.out, hbel⟩
end Go.Proofs.Ytbekmpmfkblgnaa
