/- impl.Numbers: the texts of the line and of the column of a compact position. -/
import Derived.Test.YtbekmpmfkblgnaaDoorNumUN
import Derived.Test.YtbekmpmfkblgnaaDoorDec
import Derived.Test.YtbekmpmfkblgnaaDoorPosB
import Derived.BigQuiet
namespace Go.Proofs.YtbekmpmfkblgnaaDoor
open Go.RowKit Go.BigFrame Go.Lib

theorem xknown_any (k x : Int) (hk : k ≠ 0) (w : World) :
    Calls Tryd.prog 14 #[.agg #[.int .i32 k, .int .u32 x]] w fun e w' => e = .returned (.bool true) ∧ Bel w w' := by
  have hk2 : (k != 0) = true := by simp [hk]
  go_enter Tryd.func14, Tryd.ntmps14
  go_wp2
  go_ret
  exact ⟨rfl, (Bel.refl w).alloc _⟩
theorem licoNum_any (l c : Nat) (h1 : 1 ≤ l) (hl : l ≤ 1000000) (hc : c ≤ 250) (w : World) (htab : Lib.TabIs Tryd.prog w powName .u64 Lib.pow10Tab) :
    Calls Tryd.prog 15 #[.int .u32 ((l : Int) * 4096 + (c : Int) * 16)] w fun e w' => e = .returned (.string ⟨(Lib.decDigits l).toArray⟩) ∧ Bel w w' := by
  have e1 : ((l : Int) * 4096 + (c : Int) * 16) / 4096 = (l : Int) := by omega
  have HL := Lib.hid (line_any ((l : Int) * 4096 + (c : Int) * 16) w (by omega) (by omega))
  rw [e1] at HL
  have HF := Lib.hid (fmtUint_any l h1 (by omega) w htab)
  clear e1
  go_enter Tryd.func15, Tryd.ntmps15
  go_wp2_with (first
    | (go_at_call 20; refine HL.out.mono ?_; rintro e w' ⟨rfl, rfl⟩)
    | (go_at_call 16; refine HF.out.mono ?_; rintro e w' ⟨rfl, hb⟩))
  go_ret
  exact ⟨rfl, hb⟩

set_option maxRecDepth 100000 in
theorem xline_any (k : Int) (hk : k ≠ 0) (l c : Nat) (h1 : 1 ≤ l) (hl : l ≤ 1000000) (hc : c ≤ 250) (w : World) (htab : Lib.TabIs Tryd.prog w powName .u64 Lib.pow10Tab) :
    Calls Tryd.prog 9 #[.agg #[.int .i32 k, .int .u32 ((l : Int) * 4096 + (c : Int) * 16)]] w fun e w' => e = .returned (.string ⟨(Lib.decDigits l).toArray⟩) ∧ Bel w w' := by
  have HB : Hid (Blk (w.alloc (.cells #[.int .i32 k, .int .u32 ((l : Int) * 4096 + (c : Int) * 16)] 32)) w.heap.size 32 [.int .i32 k, .int .u32 ((l : Int) * 4096 + (c : Int) * 16)] ∧ Bel w (w.alloc (.cells #[.int .i32 k, .int .u32 ((l : Int) * 4096 + (c : Int) * 16)] 32))) := Lib.hid ⟨Blk.new w _ [_, _], (Bel.refl w).alloc _⟩
  go_enter Tryd.func9, Tryd.ntmps9
  go_wp2_with fail
  generalize w.alloc (.cells #[.int .i32 k, .int .u32 ((l : Int) * 4096 + (c : Int) * 16)] 32) = w0 at HB ⊢
  refine (xknown_any k _ hk w0).mono ?_
  rintro e w1 ⟨rfl, hb1⟩
  have c1 : w1.cell? ⟨w.heap.size, 1, none⟩ = some (.int .u32 ((l : Int) * 4096 + (c : Int) * 16)) := (HB.out.1.bel hb1).cell 1
  have HB1 := Lib.hid (HB.out.2.trans hb1)
  clear hb1 HB
  have HT := Lib.hid (tab_bel htab HB1.out)
  go_wp2_with fail
  refine (licoNum_any l c h1 hl hc w1 HT.out).mono ?_
  rintro e w2 ⟨rfl, hb2⟩
  have HB2 := Lib.hid (HB1.out.trans hb2)
  clear hb2 HB1 HT c1
  go_wp2
  go_ret
  exact ⟨rfl, HB2.out⟩

set_option maxRecDepth 100000 in
theorem xcol_any (k : Int) (hk : k ≠ 0) (l c : Nat) (hl : l ≤ 1000000) (h1 : 1 ≤ c) (hc : c ≤ 250) (w : World) (htab : Lib.TabIs Tryd.prog w powName .u64 Lib.pow10Tab) :
    Calls Tryd.prog 10 #[.agg #[.int .i32 k, .int .u32 ((l : Int) * 4096 + (c : Int) * 16)]] w fun e w' => e = .returned (.string ⟨(Lib.decDigits c).toArray⟩) ∧ Bel w w' := by
  have HB : Hid (Blk (w.alloc (.cells #[.int .i32 k, .int .u32 ((l : Int) * 4096 + (c : Int) * 16)] 32)) w.heap.size 32 [.int .i32 k, .int .u32 ((l : Int) * 4096 + (c : Int) * 16)] ∧ Bel w (w.alloc (.cells #[.int .i32 k, .int .u32 ((l : Int) * 4096 + (c : Int) * 16)] 32))) := Lib.hid ⟨Blk.new w _ [_, _], (Bel.refl w).alloc _⟩
  go_enter Tryd.func10, Tryd.ntmps10
  go_wp2_with fail
  generalize w.alloc (.cells #[.int .i32 k, .int .u32 ((l : Int) * 4096 + (c : Int) * 16)] 32) = w0 at HB ⊢
  refine (xknown_any k _ hk w0).mono ?_
  rintro e w1 ⟨rfl, hb1⟩
  have c1 : w1.cell? ⟨w.heap.size, 1, none⟩ = some (.int .u32 ((l : Int) * 4096 + (c : Int) * 16)) := (HB.out.1.bel hb1).cell 1
  have HB1 := Lib.hid (HB.out.2.trans hb1)
  clear hb1 HB
  have HT := Lib.hid (tab_bel htab HB1.out)
  have e1 : ((l : Int) * 4096 + (c : Int) * 16) / 16 % 256 = (c : Int) := by omega
  have HC := Lib.hid (col_any ((l : Int) * 4096 + (c : Int) * 16) w1 (by omega) (by omega))
  rw [e1] at HC
  have HF := Lib.hid (fmtUint_any c h1 (by omega) w1 HT.out)
  clear e1 HT
  go_wp2_with (go_at_call 17; refine HC.out.mono ?_; rintro e w' ⟨rfl, rfl⟩)
  refine HF.out.mono ?_
  rintro e w2 ⟨rfl, hb2⟩
  have HB2 := Lib.hid (HB1.out.trans hb2)
  clear hb2 HB1 c1 HC HF
  go_wp2
  go_ret
  exact ⟨rfl, HB2.out⟩

theorem strs_one (w : World) (H : Nat) (hH : w.heap.size = H) : Strs (w.alloc (.cells #[.string ⟨#[97]⟩] 9)) (some ⟨H, 0, none⟩) 1 [⟨#[97]⟩] := by
  subst hH
  refine ⟨rfl, fun _ => ⟨w.heap.size, 0, rfl, fun i s hs => ?_⟩⟩
  have hb := Blk.new w 9 [.string ⟨#[97]⟩]
  rw [Nat.zero_add]
  refine (hb.cell i).trans ?_
  match i, hs with
  | 0, hs => simp at hs; subst hs; rfl

set_option maxRecDepth 100000 in
set_option maxHeartbeats 1000000 in
theorem numbers_any (l c : Nat) (h1 : 1 ≤ l) (hl : l ≤ 1000000) (h2 : 1 ≤ c) (hc : c ≤ 250) (w : World) (htab : Lib.TabIs Tryd.prog w powName .u64 Lib.pow10Tab) :
    Calls Tryd.prog 5 #[.int .i64 l, .int .i64 c] w fun e w' => e = .returned (.tuple #[.string ⟨(Lib.decDigits l).toArray⟩, .string ⟨(Lib.decDigits c).toArray⟩]) ∧ Bel w w' := by
  have HT := Lib.hid htab; clear htab
  have HS := Lib.hid (strs_one w w.heap.size rfl)
  have hba : Bel w (w.alloc (.cells #[.string ⟨#[97]⟩] 9)) := (Bel.refl w).alloc _
  have HBA := Lib.hid hba; clear hba
  go_enter Tryd.func5, Tryd.ntmps5
  go_wp2_with fail
  refine (newFiles_any _ 1 _ [⟨#[97]⟩] _ HS.out (by omega)).mono ?_
  rintro e w1 ⟨f, gs, rfl, hnf, hb1⟩
  obtain ⟨hF, hge⟩ := hnf.files (by decide) (by decide)
  have hgl : gs.length = 1 := by obtain ⟨v, h, _⟩ := hF; exact h.2.1.1
  have hat := at_files f gs _ _ _ 0 l c w1 hF (by omega) (by omega) (by omega) (by omega) (by omega)
  rw [show idx [] 0 = 1 from rfl] at hat
  have HAT := Lib.hid hat; clear hat
  have HB1 := Lib.hid (HBA.out.trans hb1)
  have HGE := Lib.hid hge
  have hsz0 := HBA.out.size
  clear hnf hb1 hF hge HS
  go_wp2_with fail
  refine HAT.out.mono ?_
  rintro e w2 ⟨S', rfl, _, _, hk2, _⟩
  have hb2 : Bel w w2 := HB1.out.kept hk2 (fun i hi => by
    rw [List.append_nil] at hi
    have := HGE.out i hi
    omega)
  have HB3 : Hid (Blk (w2.alloc (.cells #[.int .i32 1, .int .u32 ((l : Int) * 4096 + (c : Int) * 16)] 32)) w2.heap.size 32 [.int .i32 1, .int .u32 ((l : Int) * 4096 + (c : Int) * 16)] ∧ Bel w (w2.alloc (.cells #[.int .i32 1, .int .u32 ((l : Int) * 4096 + (c : Int) * 16)] 32))) := Lib.hid ⟨Blk.new w2 _ [_, _], hb2.alloc _⟩
  clear hk2 hb2 HAT HB1 HGE hsz0
  go_upto_region 2 with (fail)
  generalize (w2.alloc (.cells #[.int .i32 1, .int .u32 ((l : Int) * 4096 + (c : Int) * 16)] 32)) = w3 at HB3 ⊢
  have c0 : w3.cell? ⟨w2.heap.size, 0, none⟩ = some (.int .i32 1) := HB3.out.1.cell 0
  have c1 : w3.cell? ⟨w2.heap.size, 1, none⟩ = some (.int .u32 ((l : Int) * 4096 + (c : Int) * 16)) := HB3.out.1.cell 1
  have HXL := Lib.hid (fun (W : World) (hb : Bel w3 W) => xline_any 1 (by decide) l c h1 hl hc W (tab_bel HT.out (HB3.out.2.trans hb)))
  have HXC := Lib.hid (fun (W : World) (hb : Bel w3 W) => xcol_any 1 (by decide) l c hl h2 hc W (tab_bel HT.out (HB3.out.2.trans hb)))
  obtain ⟨c0, c1⟩ := And.intro (Later.cell c0) (Later.cell c1)
  refine region_later (by kernel_rfl) (by kernel_rfl) ?_
  repeat (go_big_quiet_step (first | (go_at_call 9; exact call_later _ (HXL.out _ (Later.bel _))) | (go_at_call 10; exact call_later _ (HXC.out _ (Later.bel _)))))
  refine wpQuiet_nil ?_
  intro _ hw'
  obtain ⟨z, hz⟩ := hw'
  subst hz
  have HBZ := Lib.hid (HB3.out.2.trans z.bel)
  clear c0 c1 HXL HXC
  go_wp2
  refine bodyPost_ret (results_tmp2 rfl _ _ _) rfl ?_
  exact ⟨rfl, HBZ.out⟩
end Go.Proofs.YtbekmpmfkblgnaaDoor
