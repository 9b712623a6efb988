/- The walk of FnMap. -/
import Derived.Test.YtdmjcgipfkhibaaMapL2
namespace Go.Proofs.Ytdmjcgipfkhibaa
open Go.RowKit

set_option maxHeartbeats 2000000 in
theorem law_FnMap (w : World) (n : Int) (_lo : -9223372036854775808 ≤ n) (_hi : n ≤ 9223372036854775807) (v : Value) (S : List Pl.StepD) (h : StepS w v S) :
    Calls Try.prog 3 #[.int .i64 n, v] w fun e w' => e = .returned (.bool true) ∧ Bel w w' := by
  have HH := Lib.hid h; clear h
  go_enter Try.func3, Try.ntmps3
  go_wp2_with fail
  refine (zzFits1_any v S w HH.out).mono ?_
  rintro e w1 ⟨b1, rfl, _, hb1⟩
  cases b1
  · go_wp2
    go_ret
    exact ⟨rfl, hb1⟩
  go_wp2_with fail
  refine (fits_any n v S w1 (HH.out.bel hb1)).mono ?_
  rintro e w2 ⟨b2, rfl, hQ, hb2⟩
  cases b2
  · clear hQ
    go_wp2
    go_ret
    exact ⟨rfl, hb1.trans hb2⟩
  obtain ⟨n1, n2, sl, ll, ft⟩ := hQ rfl
  clear hQ
  have HFT := Lib.hid ft; clear ft
  have HLL := Lib.hid ll; clear ll
  have hb12 := hb1.trans hb2
  clear hb1 hb2
  go_wp2_with fail
  refine (ofMap_any n w2 (by omega) (by omega)).mono ?_
  rintro e w3 ⟨rfl, hb3⟩
  have hb13 := hb12.trans hb3
  clear hb12 hb3
  obtain ⟨k, rfl⟩ := Int.eq_ofNat_of_zero_le (a := n) (by omega)
  go_wp2_with fail
  refine (map_any k S v w3 (by omega) (HH.out.bel hb13) (by omega) (FitQ.stepM HFT.out)).mono ?_
  rintro e w4 ⟨u4, rfl, hA4, hb4⟩
  have HA4 := Lib.hid hA4; clear hA4
  have hb14 := hb13.trans hb4
  clear hb13 hb4
  obtain ⟨l', hf⟩ := map_follows (r := Pl.ofMap k) rfl S [] [] Pl.Rep.nil
  have HF := Lib.hid hf; clear hf
  have HFC := Lib.hid (follows_right (Pl.ofMap k) v u4 S (Pl.mapRun (Pl.ofMap k) [] S) l' w4 (HH.out.bel hb14) HA4.out (mapRun_length _ _ _) sl HLL.out (fun g hg => by
    have := mapRun_keys S [] 0 (by simp) g hg
    omega) HF.out)
  go_wp2_with fail
  refine HFC.out.mono ?_
  rintro e w5 ⟨⟨x, rfl⟩, hb5⟩
  go_wp2
  go_ret
  exact ⟨rfl, hb14.trans hb5⟩
end Go.Proofs.Ytdmjcgipfkhibaa
