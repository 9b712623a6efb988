/- The walk of FnBiased. -/
import Derived.Test.YtdmjcgipfkhibaaBia5
import Derived.Test.YtdmjcgipfkhibaaMapL2
namespace Go.Proofs.Ytdmjcgipfkhibaa
open Go.RowKit

set_option maxHeartbeats 2000000 in
theorem law_FnBiased (w : World) (f : Int) (_lo : -9223372036854775808 ≤ f) (_hi : f ≤ 9223372036854775807) (l : Int) (_lo' : -9223372036854775808 ≤ l) (_hi' : l ≤ 9223372036854775807) (v : Value) (S : List Pl.StepD) (h : StepS w v S) :
    Calls Try.prog 8 #[.int .i64 f, .int .i64 l, v] w fun e w' => e = .returned (.bool true) ∧ Bel w w' := by
  have HH := Lib.hid h; clear h
  go_enter Try.func8, Try.ntmps8
  go_wp2_with fail
  refine (zzFits1_any v S w HH.out).mono ?_
  rintro e w1 ⟨b1, rfl, _, hb1⟩
  cases b1
  · go_wp2
    go_ret
    exact ⟨rfl, hb1⟩
  go_wp2_with fail
  refine (between_any f l v S w1 (HH.out.bel hb1)).mono ?_
  rintro e w2 ⟨b2, rfl, hQ, hb2⟩
  cases b2
  · clear hQ
    go_wp2
    go_ret
    exact ⟨rfl, hb1.trans hb2⟩
  obtain ⟨f0, fl, l1, n1, sl, st⟩ := hQ rfl
  clear hQ
  have HST := Lib.hid st; clear st
  have hb12 := hb1.trans hb2
  clear hb1 hb2
  go_wp2_with fail
  refine (ofBiased_any f l w2 (by omega) (by omega)).mono ?_
  rintro e w3 ⟨rfl, hb3⟩
  have hb13 := hb12.trans hb3
  clear hb12 hb3
  obtain ⟨n, hn⟩ := Int.eq_ofNat_of_zero_le (a := l - f + 1) (by omega)
  have hl : f + (n : Int) - 1 = l := by omega
  have HBC := Lib.hid (bia_any f n S v w3 (by omega) (by omega) f0 (by omega) (HH.out.bel hb13) (by omega) HST.out)
  rw [hl] at HBC
  clear hn hl
  go_wp2_with fail
  refine HBC.out.mono ?_
  rintro e w4 ⟨u4, rfl, hA4, hb4⟩
  have HA4 := Lib.hid hA4; clear hA4
  have hb14 := hb13.trans hb4
  clear hb13 hb4
  obtain ⟨l', hf⟩ := map_follows (r := Pl.ofBiased f l) rfl S [] [] Pl.Rep.nil
  have HF := Lib.hid hf; clear hf
  have HFC := Lib.hid (follows_right (Pl.ofBiased f l) v u4 S (Pl.mapRun (Pl.ofBiased f l) [] S) l' w4 (HH.out.bel hb14) HA4.out (mapRun_length _ _ _) sl (fun s hs => .inl rfl) (fun g hg => by
    have := mapRun_keys S [] 0 (by simp) g hg
    omega) HF.out)
  go_wp2_with fail
  refine HFC.out.mono ?_
  rintro e w5 ⟨⟨x, rfl⟩, hb5⟩
  go_wp2
  go_ret
  exact ⟨rfl, hb14.trans hb5⟩
end Go.Proofs.Ytdmjcgipfkhibaa
