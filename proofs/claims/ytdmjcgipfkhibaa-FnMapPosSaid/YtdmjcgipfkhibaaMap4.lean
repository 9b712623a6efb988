/- The walks of new maps, Entries, wide. -/
import Derived.Test.YtdmjcgipfkhibaaMap3
import Derived.Test.YtdmjcgipfkhibaaSet4
namespace Go.Proofs.Ytdmjcgipfkhibaa
open Go.RowKit

theorem el94 : ElTy 94 21 1 4 := ElTy.mk' (z := .int .i32 0) Try.underlying94 (by kernel_rfl) rfl (by decide)
def valCells (d : List Pl.Ent) : List Value := d.map fun e => .int .i32 e.2

set_option maxHeartbeats 400000 in
theorem mnew0 (n : Nat) (w : World) (hn : n ≤ 1000000) :
    Calls Try.prog 90 #[.int .i64 n] w fun e w' => ∃ g gs, e = .returned (mptr g) ∧ MapW w' w.heap.size n g gs (.slice none 0 0) [] (List.replicate n 0) ∧ Bel w w' := by
  obtain ⟨i0, hi, hz0, hz1, hz2⟩ := eli32
  have HI := Lib.hid hi; clear hi
  have HZ0 := Lib.hid hz0; clear hz0
  have HZ1 := Lib.hid hz1; clear hz1
  have HZ2 := Lib.hid hz2; clear hz2
  go_enter Try.func90, Try.ntmps90
  go_wp2_with (refine wpList_make_full _ rfl (.tmp 3) (.tmp 3) 94 rfl w.heap.size 21 i0 (.int .i32 0) 1 Try.underlying94 HI.out HZ0.out HZ1.out .i64 .i64 n n n rfl rfl rfl rfl (by rw [HZ2.out]; omega) (by unfold maxLen; omega) (Nat.le_refl _) ?_)
  intro w1 ho1 hg1
  rw [made_zero32] at ho1
  have hb1 : Bel w w1 := (Bel.refl _).grown hg1 (by simp)
  have hS := blk_of_full ho1
  have hlt := hS.lt
  clear ho1 hg1
  go_wp2
  go_ret
  exact ⟨w1.heap.size, w.heap.size, rfl, ⟨Blk.new w1 _ [_, _], hS.alloc _, World.ownsRow_nil _ _ _ _, Pl.SI.new n, by simp, ⟨by omega, Nat.le_refl _⟩⟩, hb1.alloc _⟩
theorem mnew1 (n : Nat) (w : World) (hn : n ≤ 1000000) :
    Calls Try.prog 48 #[.int .i64 n] w fun e w' => ∃ g gs, e = .returned (mptr g) ∧ MapW w' w.heap.size n g gs (.slice none 0 0) [] (List.replicate n 0) ∧ Bel w w' := by
  have H := Lib.hid (mnew0 n w hn)
  go_enter Try.func48, Try.ntmps48
  go_wp2_with (go_at_call 90; refine H.out.mono ?_; rintro e w' ⟨g, gs, rfl, hs, hb⟩)
  go_ret
  exact ⟨g, gs, rfl, hs, hb⟩
theorem mnew_any (n : Nat) (w : World) (hn : n ≤ 1000000) :
    Calls Try.prog 36 #[.int .i64 n] w fun e w' => ∃ g gs, e = .returned (mptr g) ∧ MapW w' w.heap.size n g gs (.slice none 0 0) [] (List.replicate n 0) ∧ Bel w w' := by
  have H := Lib.hid (mnew1 n w hn)
  go_enter Try.func36, Try.ntmps36
  go_wp2_with (go_at_call 48; refine H.out.mono ?_; rintro e w' ⟨g, gs, rfl, hs, hb⟩)
  go_ret
  exact ⟨g, gs, rfl, hs, hb⟩

theorem valCells_at {d : List Pl.Ent} {j : Nat} {e : Pl.Ent} (h : d[j]? = some e) : (valCells d)[j]? = some (.int .i32 e.2) := by
  unfold valCells; rw [List.getElem?_map, h]; rfl
theorem idCells_snoc {d : List Pl.Ent} {j : Nat} {e : Pl.Ent} (h : d[j]? = some e) : idCells (d.take (j + 1)) = idCells (d.take j) ++ [.int .i32 e.1] := by
  rw [List.take_add_one, h]; simp [idCells]
theorem valCells_snoc {d : List Pl.Ent} {j : Nat} {e : Pl.Ent} (h : d[j]? = some e) : valCells (d.take (j + 1)) = valCells (d.take j) ++ [.int .i32 e.2] := by
  rw [List.take_add_one, h]; simp [valCells]

set_option maxHeartbeats 1000000 in
theorem entries_map {w : World} {base n g gs : Nat} {vd : Value} {d : List Pl.Ent} {sp : List Int} (h : MapW w base n g gs vd d sp) (hn : n ≤ 1000000) :
    Calls Try.prog 55 #[mptr g] w fun e w' => ∃ k v, e = .returned (.tuple #[k, v]) ∧ w'.ownsRow w.heap.size 86 1 k d.length (idCells d) ∧ w'.ownsRow w.heap.size 21 1 v d.length (valCells d) ∧ Bel w w' := by
  have HCO := Lib.hid (mcontents_any h)
  obtain ⟨a, c, rfl, hlc, hcm, hcell⟩ := own_form h.hd
  have hle := h.hi.le
  have HC := Lib.hid hcell; clear hcell h
  go_enter Try.func55, Try.ntmps55
  go_wp2_with fail
  refine HCO.out.mono ?_
  rintro e w' ⟨rfl, rfl⟩
  go_wp2
  go_loopw [2, 3, 9] (fun k v i wr => ∃ j : Nat, j ≤ d.length ∧ i = .int .i64 j ∧ wr.ownsRow w.heap.size 86 1 k j (idCells (d.take j)) ∧ wr.ownsRow w.heap.size 21 1 v j (valCells (d.take j)) ∧ Bel w wr) (fun _ _ i _ => d.length - (intOf i).toNat)
  case atStart => exact ⟨0, Nat.zero_le _, rfl, World.ownsRow_nil _ _ _ _, World.ownsRow_nil _ _ _ _, Bel.refl w⟩
  case round =>
    obtain ⟨j, hj, rfl, hk, hv, hbel⟩ := hrel
    have HKR := Lib.hid hk; clear hk
    have HVR := Lib.hid hv; clear hv
    have hbs := hbel.size
    by_cases hlt : j < d.length
    · obtain ⟨gd, rfl, hgd⟩ := HC.out (by omega)
      obtain ⟨e, he⟩ : ∃ e, d[j]? = some e := ⟨_, List.getElem?_eq_getElem hlt⟩
      have hc0 := hbel.cell (hgd _ _ (mapCells_at he).1)
      have hc1 := hbel.cell (hgd _ _ (mapCells_at he).2)
      have HEK := Lib.hid (idCells_snoc he)
      have HEV := Lib.hid (valCells_snoc he)
      clear hgd he
      go_wp2_with (at_builtin; refine wpList_push el74 rfl (.tmp 13) (.tmp 16) rfl w.heap.size u2 j _ rfl (HKR.out.alloc _) [.int .i32 e.1] (wr.heap.size + 1) (by simp) rfl rfl (by simp [Value.oneCell']) (by omega) (by omega) (by omega) ?_)
      intro k1 w1 ho1 hg1 _
      have hb1 : Bel w w1 := (hbel.alloc _).grown hg1 (fun k hk => (HKR.out.lt k hk).1)
      have hB : Blk w1 wr.heap.size 128 [.int .i32 e.1, .int .i32 e.2] := (Blk.new wr _ [_, _]).grown hg1 (fun hh => own_ne (HKR.out.alloc _) (Blk.new wr 128 [.int .i32 e.1, .int .i32 e.2]) (by decide) hh.symm)
      have hV1 : w1.ownsRow w.heap.size 21 1 u3 j (valCells (d.take j)) := (HVR.out.alloc _).kept hg1 (by cases hv : u3.ownBlock with | none => exact .inl rfl | some q => exact .inr (fun e => own_own_ne HVR.out HKR.out (by decide) q hv e.symm))
      have HK1 : Hid (w1.ownsRow w.heap.size 86 1 k1 (j + 1) (idCells (d.take (j + 1)))) := Lib.hid (by rw [HEK.out]; exact ho1)
      have HV1 := Lib.hid hV1
      have d1 : w1.cell? ⟨wr.heap.size, 1, none⟩ = some (.int .i32 e.2) := hB.cell 1
      have hz1 := hb1.size
      clear ho1 hg1 hV1 hB
      go_wp2_with (at_builtin; refine wpList_push el94 rfl (.tmp 18) (.tmp 21) rfl w.heap.size u3 j _ rfl HV1.out [.int .i32 e.2] w1.heap.size rfl rfl rfl (by simp [Value.oneCell']) (by omega) (by omega) (by omega) ?_)
      intro v2 w2 ho2 hg2 _
      have hb2 : Bel w w2 := hb1.grown hg2 (fun k hk => (HV1.out.lt k hk).1)
      have HK2 : Hid (w2.ownsRow w.heap.size 86 1 k1 (j + 1) (idCells (d.take (j + 1)))) := Lib.hid (HK1.out.kept hg2 (by cases hv : k1.ownBlock with | none => exact .inl rfl | some q => exact .inr (fun e => own_own_ne HK1.out HV1.out (by decide) q hv e.symm)))
      have HV2 : Hid (w2.ownsRow w.heap.size 21 1 v2 (j + 1) (valCells (d.take (j + 1)))) := Lib.hid (by rw [HEV.out]; exact ho2)
      clear ho2 hg2
      go_wp2
      go_roundw
      case rel => exact ⟨j + 1, by omega, by go_num, HK2.out, HV2.out, hb2⟩
      case measure => simp [intOf]; omega
    · go_wp2
      go_ret2
      obtain rfl : j = d.length := by omega
      refine ⟨_, _, rfl, ?_, ?_, hbel⟩
      · have := HKR.out; rwa [List.take_of_length_le (Nat.le_refl _)] at this
      · have := HVR.out; rwa [List.take_of_length_le (Nat.le_refl _)] at this
end Go.Proofs.Ytdmjcgipfkhibaa
