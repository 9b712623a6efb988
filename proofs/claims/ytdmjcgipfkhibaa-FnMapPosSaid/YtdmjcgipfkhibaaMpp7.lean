/- The walk of impl.MapPos. -/
import Derived.Test.YtdmjcgipfkhibaaMpp6
import Derived.Test.YtdmjcgipfkhibaaMap6
namespace Go.Proofs.Ytdmjcgipfkhibaa
open Go.RowKit Go.BigFrame

theorem elLines : ElTy 48 33 1 24 := ElTy.mk' (z := .slice none 0 0) Try.underlying48 (by kernel_rfl) rfl (by decide)

theorem own_stepP {w w' : World} {base n g gs : Nat} {vd : Value} {d : List Pl.Ent} {sp : List Int} (h : PpW w base n g gs vd d sp) (hk : Kept (ppfoot g gs vd) w w') {b : Nat} {e : TypeId} {size m : Nat} {v : Value} {xs : List Value} (ho : w.ownsRow b e size v m xs)
    (h1 : e ≠ 131) (h2 : e ≠ 21) (h3 : e ≠ 136) : w'.ownsRow b e size v m xs := by
  refine own_kept ho hk (fun k hk' hm => ?_)
  unfold ppfoot at hm
  rcases List.mem_cons.1 hm with rfl | hm
  · exact own_ne ho h.hg h1 hk'
  · rcases List.mem_cons.1 hm with rfl | hm
    · exact own_ne ho h.hs h2 hk'
    · have : vd.ownBlock = some k := by cases hv : vd.ownBlock <;> rw [hv] at hm <;> simp at hm; rw [hm]
      exact own_own_ne ho h.hd h3 k hk' this
theorem PpW.grownA {w w' : World} {base n g gs : Nat} {vd : Value} {d : List Pl.Ent} {sp : List Int} (h : PpW w base n g gs vd d sp) {b : Nat} {e : TypeId} {size m : Nat} {u : Value} {xs : List Value} (hu : w.ownsRow b e size u m xs) (hg : w.grownBy w' u.ownBlock)
    (h1 : e ≠ 131) (h2 : e ≠ 21) (h3 : e ≠ 136) : PpW w' base n g gs vd d sp := by
  refine ⟨h.hg.grown hg (fun e => own_ne hu h.hg h1 e.symm), h.hs.grown hg (fun e => own_ne hu h.hs h2 e.symm), ?_, h.hi, h.hz, h.hb⟩
  exact own_far3 h.hd hu (Ne.symm h3) hg

abbrev PosT := AnsT × Value
/-- What is known of the rows: the answers, the lines, and what they lead to. -/
structure PRows (w wr : World) (j : Nat) (u x : Value) (L : List PosT) : Prop where
  own : wr.ownsRow w.heap.size 43 4 u j (ansCells (L.map (·.1)))
  lin : wr.ownsRow w.heap.size 33 1 x j (L.map (·.2))
  ans : ∀ p ∈ L, AnsO wr w.heap.size p.1.2.1 p.1.2.2 p.1.1 ∧ wr.ownsRow w.heap.size 2 1 p.2 p.1.1.vals.length (p.1.1.vals.map (Value.int .i64))
theorem PRows.bel {w wr w' : World} {j : Nat} {u x : Value} {L : List PosT} (h : PRows w wr j u x L) (hb : Bel wr w') : PRows w w' j u x L :=
  ⟨own_bel h.own hb, own_bel h.lin hb, fun p hp => ⟨⟨own_bel (h.ans p hp).1.1 hb, own_bel (h.ans p hp).1.2 hb⟩, own_bel (h.ans p hp).2 hb⟩⟩
theorem PRows.step {w wr w' : World} {j : Nat} {u x : Value} {L : List PosT} (h : PRows w wr j u x L) {base n g gs : Nat} {vd : Value} {d : List Pl.Ent} {sp : List Int} (hp : PpW wr base n g gs vd d sp) (hk : Kept (ppfoot g gs vd) wr w') : PRows w w' j u x L :=
  ⟨own_stepP hp hk h.own (by decide) (by decide) (by decide), own_stepP hp hk h.lin (by decide) (by decide) (by decide), fun p hp' => ⟨⟨own_stepP hp hk (h.ans p hp').1.1 (by decide) (by decide) (by decide), own_stepP hp hk (h.ans p hp').1.2 (by decide) (by decide) (by decide)⟩, own_stepP hp hk (h.ans p hp').2 (by decide) (by decide) (by decide)⟩⟩

/-- What stands at the head of a round. -/
structure PosRound (R : Pl.RulesD) (w : World) (n g gs : Nat) (S : List Pl.StepD) (j : Nat) (u x : Value) (wr : World) (vd : Value) (sp : List Int) (L : List PosT) : Prop where
  st : PpW wr w.heap.size n g gs vd (Pl.mapAt R [] (S.take j)) sp
  run : L.map (·.1.1) = Pl.mapRun R [] (S.take j)
  rows : PRows w wr j u x L
  bel : Bel w wr

theorem PosRound.next {R : Pl.RulesD} {w w1 w2 wa w3 w4 : World} {n g gs : Nat} {S : List Pl.StepD} {j : Nat} {u u1 x x1 vd : Value} {wr : World} {sp : List Int} {L : List PosT} {s : Pl.StepD} {k v y : Value} (h : PosRound R w n g gs S j u x wr vd sp L) (hs : S[j]? = some s) (hb : Bel wr w1)
    (hto : PpTo w1 w2 w.heap.size n g gs vd (Pl.mapD R (Pl.mapAt R [] (S.take j)) s)) (ha : AnsO w2 w.heap.size k v (Pl.mapA R (Pl.mapAt R [] (S.take j)) s))
    (hy : w2.ownsRow w.heap.size 2 1 y (Pl.mapA R (Pl.mapAt R [] (S.take j)) s).vals.length ((Pl.mapA R (Pl.mapAt R [] (S.take j)) s).vals.map (Value.int .i64))) (hba : Bel w2 wa)
    (ho : w3.ownsRow w.heap.size 43 4 u1 (j + 1) (ansCells (L.map (·.1)) ++ [.bool (Pl.mapA R (Pl.mapAt R [] (S.take j)) s).ok, .int .i64 (Pl.mapA R (Pl.mapAt R [] (S.take j)) s).val, k, v])) (hg : wa.grownBy w3 u.ownBlock)
    (ho4 : w4.ownsRow w.heap.size 33 1 x1 (j + 1) (L.map (·.2) ++ [y])) (hg4 : w3.grownBy w4 x.ownBlock) :
    ∃ vd' sp' L', PosRound R w n g gs S (j + 1) u1 x1 w4 vd' sp' L' := by
  obtain ⟨vd', sp', h1, h2, h3⟩ := hto
  have hst := h.st.bel hb
  have hr2 := ((h.rows.bel hb).step hst h2).bel hba
  have hua := hr2.own
  have hx3 : w3.ownsRow w.heap.size 33 1 x j (L.map (·.2)) := own_far3 hr2.lin hua (by decide) hg
  have hk23 : ∀ {b m : Nat} {v : Value} {xs : List Value}, wa.ownsRow b 2 1 v m xs → w4.ownsRow b 2 1 v m xs := fun hh => own_far3 (own_far3 hh hua (by decide) hg) hx3 (by decide) hg4
  have et : S.take (j + 1) = S.take j ++ [s] := by rw [List.take_add_one, hs]; rfl
  refine ⟨vd', sp', L ++ [((Pl.mapA R (Pl.mapAt R [] (S.take j)) s, k, v), y)], ⟨?_, ?_, ⟨?_, ?_, ?_⟩, ?_⟩⟩
  · rw [et, mapAt_append]
    exact ((h1.bel hba).grownA hua hg (by decide) (by decide) (by decide)).grownA hx3 hg4 (by decide) (by decide) (by decide)
  · rw [List.map_append, h.run, et, mapRun_append]; rfl
  · rw [List.map_append, ansCells_append]
    exact own_far3 ho hx3 (by decide) hg4
  · rw [List.map_append]; exact ho4
  · intro p hp
    rcases List.mem_append.1 hp with hp | hp
    · have h0 := hr2.ans p hp
      exact ⟨⟨hk23 h0.1.1, hk23 h0.1.2⟩, hk23 h0.2⟩
    · simp at hp; subst hp; exact ⟨⟨hk23 (own_bel ha.1 hba), hk23 (own_bel ha.2 hba)⟩, hk23 (own_bel hy hba)⟩
  · have hb2 : Bel w w2 := (h.bel.trans hb).kept h2 (fun i hi => (hst.foot_ge i hi).1)
    exact ((hb2.trans hba).grown hg (fun k hk => (hua.lt k hk).1)).grown hg4 (fun k hk => (hx3.lt k hk).1)

/-- A slice value reads as a list of lists of numbers. -/
def LinS (w : World) (v : Value) (ls : List (List Int)) : Prop := ∃ a c, v = .slice a ls.length c ∧ ls.length ≤ c ∧ c ≤ 9223372036854775807 ∧ (0 < ls.length → ∃ b, a = some ⟨b, 0, none⟩ ∧ ∀ (i : Nat) (l : List Int), ls[i]? = some l → ∃ y, w.cell? ⟨b, i, none⟩ = some y ∧ IntS w y l)
theorem LinS.bel {w w' : World} {v : Value} {ls : List (List Int)} (h : LinS w v ls) (hb : Bel w w') : LinS w' v ls := by
  obtain ⟨a, c, h1, h2, h3, h4⟩ := h
  refine ⟨a, c, h1, h2, h3, fun hn => ?_⟩
  obtain ⟨b, ha, hc⟩ := h4 hn
  refine ⟨b, ha, fun i l hl => ?_⟩
  obtain ⟨y, c0, c1⟩ := hc i l hl
  exact ⟨y, hb.cell c0, c1.bel hb⟩
theorem PRows.told {w wr : World} {u x : Value} {L : List PosT} (h : PRows w wr L.length u x L) : AnsS wr u (L.map (·.1.1)) ∧ LinS wr x (L.map fun p => p.1.1.vals) := by
  refine ⟨?_, ?_⟩
  · have := ansS_own (L := L.map (·.1)) (base := w.heap.size) (by rw [List.length_map]; exact h.own) (fun p hp => by
      obtain ⟨q, hq, rfl⟩ := List.mem_map.1 hp
      exact (h.ans q hq).1)
    rwa [List.map_map] at this
  · obtain ⟨a, c, rfl, h1, h2, h3⟩ := own_form h.lin
    refine ⟨a, c, by rw [List.length_map], by rw [List.length_map]; exact h1, h2, fun hn => ?_⟩
    rw [List.length_map] at hn
    obtain ⟨g, rfl, hg⟩ := h3 hn
    refine ⟨g, rfl, fun i l hl => ?_⟩
    rw [List.getElem?_map] at hl
    obtain ⟨q, hq, rfl⟩ := Option.map_eq_some_iff.1 hl
    exact ⟨q.2, hg i _ (by rw [List.getElem?_map, hq]; rfl), ints_own (h.ans q (List.mem_of_getElem? hq)).2⟩

set_option maxRecDepth 100000 in
set_option maxHeartbeats 4000000 in
theorem mapPos_any (n : Nat) (S : List Pl.StepD) (v : Value) (w : World) (hn : n ≤ 1000000) (hv : StepS w v S) (hS : S.length ≤ 100000) (hi : ∀ s ∈ S, StepP n s) :
    Calls Try.prog 26 #[.int .i64 n, v] w fun e w' => ∃ u x, e = .returned (.tuple #[u, x]) ∧ AnsS w' u (Pl.mapRun (Pl.ofPos n) [] S) ∧ LinS w' x ((Pl.mapRun (Pl.ofPos n) [] S).map (·.vals)) ∧ Bel w w' := by
  obtain ⟨a, c, rfl, hlc, hcm, hst⟩ := hv
  have HS := Lib.hid hst; clear hst
  have HI := Lib.hid hi; clear hi
  go_enter Try.func26, Try.ntmps26
  go_wp2_with fail
  refine (ppnew_any n w hn).mono ?_
  rintro e w0 ⟨g, gs, rfl, hset, hb0⟩
  have hs0 := hb0.size
  have hE1 : ∀ o, ((w0.alloc o).alloc (.cells #[] 43)).ownsRow w.heap.size 43 4 (.slice (some ⟨w0.heap.size + 1, 0, none⟩) 0 0) 0 [] := fun o => owns_empty (w0.alloc o) _ _ _ _ (by simp) (by omega)
  have hE2 : ∀ o, (((w0.alloc o).alloc (.cells #[] 43)).alloc (.cells #[] 33)).ownsRow w.heap.size 33 1 (.slice (some ⟨w0.heap.size + 1 + 1, 0, none⟩) 0 0) 0 [] := fun o => owns_empty ((w0.alloc o).alloc _) _ _ _ _ (by simp) (by omega)
  have HR0 : Hid (∀ o, PosRound (Pl.ofPos n) w n g gs S 0 (.slice (some ⟨w0.heap.size + 1, 0, none⟩) 0 0) (.slice (some ⟨w0.heap.size + 1 + 1, 0, none⟩) 0 0) (((w0.alloc o).alloc (.cells #[] 43)).alloc (.cells #[] 33)) (.slice none 0 0) (List.replicate n 0) []) :=
    Lib.hid (fun o => ⟨hset.bel ((((Bel.refl _).alloc _).alloc _).alloc _), rfl, ⟨(hE1 o).alloc _, hE2 o, by simp⟩, ((hb0.alloc _).alloc _).alloc _⟩)
  clear hset hb0 hE1 hE2
  go_wp2
  go_loopw [8, 9, 22] (fun u x i wr => ∃ j : Nat, j ≤ S.length ∧ i = .int .i64 j ∧ ∃ vd sp L, PosRound (Pl.ofPos n) w n g gs S j u x wr vd sp L) (fun _ _ i _ => S.length - (intOf i).toNat)
  case atStart => exact ⟨0, Nat.zero_le _, rfl, _, _, _, HR0.out _⟩
  case round =>
    obtain ⟨j, hj, rfl, vd, sp, L, hR⟩ := hrel
    have HR := Lib.hid hR; clear hR HR0
    by_cases hlt : j < S.length
    · obtain ⟨b, o, rfl, hcell⟩ := HS.out (by omega)
      obtain ⟨s, hs⟩ : ∃ s, S[j]? = some s := ⟨_, List.getElem?_eq_getElem hlt⟩
      obtain ⟨sk, c0, c1, c2, c3, hk⟩ := hcell j s hs
      have d0 := HR.out.bel.cell c0
      have d1 := HR.out.bel.cell c1
      have d2 := HR.out.bel.cell c2
      have d3 := HR.out.bel.cell c3
      have HK := Lib.hid (hk.bel HR.out.bel)
      have HSJ := Lib.hid hs; clear hs
      have hbs := HR.out.bel.size
      obtain ⟨ka, kc, rfl, _, _, _⟩ := hk
      clear hcell c0 c1 c2 c3
      go_wp2_with fail
      refine (posStep_any ((HR.out.st).bel ((Bel.refl wr).alloc _)) hn w0.heap.size ⟨_, rfl, HK.out.bel ((Bel.refl wr).alloc _)⟩ (HI.out s (List.mem_of_getElem? HSJ.out))).mono ?_
      rintro e w2 ⟨k, xv, y, rfl, ha, hy, hto⟩
      have HA := Lib.hid (And.intro ha (And.intro hy hto))
      obtain ⟨k1, k2, rfl, _, _, _⟩ := own_form ha.1
      obtain ⟨x1, x2, rfl, _, _, _⟩ := own_form ha.2
      obtain ⟨y1, y2, rfl, _, _, _⟩ := own_form hy
      have hu2 : PRows w w2 j u8 u9 L := by
        obtain ⟨vd', sp', _, hk2, _⟩ := hto
        exact (HR.out.rows.bel ((Bel.refl wr).alloc _)).step (HR.out.st.bel ((Bel.refl wr).alloc _)) hk2
      have hsz : w.heap.size ≤ w2.heap.size := by
        obtain ⟨vd', sp', _, hk2, _⟩ := hto
        have := hk2.size
        simp at this
        omega
      have HU2 := Lib.hid hu2
      clear ha hto hu2 hy d0 d1 d2 d3
      go_wp2_with (at_builtin; refine wpList_push el38 rfl _ _ rfl w.heap.size u8 j _ rfl (own_bel HU2.out.own ((Bel.refl w2).alloc _)) [_, _, _, _] (w2.heap.size + 1) (by simp) rfl rfl (by simp [Value.oneCell']) (by omega) (by omega) (by omega) ?_)
      intro u1 w3 ho1 hg1 _
      have hx3 := own_far3 (own_bel HU2.out.lin ((Bel.refl w2).alloc _)) (own_bel HU2.out.own ((Bel.refl w2).alloc _)) (by decide) hg1
      have hz3 : w.heap.size ≤ w3.heap.size := by have := hg1.size; simp at this; omega
      have HO1 := Lib.hid (And.intro ho1 (And.intro hg1 hx3))
      clear ho1 hg1 hx3
      go_wp2_with (at_builtin; refine wpList_push elLines rfl _ _ rfl w.heap.size u9 j _ rfl HO1.out.2.2 [_] w3.heap.size rfl rfl rfl (by simp [Value.oneCell']) (by omega) (by omega) hz3 ?_)
      intro x1' w4 ho2 hg2 _
      obtain ⟨vd', sp', L', hR'⟩ := HR.out.next HSJ.out ((Bel.refl wr).alloc _) HA.out.2.2 HA.out.1 HA.out.2.1 ((Bel.refl w2).alloc _) HO1.out.1 HO1.out.2.1 ho2 hg2
      have HR' := Lib.hid hR'
      clear ho2 hg2 hR' HO1 HU2
      go_wp2
      go_roundw
      case rel => exact ⟨j + 1, by omega, by go_num, vd', sp', L', HR'.out⟩
      case measure => simp [intOf]; omega
    · obtain rfl : j = S.length := by omega
      have h1 := HR.out.run
      rw [List.take_of_length_le (Nat.le_refl _)] at h1
      have hl : L.length = S.length := by have := congrArg List.length h1; rwa [List.length_map, mapRun_length] at this
      have hT := PRows.told (L := L) (by rw [hl]; exact HR.out.rows)
      have HT : Hid (AnsS wr u8 (Pl.mapRun (Pl.ofPos n) [] S) ∧ LinS wr u9 ((Pl.mapRun (Pl.ofPos n) [] S).map (·.vals)) ∧ Bel w wr) := Lib.hid (by
        rw [← h1, List.map_map]; exact ⟨hT.1, hT.2, HR.out.bel⟩)
      obtain ⟨t1, t2, rfl, _⟩ := HT.out.1
      obtain ⟨s1, s2, rfl, _⟩ := HT.out.2.1
      clear hT h1 hl HR
      go_wp2
      go_ret2
      exact ⟨_, _, rfl, HT.out⟩
end Go.Proofs.Ytdmjcgipfkhibaa
