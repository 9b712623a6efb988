/- The walk of impl.Map. -/
import Derived.Test.YtdmjcgipfkhibaaMap5
namespace Go.Proofs.Ytdmjcgipfkhibaa
open Go.RowKit

/-- A step that a map of n numbers takes. -/
structure StepM (n : Nat) (S : Pl.StepD) : Prop where
  k0 : 0 ≤ S.key
  k1 : S.key < n
  v : Val32 S.val

theorem mapStep_any {w : World} {base n g gs : Nat} {vd : Value} {d : List Pl.Ent} {sp : List Int} (h : MapW w base n g gs vd d sp) (hn : n ≤ 1000000) {sv : Value} {S : Pl.StepD} (hs : StepV w sv S) (hi : StepM n S) :
    Calls Try.prog 37 #[mptr g, sv] w (MStepPost w base n g gs vd (Pl.mapD (Pl.ofMap n) d S) (Pl.mapA (Pl.ofMap n) d S)) := by
  obtain ⟨sl, rfl, hsl⟩ := hs
  obtain ⟨kind, key, val, l⟩ := S
  obtain ⟨k0, k1, hv⟩ := hi
  simp only at *
  obtain ⟨k, rfl⟩ := Int.eq_ofNat_of_zero_le k0
  have hk : k < n := by omega
  have hin : (Pl.ofMap n).first ≤ (k : Int) ∧ (k : Int) ≤ (Pl.ofMap n).last := ⟨k0, by show (k : Int) ≤ (n : Int) - 1; omega⟩
  by_cases e0 : kind = 0
  · subst e0
    have := mapStep_add h hn k hk val hv sl
    have e : Pl.mapD (Pl.ofMap n) d ⟨0, k, val, l⟩ = putE d k val := by unfold Pl.mapD; rw [if_pos rfl, if_pos hin]
    rw [e]; exact this
  by_cases e1 : kind = 1
  · subst e1; exact mapStep_rem h hn k hk val sl
  by_cases e2 : kind = 2
  · subst e2; exact mapStep_has h hn k hk val sl
  by_cases e3 : kind = 3
  · subst e3
    have := mapStep_get h hn k hk val sl
    have e : Pl.mapA (Pl.ofMap n) d ⟨3, k, val, l⟩ = ⟨hasB d k, getV d k, [], []⟩ := by
      show (⟨hasB d k && true, if hasB d k then getV d k else 0, [], []⟩ : Pl.Ans) = _
      rw [Bool.and_true]
      cases hb : hasB d k
      · rw [getV_not (fun v hv' => by rw [hasB_iff.2 ⟨v, hv'⟩] at hb; cases hb)]; rfl
      · rfl
    rw [e]; exact this
  by_cases e4 : kind = 4
  · subst e4; exact mapStep_size h hn k hk val sl
  by_cases e5 : kind = 5
  · subst e5; exact mapStep_clear h hn k hk val sl
  by_cases e7 : kind = 7
  · subst e7; exact mapStep_all h hn k hk val sl
  by_cases e9 : kind = 9
  · subst e9; exact mapStep_cap h hn k hk val sl
  have := mapStep_other h hn k hk kind val sl (by simp [e0, e1, e2, e3, e4, e5, e7, e9])
  simpa [Pl.mapD, Pl.mapA, e0, e1, e2, e3, e4, e5, e7, e9] using this

theorem mapAt_append (r : Pl.RulesD) : ∀ (a b : List Pl.StepD) (d : List Pl.Ent), Pl.mapAt r d (a ++ b) = Pl.mapAt r (Pl.mapAt r d a) b
  | [], _, _ => rfl
  | s :: a, b, d => mapAt_append r a b (Pl.mapD r d s)
theorem mapRun_append (r : Pl.RulesD) : ∀ (a b : List Pl.StepD) (d : List Pl.Ent), Pl.mapRun r d (a ++ b) = Pl.mapRun r d a ++ Pl.mapRun r (Pl.mapAt r d a) b
  | [], _, _ => rfl
  | s :: a, b, d => by
    simp only [List.cons_append, Pl.mapRun, Pl.mapAt]
    rw [mapRun_append r a b (Pl.mapD r d s)]
theorem mapRun_length (r : Pl.RulesD) : ∀ (a : List Pl.StepD) (d : List Pl.Ent), (Pl.mapRun r d a).length = a.length
  | [], _ => rfl
  | s :: a, d => by simp [Pl.mapRun, mapRun_length r a]

/-- What is no part of a map stands behind a step of the map. -/
theorem own_stepM {w w' : World} {base n g gs : Nat} {vd : Value} {d : List Pl.Ent} {sp : List Int} (h : MapW w base n g gs vd d sp) (hk : Kept (mfoot g gs vd) w w') {b : Nat} {e : TypeId} {size m : Nat} {v : Value} {xs : List Value} (ho : w.ownsRow b e size v m xs)
    (h1 : e ≠ 142) (h2 : e ≠ 21) (h3 : e ≠ 128) : w'.ownsRow b e size v m xs := by
  refine own_kept ho hk (fun k hk' hm => ?_)
  unfold mfoot at hm
  rcases List.mem_cons.1 hm with rfl | hm
  · exact own_ne ho h.hg h1 hk'
  · rcases List.mem_cons.1 hm with rfl | hm
    · exact own_ne ho h.hs h2 hk'
    · have : vd.ownBlock = some k := by cases hv : vd.ownBlock <;> rw [hv] at hm <;> simp at hm; rw [hm]
      exact own_own_ne ho h.hd h3 k hk' this
theorem MapW.grownA {w w' : World} {base n g gs : Nat} {vd : Value} {d : List Pl.Ent} {sp : List Int} (h : MapW w base n g gs vd d sp) {b : Nat} {e : TypeId} {size m : Nat} {u : Value} {xs : List Value} (hu : w.ownsRow b e size u m xs) (hg : w.grownBy w' u.ownBlock)
    (h1 : e ≠ 142) (h2 : e ≠ 21) (h3 : e ≠ 128) : MapW w' base n g gs vd d sp := by
  refine ⟨h.hg.grown hg (fun e => own_ne hu h.hg h1 e.symm), h.hs.grown hg (fun e => own_ne hu h.hs h2 e.symm), ?_, h.hi, h.hz, h.hb⟩
  refine h.hd.kept hg ?_
  cases hv : vd.ownBlock with
  | none => exact .inl rfl
  | some q => exact .inr (fun e => own_own_ne h.hd hu (Ne.symm h3) q hv e.symm)

/-- What stands at the head of a round. -/
structure MapRound (R : Pl.RulesD) (w : World) (n g gs : Nat) (S : List Pl.StepD) (j : Nat) (u : Value) (wr : World) (vd : Value) (sp : List Int) (L : List AnsT) : Prop where
  st : MapW wr w.heap.size n g gs vd (Pl.mapAt R [] (S.take j)) sp
  run : L.map (·.1) = Pl.mapRun R [] (S.take j)
  own : wr.ownsRow w.heap.size 43 4 u j (ansCells L)
  ans : ∀ p ∈ L, AnsO wr w.heap.size p.2.1 p.2.2 p.1
  bel : Bel w wr

theorem MapRound.next {R : Pl.RulesD} {w w1 w2 w3 : World} {n g gs : Nat} {S : List Pl.StepD} {j : Nat} {u u1 vd : Value} {wr : World} {sp : List Int} {L : List AnsT} {s : Pl.StepD} {k x : Value} (h : MapRound R w n g gs S j u wr vd sp L) (hs : S[j]? = some s) (hb : Bel wr w1)
    (hto : MapTo w1 w2 w.heap.size n g gs vd (Pl.mapD R (Pl.mapAt R [] (S.take j)) s)) (ha : AnsO w2 w.heap.size k x (Pl.mapA R (Pl.mapAt R [] (S.take j)) s))
    (ho : w3.ownsRow w.heap.size 43 4 u1 (j + 1) (ansCells L ++ [.bool (Pl.mapA R (Pl.mapAt R [] (S.take j)) s).ok, .int .i64 (Pl.mapA R (Pl.mapAt R [] (S.take j)) s).val, k, x])) (hg : w2.grownBy w3 u.ownBlock) :
    ∃ vd' sp' L', MapRound R w n g gs S (j + 1) u1 w3 vd' sp' L' := by
  obtain ⟨vd', sp', h1, h2, h3⟩ := hto
  have hst := h.st.bel hb
  have hu2 : w2.ownsRow w.heap.size 43 4 u j (ansCells L) := own_stepM hst h2 (own_bel h.own hb) (by decide) (by decide) (by decide)
  have hk23 : ∀ {b m : Nat} {v : Value} {xs : List Value}, w2.ownsRow b 2 1 v m xs → w3.ownsRow b 2 1 v m xs := fun {b m v xs} hh => by
    refine hh.kept hg ?_
    cases hv : v.ownBlock with
    | none => exact .inl rfl
    | some q => exact .inr (fun e => own_own_ne hh hu2 (by decide) q hv e.symm)
  have et : S.take (j + 1) = S.take j ++ [s] := by rw [List.take_add_one, hs]; rfl
  refine ⟨vd', sp', L ++ [(Pl.mapA R (Pl.mapAt R [] (S.take j)) s, k, x)], ⟨?_, ?_, ?_, ?_, ?_⟩⟩
  · rw [et, mapAt_append]
    exact h1.grownA hu2 hg (by decide) (by decide) (by decide)
  · rw [List.map_append, h.run, et, mapRun_append]; rfl
  · rw [ansCells_append]; exact ho
  · intro p hp
    rcases List.mem_append.1 hp with hp | hp
    · have h0 := h.ans p hp
      exact ⟨hk23 (own_stepM hst h2 (own_bel h0.1 hb) (by decide) (by decide) (by decide)), hk23 (own_stepM hst h2 (own_bel h0.2 hb) (by decide) (by decide) (by decide))⟩
    · simp at hp; subst hp; exact ⟨hk23 ha.1, hk23 ha.2⟩
  · have hb2 : Bel w w2 := (h.bel.trans hb).kept h2 (fun i hi => (hst.foot_ge i hi).1)
    exact hb2.grown hg (fun k hk => (hu2.lt k hk).1)

set_option maxHeartbeats 1000000 in
theorem map_any (n : Nat) (S : List Pl.StepD) (v : Value) (w : World) (hn : n ≤ 1000000) (hv : StepS w v S) (hS : S.length ≤ 100000) (hi : ∀ s ∈ S, StepM n s) :
    Calls Try.prog 17 #[.int .i64 n, v] w fun e w' => ∃ u, e = .returned u ∧ AnsS w' u (Pl.mapRun (Pl.ofMap n) [] S) ∧ Bel w w' := by
  obtain ⟨a, c, rfl, hlc, hcm, hst⟩ := hv
  have HS := Lib.hid hst; clear hst
  have HI := Lib.hid hi; clear hi
  go_enter Try.func17, Try.ntmps17
  go_wp2_with fail
  refine (mnew_any n w hn).mono ?_
  rintro e w0 ⟨g, gs, rfl, hset, hb0⟩
  have hs0 := hb0.size
  have HR0 : Hid (MapRound (Pl.ofMap n) w n g gs S 0 (.slice (some ⟨w0.heap.size, 0, none⟩) 0 0) (w0.alloc (.cells #[] 43)) (.slice none 0 0) (List.replicate n 0) []) :=
    Lib.hid ⟨hset.bel ((Bel.refl _).alloc _), rfl, owns_empty _ _ _ _ _ rfl hs0, by simp, hb0.alloc _⟩
  clear hset hb0
  go_wp2
  go_loopw [6, 14] (fun u i wr => ∃ j : Nat, j ≤ S.length ∧ i = .int .i64 j ∧ ∃ vd sp L, MapRound (Pl.ofMap n) w n g gs S j u wr vd sp L) (fun _ i _ => S.length - (intOf i).toNat)
  case atStart => exact ⟨0, Nat.zero_le _, rfl, _, _, _, HR0.out⟩
  case round =>
    obtain ⟨j, hj, rfl, vd, sp, L, hR⟩ := hrel
    have HR := Lib.hid hR; clear hR HR0
    by_cases hlt : j < S.length
    · obtain ⟨b, o, rfl, hcell⟩ := HS.out (by omega)
      obtain ⟨s, hs⟩ : ∃ s, S[j]? = some s := ⟨_, List.getElem?_eq_getElem hlt⟩
      obtain ⟨sk, c0, c1, c2, c3, hk⟩ := hcell j s hs
      have d0 := HR.out.bel.cell c0
      have d1 := HR.out.bel.cell c1
      have d2 := HR.out.bel.cell c2
      have d3 := HR.out.bel.cell c3
      have HK := Lib.hid (hk.bel HR.out.bel)
      have HSJ := Lib.hid hs; clear hs
      have hbs := HR.out.bel.size
      obtain ⟨ka, kc, rfl, _, _, _⟩ := hk
      clear hcell c0 c1 c2 c3
      go_wp2_with fail
      refine (mapStep_any ((HR.out.st).bel ((Bel.refl wr).alloc _)) hn ⟨_, rfl, HK.out.bel ((Bel.refl wr).alloc _)⟩ (HI.out s (List.mem_of_getElem? HSJ.out))).mono ?_
      rintro e w2 ⟨k, x, rfl, ha, hto⟩
      have HA := Lib.hid (And.intro ha hto)
      obtain ⟨k1, k2, rfl, _, _, _⟩ := own_form ha.1
      obtain ⟨x1, x2, rfl, _, _, _⟩ := own_form ha.2
      have hu2 : w2.ownsRow w.heap.size 43 4 u6 j (ansCells L) := by
        obtain ⟨vd', sp', _, hk2, _⟩ := hto
        exact own_stepM (HR.out.st.bel ((Bel.refl wr).alloc _)) hk2 (own_bel HR.out.own ((Bel.refl wr).alloc _)) (by decide) (by decide) (by decide)
      have hsz : w.heap.size ≤ w2.heap.size := by
        obtain ⟨vd', sp', _, hk2, _⟩ := hto
        have := hk2.size
        simp at this
        omega
      have HU2 := Lib.hid hu2
      clear ha hto hu2
      go_wp2_with (at_builtin; refine wpList_push el38 rfl (.tmp 18) (.tmp 22) rfl w.heap.size u6 j _ rfl HU2.out [_, _, _, _] w2.heap.size rfl rfl rfl (by simp [Value.oneCell']) (by omega) (by omega) hsz ?_)
      intro u1 w3 ho1 hg1 _
      obtain ⟨vd', sp', L', hR'⟩ := HR.out.next HSJ.out ((Bel.refl wr).alloc _) HA.out.2 HA.out.1 ho1 hg1
      have HR' := Lib.hid hR'
      clear ho1 hg1 hR'
      go_wp2
      go_roundw
      case rel => exact ⟨j + 1, by omega, by go_num, vd', sp', L', HR'.out⟩
      case measure => simp [intOf]; omega
    · go_wp2
      go_ret
      obtain rfl : j = S.length := by omega
      refine ⟨_, rfl, ?_, HR.out.bel⟩
      have h1 := HR.out.run
      rw [List.take_of_length_le (Nat.le_refl _)] at h1
      rw [← h1]
      have hl : L.length = S.length := by have := congrArg List.length h1; rwa [List.length_map, mapRun_length] at this
      exact ansS_own (by rw [hl]; exact HR.out.own) HR.out.ans
end Go.Proofs.Ytdmjcgipfkhibaa
