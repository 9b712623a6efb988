/- The walk of impl.Biased. -/
import Derived.Test.YtdmjcgipfkhibaaBia3
namespace Go.Proofs.Ytdmjcgipfkhibaa
open Go.RowKit

namespace Pl
def ofBiased (f l : Int) : RulesD := ⟨f, l, l + 1, true, 0, true⟩
end Pl

/-- A step that a map between two numbers takes. -/
structure StepB (S : Pl.StepD) : Prop where
  k : KeyIn S.key
  v : Val32 S.val

theorem biaStep_any {w : World} {base n g gs gb : Nat} {f : Int} {vd : Value} {d : List Pl.Ent} {sp : List Int} (h : BiaW w base n g gs gb f vd d sp) (hn : n ≤ 1000000) (f0 : 0 ≤ f) (f1 : f ≤ 1073741824) {sv : Value} {S : Pl.StepD} (hs : StepV w sv S) (hi : StepB S) {D : List Pl.Ent} (hD : shE f d = D) {l : Int} (hl : f + (n : Int) - 1 = l) :
    Calls Try.prog 42 #[mptr gb, sv] w fun e w' => ∃ d', shE f d' = Pl.mapD (Pl.ofBiased f l) D S ∧ BStepPost w base n g gs gb f vd d' (Pl.mapA (Pl.ofBiased f l) D S) e w' := by
  subst hD hl
  obtain ⟨sl, rfl, hsl⟩ := hs
  obtain ⟨kind, key, val, l⟩ := S
  obtain ⟨hk, hv⟩ := hi
  simp only at *
  by_cases e0 : kind = 0
  · subst e0
    refine (biaStep_add h hn f0 f1 key hk val hv sl).mono fun e w' hp => ⟨_, ?_, hp⟩
    unfold Pl.mapD bputE
    rw [if_pos rfl, putE_sh]
    by_cases hin : f ≤ key ∧ key < n + f
    · rw [if_pos hin, if_pos (show (Pl.ofBiased f (f + n - 1)).first ≤ key ∧ key ≤ (Pl.ofBiased f (f + n - 1)).last from ⟨hin.1, by show key ≤ f + n - 1; omega⟩)]
    · rw [if_neg hin, if_neg (show ¬ ((Pl.ofBiased f (f + n - 1)).first ≤ key ∧ key ≤ (Pl.ofBiased f (f + n - 1)).last) from fun hh => hin ⟨hh.1, by have h2 : key ≤ f + n - 1 := hh.2; omega⟩)]
  by_cases e1 : kind = 1
  · subst e1
    exact (biaStep_rem h hn f0 f1 key hk val sl).mono fun e w' hp => ⟨_, (outE_sh f d key).symm, hp⟩
  by_cases e2 : kind = 2
  · subst e2
    exact (biaStep_has h hn f0 f1 key hk val sl).mono fun e w' hp => ⟨d, rfl, hp⟩
  by_cases e3 : kind = 3
  · subst e3
    have e : Pl.mapA (Pl.ofBiased f (f + n - 1)) (shE f d) ⟨3, key, val, l⟩ = ⟨hasB (shE f d) key, getV (shE f d) key, [], []⟩ := by
      show (⟨hasB (shE f d) key && true, if hasB (shE f d) key then getV (shE f d) key else 0, [], []⟩ : Pl.Ans) = _
      rw [Bool.and_true]
      cases hb : hasB (shE f d) key
      · rw [getV_out hb]; rfl
      · rfl
    rw [e]
    exact (biaStep_get h hn f0 f1 key hk val sl).mono fun e w' hp => ⟨d, rfl, hp⟩
  by_cases e4 : kind = 4
  · subst e4
    have e : Pl.mapA (Pl.ofBiased f (f + n - 1)) (shE f d) ⟨4, key, val, l⟩ = ⟨false, d.length, [], []⟩ := by
      show (⟨false, ((shE f d).length : Int), [], []⟩ : Pl.Ans) = _
      rw [shE_length]
    rw [e]
    exact (biaStep_size h hn f0 f1 key hk val sl).mono fun e w' hp => ⟨d, rfl, hp⟩
  by_cases e5 : kind = 5
  · subst e5
    exact (biaStep_clear h hn f0 f1 key hk val sl).mono fun e w' hp => ⟨[], rfl, hp⟩
  by_cases e7 : kind = 7
  · subst e7
    exact (biaStep_all h hn f0 f1 key hk val sl).mono fun e w' hp => ⟨d, rfl, hp⟩
  by_cases e9 : kind = 9
  · subst e9
    have e : Pl.mapA (Pl.ofBiased f (f + n - 1)) (shE f d) ⟨9, key, val, l⟩ = ⟨false, (n : Int) + f, [], []⟩ := by
      show (⟨false, f + (n : Int) - 1 + 1, [], []⟩ : Pl.Ans) = _
      rw [show f + (n : Int) - 1 + 1 = (n : Int) + f by omega]
    rw [e]
    exact (biaStep_cap h hn f0 f1 key hk val sl).mono fun e w' hp => ⟨d, rfl, hp⟩
  have e : Pl.mapA (Pl.ofBiased f (f + n - 1)) (shE f d) ⟨kind, key, val, l⟩ = Pl.ans0 := by simp [Pl.mapA, e2, e3, e4, e7, e9]
  rw [e]
  exact (biaStep_other h key hk kind val sl (by simp [e0, e1, e2, e3, e4, e5, e7, e9])).mono fun e w' hp => ⟨d, by simp [Pl.mapD, e0, e1, e5], hp⟩

theorem BiaW.grownA {w w' : World} {base n g gs gb : Nat} {f : Int} {vd : Value} {d : List Pl.Ent} {sp : List Int} (h : BiaW w base n g gs gb f vd d sp) {b : Nat} {e : TypeId} {size m : Nat} {u : Value} {xs : List Value} (hu : w.ownsRow b e size u m xs) (hg : w.grownBy w' u.ownBlock)
    (h1 : e ≠ 142) (h2 : e ≠ 21) (h3 : e ≠ 128) (h4 : e ≠ 138) : BiaW w' base n g gs gb f vd d sp :=
  ⟨h.hb.grown hg (fun e => own_ne hu h.hb h4 e.symm), h.hm.grownA hu hg h1 h2 h3, h.hg⟩

/-- What stands at the head of a round. -/
structure BiaRound (R : Pl.RulesD) (w : World) (n g gs gb : Nat) (f : Int) (S : List Pl.StepD) (j : Nat) (u : Value) (wr : World) (vd : Value) (d : List Pl.Ent) (sp : List Int) (L : List AnsT) : Prop where
  st : BiaW wr w.heap.size n g gs gb f vd d sp
  dd : shE f d = Pl.mapAt R [] (S.take j)
  run : L.map (·.1) = Pl.mapRun R [] (S.take j)
  own : wr.ownsRow w.heap.size 43 4 u j (ansCells L)
  ans : ∀ p ∈ L, AnsO wr w.heap.size p.2.1 p.2.2 p.1
  bel : Bel w wr

theorem BiaRound.next {R : Pl.RulesD} {w w1 w2 w3 : World} {n g gs gb : Nat} {f : Int} {S : List Pl.StepD} {j : Nat} {u u1 vd : Value} {wr : World} {d d' : List Pl.Ent} {sp : List Int} {L : List AnsT} {s : Pl.StepD} {k x : Value} (h : BiaRound R w n g gs gb f S j u wr vd d sp L) (hs : S[j]? = some s) (hb : Bel wr w1)
    (hto : BiaTo w1 w2 w.heap.size n g gs gb f vd d') (hdd : shE f d' = Pl.mapD R (Pl.mapAt R [] (S.take j)) s) (ha : AnsO w2 w.heap.size k x (Pl.mapA R (Pl.mapAt R [] (S.take j)) s))
    (ho : w3.ownsRow w.heap.size 43 4 u1 (j + 1) (ansCells L ++ [.bool (Pl.mapA R (Pl.mapAt R [] (S.take j)) s).ok, .int .i64 (Pl.mapA R (Pl.mapAt R [] (S.take j)) s).val, k, x])) (hg : w2.grownBy w3 u.ownBlock) :
    ∃ vd' d'' sp' L', BiaRound R w n g gs gb f S (j + 1) u1 w3 vd' d'' sp' L' := by
  obtain ⟨vd', sp', h1, h2, h3⟩ := hto
  have hst := h.st.bel hb
  have hu2 : w2.ownsRow w.heap.size 43 4 u j (ansCells L) := own_stepM hst.hm h2 (own_bel h.own hb) (by decide) (by decide) (by decide)
  have hk23 : ∀ {b m : Nat} {v : Value} {xs : List Value}, w2.ownsRow b 2 1 v m xs → w3.ownsRow b 2 1 v m xs := fun {b m v xs} hh => by
    refine hh.kept hg ?_
    cases hv : v.ownBlock with
    | none => exact .inl rfl
    | some q => exact .inr (fun e => own_own_ne hh hu2 (by decide) q hv e.symm)
  have et : S.take (j + 1) = S.take j ++ [s] := by rw [List.take_add_one, hs]; rfl
  refine ⟨vd', d', sp', L ++ [(Pl.mapA R (Pl.mapAt R [] (S.take j)) s, k, x)], ⟨?_, ?_, ?_, ?_, ?_, ?_⟩⟩
  · exact h1.grownA hu2 hg (by decide) (by decide) (by decide) (by decide)
  · rw [et, mapAt_append]; exact hdd
  · rw [List.map_append, h.run, et, mapRun_append]; rfl
  · rw [ansCells_append]; exact ho
  · intro p hp
    rcases List.mem_append.1 hp with hp | hp
    · have h0 := h.ans p hp
      exact ⟨hk23 (own_stepM hst.hm h2 (own_bel h0.1 hb) (by decide) (by decide) (by decide)), hk23 (own_stepM hst.hm h2 (own_bel h0.2 hb) (by decide) (by decide) (by decide))⟩
    · simp at hp; subst hp; exact ⟨hk23 ha.1, hk23 ha.2⟩
  · have hb2 : Bel w w2 := (h.bel.trans hb).kept h2 (fun i hi => (hst.hm.foot_ge i hi).1)
    exact hb2.grown hg (fun k hk => (hu2.lt k hk).1)

set_option maxHeartbeats 1000000 in
theorem bia_any (f : Int) (n : Nat) (S : List Pl.StepD) (v : Value) (w : World) (hn : n ≤ 1000000) (hn0 : 0 < n) (f0 : 0 ≤ f) (f1 : f ≤ 1073741824) (hv : StepS w v S) (hS : S.length ≤ 100000) (hi : ∀ s ∈ S, StepB s) :
    Calls Try.prog 30 #[.int .i64 f, .int .i64 (f + n - 1), v] w fun e w' => ∃ u, e = .returned u ∧ AnsS w' u (Pl.mapRun (Pl.ofBiased f (f + n - 1)) [] S) ∧ Bel w w' := by
  obtain ⟨a, c, rfl, hlc, hcm, hst⟩ := hv
  have HS := Lib.hid hst; clear hst
  have HI := Lib.hid hi; clear hi
  have HN := Lib.hid (bnew_any f n w hn hn0 f0 f1)
  generalize hl : f + (n : Int) - 1 = l at HN ⊢
  have HLL := Lib.hid hl; clear hl
  go_enter Try.func30, Try.ntmps30
  go_wp2_with fail
  refine HN.out.mono ?_
  rintro e w0 ⟨g, gs, gb, rfl, hset, hb0⟩
  have hs0 := hb0.size
  have HR0 : Hid (BiaRound (Pl.ofBiased f l) w n g gs gb f S 0 (.slice (some ⟨w0.heap.size, 0, none⟩) 0 0) (w0.alloc (.cells #[] 43)) (.slice none 0 0) [] (List.replicate n 0) []) :=
    Lib.hid ⟨hset.bel ((Bel.refl _).alloc _), rfl, rfl, owns_empty _ _ _ _ _ rfl hs0, by simp, hb0.alloc _⟩
  clear hset hb0
  go_wp2
  go_loopw [8, 17] (fun u i wr => ∃ j : Nat, j ≤ S.length ∧ i = .int .i64 j ∧ ∃ vd d sp L, BiaRound (Pl.ofBiased f l) w n g gs gb f S j u wr vd d sp L) (fun _ i _ => S.length - (intOf i).toNat)
  case atStart => exact ⟨0, Nat.zero_le _, rfl, _, _, _, _, HR0.out⟩
  case round =>
    obtain ⟨j, hj, rfl, vd, d, sp, L, hR⟩ := hrel
    have HR := Lib.hid hR; clear hR HR0
    by_cases hlt : j < S.length
    · obtain ⟨b, o, rfl, hcell⟩ := HS.out (by omega)
      obtain ⟨s, hs⟩ : ∃ s, S[j]? = some s := ⟨_, List.getElem?_eq_getElem hlt⟩
      obtain ⟨sk, c0, c1, c2, c3, hk⟩ := hcell j s hs
      have d0 := HR.out.bel.cell c0
      have d1 := HR.out.bel.cell c1
      have d2 := HR.out.bel.cell c2
      have d3 := HR.out.bel.cell c3
      have HK := Lib.hid (hk.bel HR.out.bel)
      have HSJ := Lib.hid hs; clear hs
      have hbs := HR.out.bel.size
      obtain ⟨ka, kc, rfl, _, _, _⟩ := hk
      clear hcell c0 c1 c2 c3
      go_wp2_with fail
      refine (biaStep_any ((HR.out.st).bel ((Bel.refl wr).alloc _)) hn f0 f1 ⟨_, rfl, HK.out.bel ((Bel.refl wr).alloc _)⟩ (HI.out s (List.mem_of_getElem? HSJ.out)) HR.out.dd HLL.out).mono ?_
      rintro e w2 ⟨d', hdd, k, x, rfl, ha, hto⟩
      have HA := Lib.hid (And.intro ha (And.intro hto hdd))
      obtain ⟨k1, k2, rfl, _, _, _⟩ := own_form ha.1
      obtain ⟨x1, x2, rfl, _, _, _⟩ := own_form ha.2
      have hu2 : w2.ownsRow w.heap.size 43 4 u8 j (ansCells L) := by
        obtain ⟨vd', sp', _, hk2, _⟩ := hto
        exact own_stepM (HR.out.st.hm.bel ((Bel.refl wr).alloc _)) hk2 (own_bel HR.out.own ((Bel.refl wr).alloc _)) (by decide) (by decide) (by decide)
      have hsz : w.heap.size ≤ w2.heap.size := by
        obtain ⟨vd', sp', _, hk2, _⟩ := hto
        have := hk2.size
        simp at this
        omega
      have HU2 := Lib.hid hu2
      clear ha hto hu2 hdd
      go_wp2_with (at_builtin; refine wpList_push el38 rfl (.tmp 21) (.tmp 25) rfl w.heap.size u8 j _ rfl HU2.out [_, _, _, _] w2.heap.size rfl rfl rfl (by simp [Value.oneCell']) (by omega) (by omega) hsz ?_)
      intro u1 w3 ho1 hg1 _
      obtain ⟨vd', d'', sp', L', hR'⟩ := HR.out.next HSJ.out ((Bel.refl wr).alloc _) HA.out.2.1 HA.out.2.2 HA.out.1 ho1 hg1
      have HR' := Lib.hid hR'
      clear ho1 hg1 hR'
      go_wp2
      go_roundw
      case rel => exact ⟨j + 1, by omega, by go_num, vd', d'', sp', L', HR'.out⟩
      case measure => simp [intOf]; omega
    · go_wp2
      go_ret
      obtain rfl : j = S.length := by omega
      refine ⟨_, rfl, ?_, HR.out.bel⟩
      have h1 := HR.out.run
      rw [List.take_of_length_le (Nat.le_refl _)] at h1
      rw [← h1]
      have hl : L.length = S.length := by have := congrArg List.length h1; rwa [List.length_map, mapRun_length] at this
      exact ansS_own (by rw [hl]; exact HR.out.own) HR.out.ans
theorem ofBiased_any (f l : Int) (w : World) (h0 : 0 ≤ l) (h1 : l ≤ 2147483647) : Calls Try.prog 29 #[.int .i64 f, .int .i64 l] w fun e w' => e = .returned (rulesV (Pl.ofBiased f l)) ∧ Bel w w' := by
  go_enter Try.func29, Try.ntmps29
  go_wp2
  exact bodyPost_ret (v := rulesV (Pl.ofBiased f l)) (by simp [results, Try.results29, go_sem, Pl.ofBiased]) rfl ⟨rfl, (Bel.refl w).alloc _⟩
end Go.Proofs.Ytdmjcgipfkhibaa
