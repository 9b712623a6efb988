/- The walk of impl.Set. -/
import Derived.Test.YtdmjcgipfkhibaaSet3
namespace Go.Proofs.Ytdmjcgipfkhibaa
open Go.RowKit

theorem el38 : ElTy 31 43 4 64 := ElTy.mk' (z := .agg #[.bool false, .int .i64 0, .slice none 0 0, .slice none 0 0]) Try.underlying31 (by kernel_rfl) rfl (by decide)

/-- A step that a set of n numbers takes. -/
structure StepIn (n : Nat) (S : Pl.StepD) : Prop where
  k0 : 0 ≤ S.key
  k1 : S.key < n
  ll : S.list.length ≤ 1000
  lr : ∀ x ∈ S.list, 0 ≤ x ∧ x < n

theorem setStep_any {w : World} {base n g gs : Nat} {vd : Value} {d : List Pl.Ent} {sp : List Int} (h : SetW w base n g gs vd d sp) (hn : n ≤ 1000000) {sv : Value} {S : Pl.StepD} (hs : StepV w sv S) (hi : StepIn n S) :
    Calls Try.prog 44 #[ptrTo g, sv] w (StepPost w base n g gs vd (Pl.setD d S) (Pl.setA n d S)) := by
  obtain ⟨sl, rfl, hsl⟩ := hs
  obtain ⟨kind, key, val, l⟩ := S
  obtain ⟨k0, k1, ll, lr⟩ := hi
  simp only at *
  obtain ⟨k, rfl⟩ := Int.eq_ofNat_of_zero_le k0
  have hk : k < n := by omega
  by_cases e0 : kind = 0
  · subst e0; exact setStep_add h hn k hk val sl
  by_cases e1 : kind = 1
  · subst e1; exact setStep_rem h hn k hk val sl
  by_cases e2 : kind = 2
  · subst e2; exact setStep_has h hn k hk val sl
  by_cases e4 : kind = 4
  · subst e4; exact setStep_size h hn k val sl
  by_cases e5 : kind = 5
  · subst e5; exact setStep_clear h hn k val sl
  by_cases e6 : kind = 6
  · subst e6
    cases hy : d[d.length - 1]? with
    | none =>
      have hd : d = [] := by
        cases d with
        | nil => rfl
        | cons a r => simp at hy
      have := setStep_none h hn hd k val sl
      subst hd
      exact this
    | some y =>
      have := setStep_pop h hn hy k val sl
      simp only [Pl.setD, Pl.setA, hy]
      exact this
  by_cases e7 : kind = 7
  · subst e7; exact setStep_all h hn k val sl
  by_cases e8 : kind = 8
  · subst e8; exact setStep_addAll h hn k val sl l hsl (by omega) lr
  by_cases e9 : kind = 9
  · subst e9; exact setStep_cap h hn k val sl
  have := setStep_other h kind k val sl (by simp [e0, e1, e2, e4, e5, e6, e7, e8, e9])
  simpa [Pl.setD, Pl.setA, e0, e1, e2, e4, e5, e6, e7, e8, e9] using this

theorem setAt_append : ∀ (a b : List Pl.StepD) (d : List Pl.Ent), Pl.setAt d (a ++ b) = Pl.setAt (Pl.setAt d a) b
  | [], _, _ => rfl
  | s :: a, b, d => setAt_append a b (Pl.setD d s)
theorem setRun_append : ∀ (a b : List Pl.StepD) (n : Int) (d : List Pl.Ent), Pl.setRun n d (a ++ b) = Pl.setRun n d a ++ Pl.setRun n (Pl.setAt d a) b
  | [], _, _, _ => rfl
  | s :: a, b, n, d => by
    simp only [List.cons_append, Pl.setRun, Pl.setAt]
    rw [setRun_append a b n (Pl.setD d s)]
theorem setRun_length (n : Int) : ∀ (a : List Pl.StepD) (d : List Pl.Ent), (Pl.setRun n d a).length = a.length
  | [], _ => rfl
  | s :: a, d => by simp [Pl.setRun, setRun_length n a]

/-- The slice with address a reads as the steps S. -/
def Steps (w : World) (a : Option Addr) (S : List Pl.StepD) : Prop :=
  0 < S.length → ∃ b o, a = some ⟨b, o, none⟩ ∧ ∀ (i : Nat) (s : Pl.StepD), S[i]? = some s → ∃ k, w.cell? ⟨b, o + i * 4, none⟩ = some (.int .i64 s.kind) ∧ w.cell? ⟨b, o + i * 4 + 1, none⟩ = some (.int .i64 s.key) ∧ w.cell? ⟨b, o + i * 4 + 2, none⟩ = some (.int .i64 s.val) ∧ w.cell? ⟨b, o + i * 4 + 3, none⟩ = some k ∧ IntS w k s.list
def StepS (w : World) (v : Value) (S : List Pl.StepD) : Prop := ∃ a c, v = .slice a S.length c ∧ S.length ≤ c ∧ c ≤ 9223372036854775807 ∧ Steps w a S
theorem Steps.bel {w w' : World} {a : Option Addr} {S : List Pl.StepD} (h : Steps w a S) (hb : Bel w w') : Steps w' a S := fun hn => by
  obtain ⟨b, o, ha, hc⟩ := h hn
  refine ⟨b, o, ha, fun i s hs => ?_⟩
  obtain ⟨k, c0, c1, c2, c3, hk⟩ := hc i s hs
  exact ⟨k, hb.cell c0, hb.cell c1, hb.cell c2, hb.cell c3, hk.bel hb⟩
theorem StepS.bel {w w' : World} {v : Value} {S : List Pl.StepD} (h : StepS w v S) (hb : Bel w w') : StepS w' v S := by
  obtain ⟨a, c, h1, h2, h3, h4⟩ := h
  exact ⟨a, c, h1, h2, h3, h4.bel hb⟩

abbrev AnsT := Pl.Ans × Value × Value
def ansCells (L : List AnsT) : List Value := L.flatMap fun p => [.bool p.1.ok, .int .i64 p.1.val, p.2.1, p.2.2]
theorem ansCells_append (a b : List AnsT) : ansCells (a ++ b) = ansCells a ++ ansCells b := by simp [ansCells]
theorem ansCells_at : ∀ (l : List AnsT) (i : Nat) (p : AnsT), l[i]? = some p → (ansCells l)[i * 4]? = some (.bool p.1.ok) ∧ (ansCells l)[i * 4 + 1]? = some (.int .i64 p.1.val) ∧ (ansCells l)[i * 4 + 2]? = some p.2.1 ∧ (ansCells l)[i * 4 + 3]? = some p.2.2
  | [], i, e, h => by simp at h
  | a :: r, 0, e, h => by simp at h; subst h; simp [ansCells]
  | a :: r, i + 1, e, h => by
    have := ansCells_at r i e (by simpa using h)
    have e1 : ansCells (a :: r) = .bool a.1.ok :: .int .i64 a.1.val :: a.2.1 :: a.2.2 :: ansCells r := rfl
    rw [e1, show (i + 1) * 4 = i * 4 + 1 + 1 + 1 + 1 by omega, show i * 4 + 1 + 1 + 1 + 1 + 1 = (i * 4 + 1) + 1 + 1 + 1 + 1 by omega, show i * 4 + 1 + 1 + 1 + 1 + 2 = (i * 4 + 2) + 1 + 1 + 1 + 1 by omega, show i * 4 + 1 + 1 + 1 + 1 + 3 = (i * 4 + 3) + 1 + 1 + 1 + 1 by omega]
    simpa using this

/-- The slice v reads as the answers A. -/
def AnsS (w : World) (v : Value) (A : List Pl.Ans) : Prop := ∃ a c, v = .slice a A.length c ∧ A.length ≤ c ∧ c ≤ 9223372036854775807 ∧
  (0 < A.length → ∃ b, a = some ⟨b, 0, none⟩ ∧ ∀ (i : Nat) (p : Pl.Ans), A[i]? = some p → ∃ k x, w.cell? ⟨b, i * 4, none⟩ = some (.bool p.ok) ∧ w.cell? ⟨b, i * 4 + 1, none⟩ = some (.int .i64 p.val) ∧ w.cell? ⟨b, i * 4 + 2, none⟩ = some k ∧ w.cell? ⟨b, i * 4 + 3, none⟩ = some x ∧ IntS w k p.keys ∧ IntS w x p.vals)
theorem AnsS.bel {w w' : World} {v : Value} {A : List Pl.Ans} (h : AnsS w v A) (hb : Bel w w') : AnsS w' v A := by
  obtain ⟨a, c, h1, h2, h3, h4⟩ := h
  refine ⟨a, c, h1, h2, h3, fun hn => ?_⟩
  obtain ⟨b, ha, hc⟩ := h4 hn
  refine ⟨b, ha, fun i s hs => ?_⟩
  obtain ⟨k, x, c0, c1, c2, c3, hk, hx⟩ := hc i s hs
  exact ⟨k, x, hb.cell c0, hb.cell c1, hb.cell c2, hb.cell c3, hk.bel hb, hx.bel hb⟩

theorem ansS_own {w : World} {base : Nat} {v : Value} {L : List AnsT} (h : w.ownsRow base 43 4 v L.length (ansCells L)) (hL : ∀ p ∈ L, AnsO w base p.2.1 p.2.2 p.1) : AnsS w v (L.map (·.1)) := by
  obtain ⟨a, c, rfl, h1, h2, h3⟩ := own_form h
  refine ⟨a, c, by rw [List.length_map], by rw [List.length_map]; exact h1, h2, fun hn => ?_⟩
  rw [List.length_map] at hn
  obtain ⟨g, rfl, hg⟩ := h3 hn
  refine ⟨g, rfl, fun i p hp => ?_⟩
  rw [List.getElem?_map] at hp
  obtain ⟨q, hq, rfl⟩ := Option.map_eq_some_iff.1 hp
  obtain ⟨c0, c1, c2, c3⟩ := ansCells_at L i q hq
  have ho := hL q (List.mem_of_getElem? hq)
  exact ⟨q.2.1, q.2.2, hg _ _ c0, hg _ _ c1, hg _ _ c2, hg _ _ c3, ints_own ho.1, ints_own ho.2⟩

theorem own_own_ne {w : World} {b1 b2 : Nat} {e1 e2 : TypeId} {s1 s2 n1 n2 : Nat} {v1 v2 : Value} {x1 x2 : List Value} (h1 : w.ownsRow b1 e1 s1 v1 n1 x1) (h2 : w.ownsRow b2 e2 s2 v2 n2 x2) (hne : e1 ≠ e2) : ∀ k, v1.ownBlock = some k → v2.ownBlock ≠ some k := by
  intro k hk1 hk2
  rcases h1.2 with ⟨rfl, _⟩ | ⟨g, cap, cur, rfl, _, hh, _⟩
  · simp [Value.ownBlock] at hk1
  · rcases h2.2 with ⟨rfl, _⟩ | ⟨g', cap', cur', rfl, _, hh', _⟩
    · simp [Value.ownBlock] at hk2
    · have a1 : g = k := by simpa [Value.ownBlock] using hk1
      have a2 : g' = k := by simpa [Value.ownBlock] using hk2
      subst a1 a2
      rw [hh] at hh'
      injection hh' with hh'
      injection hh' with _ ht _
      exact hne ht
/-- What is no part of a set stands behind a step of the set. -/
theorem own_step {w w' : World} {base n g gs : Nat} {vd : Value} {d : List Pl.Ent} {sp : List Int} (h : SetW w base n g gs vd d sp) (hk : Kept (foot g gs vd) w w') {b : Nat} {e : TypeId} {size m : Nat} {v : Value} {xs : List Value} (ho : w.ownsRow b e size v m xs)
    (h1 : e ≠ 140) (h2 : e ≠ 21) (h3 : e ≠ 86) : w'.ownsRow b e size v m xs := by
  refine own_kept ho hk (fun k hk' hm => ?_)
  unfold foot at hm
  rcases List.mem_cons.1 hm with rfl | hm
  · exact own_ne ho h.hg h1 hk'
  · rcases List.mem_cons.1 hm with rfl | hm
    · exact own_ne ho h.hs h2 hk'
    · have : vd.ownBlock = some k := by cases hv : vd.ownBlock <;> rw [hv] at hm <;> simp at hm; rw [hm]
      exact own_own_ne ho h.hd h3 k hk' this

/-- What stands at the head of a round. -/
structure SetRound (w : World) (n g gs : Nat) (S : List Pl.StepD) (j : Nat) (u : Value) (wr : World) (vd : Value) (sp : List Int) (L : List AnsT) : Prop where
  st : SetW wr w.heap.size n g gs vd (Pl.setAt [] (S.take j)) sp
  run : L.map (·.1) = Pl.setRun n [] (S.take j)
  own : wr.ownsRow w.heap.size 43 4 u j (ansCells L)
  ans : ∀ p ∈ L, AnsO wr w.heap.size p.2.1 p.2.2 p.1
  bel : Bel w wr

theorem SetRound.next {w w1 w2 w3 : World} {n g gs : Nat} {S : List Pl.StepD} {j : Nat} {u u1 vd : Value} {wr : World} {sp : List Int} {L : List AnsT} {s : Pl.StepD} {k x : Value} (h : SetRound w n g gs S j u wr vd sp L) (hs : S[j]? = some s) (hb : Bel wr w1)
    (hto : SetTo w1 w2 w.heap.size n g gs vd (Pl.setD (Pl.setAt [] (S.take j)) s)) (ha : AnsO w2 w.heap.size k x (Pl.setA n (Pl.setAt [] (S.take j)) s))
    (ho : w3.ownsRow w.heap.size 43 4 u1 (j + 1) (ansCells L ++ [.bool (Pl.setA n (Pl.setAt [] (S.take j)) s).ok, .int .i64 (Pl.setA n (Pl.setAt [] (S.take j)) s).val, k, x])) (hg : w2.grownBy w3 u.ownBlock) :
    ∃ vd' sp' L', SetRound w n g gs S (j + 1) u1 w3 vd' sp' L' := by
  obtain ⟨vd', sp', h1, h2, h3⟩ := hto
  have hst := h.st.bel hb
  have hu2 : w2.ownsRow w.heap.size 43 4 u j (ansCells L) := own_step hst h2 (own_bel h.own hb) (by decide) (by decide) (by decide)
  have hk23 : ∀ {b m : Nat} {v : Value} {xs : List Value}, w2.ownsRow b 2 1 v m xs → w3.ownsRow b 2 1 v m xs := fun {b m v xs} hh => by
    refine hh.kept hg ?_
    cases hv : v.ownBlock with
    | none => exact .inl rfl
    | some q => exact .inr (fun e => own_own_ne hh hu2 (by decide) q hv e.symm)
  have et : S.take (j + 1) = S.take j ++ [s] := by rw [List.take_add_one, hs]; rfl
  refine ⟨vd', sp', L ++ [(Pl.setA n (Pl.setAt [] (S.take j)) s, k, x)], ⟨?_, ?_, ?_, ?_, ?_⟩⟩
  · rw [et, setAt_append]
    refine ⟨h1.hg.grown hg (fun e => own_ne hu2 h1.hg (by decide) e.symm), h1.hs.grown hg (fun e => own_ne hu2 h1.hs (by decide) e.symm), ?_, h1.hi, h1.hz, h1.hb⟩
    refine h1.hd.kept hg ?_
    cases hv : vd'.ownBlock with
    | none => exact .inl rfl
    | some q => exact .inr (fun e => own_own_ne h1.hd hu2 (by decide) q hv e.symm)
  · rw [List.map_append, h.run, et, setRun_append]; rfl
  · rw [ansCells_append]; exact ho
  · intro p hp
    rcases List.mem_append.1 hp with hp | hp
    · have h0 := h.ans p hp
      exact ⟨hk23 (own_step hst h2 (own_bel h0.1 hb) (by decide) (by decide) (by decide)), hk23 (own_step hst h2 (own_bel h0.2 hb) (by decide) (by decide) (by decide))⟩
    · simp at hp; subst hp; exact ⟨hk23 ha.1, hk23 ha.2⟩
  · have hb2 : Bel w w2 := (h.bel.trans hb).kept h2 (fun i hi => (hst.foot_ge i hi).1)
    exact hb2.grown hg (fun k hk => (hu2.lt k hk).1)

set_option maxHeartbeats 1000000 in
theorem set_any (n : Nat) (S : List Pl.StepD) (v : Value) (w : World) (hn : n ≤ 1000000) (hv : StepS w v S) (hS : S.length ≤ 100000) (hi : ∀ s ∈ S, StepIn n s) :
    Calls Try.prog 32 #[.int .i64 n, v] w fun e w' => ∃ u, e = .returned u ∧ AnsS w' u (Pl.setRun n [] S) ∧ Bel w w' := by
  obtain ⟨a, c, rfl, hlc, hcm, hst⟩ := hv
  have HS := Lib.hid hst; clear hst
  have HI := Lib.hid hi; clear hi
  go_enter Try.func32, Try.ntmps32
  go_wp2_with fail
  refine (new_any n w hn).mono ?_
  rintro e w0 ⟨g, gs, rfl, hset, hb0⟩
  have hs0 := hb0.size
  have HR0 : Hid (SetRound w n g gs S 0 (.slice (some ⟨w0.heap.size, 0, none⟩) 0 0) (w0.alloc (.cells #[] 43)) (.slice none 0 0) (List.replicate n 0) []) :=
    Lib.hid ⟨hset.bel ((Bel.refl _).alloc _), rfl, owns_empty _ _ _ _ _ rfl hs0, by simp, hb0.alloc _⟩
  clear hset hb0
  go_wp2
  go_loopw [6, 14] (fun u i wr => ∃ j : Nat, j ≤ S.length ∧ i = .int .i64 j ∧ ∃ vd sp L, SetRound w n g gs S j u wr vd sp L) (fun _ i _ => S.length - (intOf i).toNat)
  case atStart => exact ⟨0, Nat.zero_le _, rfl, _, _, _, HR0.out⟩
  case round =>
    obtain ⟨j, hj, rfl, vd, sp, L, hR⟩ := hrel
    have HR := Lib.hid hR; clear hR HR0
    by_cases hlt : j < S.length
    · obtain ⟨b, o, rfl, hcell⟩ := HS.out (by omega)
      obtain ⟨s, hs⟩ : ∃ s, S[j]? = some s := ⟨_, List.getElem?_eq_getElem hlt⟩
      obtain ⟨sk, c0, c1, c2, c3, hk⟩ := hcell j s hs
      have d0 := HR.out.bel.cell c0
      have d1 := HR.out.bel.cell c1
      have d2 := HR.out.bel.cell c2
      have d3 := HR.out.bel.cell c3
      have HK := Lib.hid (hk.bel HR.out.bel)
      have HSJ := Lib.hid hs; clear hs
      have hbs := HR.out.bel.size
      obtain ⟨ka, kc, rfl, _, _, _⟩ := hk
      clear hcell c0 c1 c2 c3
      go_wp2_with fail
      refine (setStep_any ((HR.out.st).bel ((Bel.refl wr).alloc _)) hn ⟨_, rfl, HK.out.bel ((Bel.refl wr).alloc _)⟩ (HI.out s (List.mem_of_getElem? HSJ.out))).mono ?_
      rintro e w2 ⟨k, x, rfl, ha, hto⟩
      have HA := Lib.hid (And.intro ha hto)
      obtain ⟨k1, k2, rfl, _, _, _⟩ := own_form ha.1
      obtain ⟨x1, x2, rfl, _, _, _⟩ := own_form ha.2
      have hu2 : w2.ownsRow w.heap.size 43 4 u6 j (ansCells L) := by
        obtain ⟨vd', sp', _, hk2, _⟩ := hto
        exact own_step (HR.out.st.bel ((Bel.refl wr).alloc _)) hk2 (own_bel HR.out.own ((Bel.refl wr).alloc _)) (by decide) (by decide) (by decide)
      have hsz : w.heap.size ≤ w2.heap.size := by
        obtain ⟨vd', sp', _, hk2, _⟩ := hto
        have := hk2.size
        simp at this
        omega
      have HU2 := Lib.hid hu2
      clear ha hto hu2
      go_wp2_with (at_builtin; refine wpList_push el38 rfl (.tmp 18) (.tmp 22) rfl w.heap.size u6 j _ rfl HU2.out [_, _, _, _] w2.heap.size rfl rfl rfl (by simp [Value.oneCell']) (by omega) (by omega) hsz ?_)
      intro u1 w3 ho1 hg1 _
      obtain ⟨vd', sp', L', hR'⟩ := HR.out.next HSJ.out ((Bel.refl wr).alloc _) HA.out.2 HA.out.1 ho1 hg1
      have HR' := Lib.hid hR'
      clear ho1 hg1 hR'
      go_wp2
      go_roundw
      case rel => exact ⟨j + 1, by omega, by go_num, vd', sp', L', HR'.out⟩
      case measure => simp [intOf]; omega
    · go_wp2
      go_ret
      obtain rfl : j = S.length := by omega
      refine ⟨_, rfl, ?_, HR.out.bel⟩
      have h1 := HR.out.run
      rw [List.take_of_length_le (Nat.le_refl _)] at h1
      rw [← h1]
      have hl : L.length = S.length := by have := congrArg List.length h1; rwa [List.length_map, setRun_length] at this
      exact ansS_own (by rw [hl]; exact HR.out.own) HR.out.ans
end Go.Proofs.Ytdmjcgipfkhibaa
