/- impl.Table: the names of the files of which positions have been registered. -/
import Derived.Test.YtbekmpmfkblgnaaTable1
import Derived.Laws.AppendOwnNone
namespace Go.Proofs.Ytbekmpmfkblgnaa
open Go.RowKit Go.BigFrame

/-- The places that are in the table behind the first k positions. -/
def regK (fs : List Nat) (k : Nat) : List Nat := (fs.take k).foldl regAdd []
theorem regK_zero (fs : List Nat) : regK fs 0 = [] := by simp [regK]
theorem regK_succ (fs : List Nat) (k i : Nat) (h : fs[k]? = some i) : regK fs (k + 1) = regAdd (regK fs k) i := by
  unfold regK; rw [List.take_add_one, h]; simp

/-- The places asked for are files within the bounds. -/
def PlOk (n : Nat) (ps : List PlaceD) (fs : List Nat) : Prop := fs.length = ps.length ∧ ∀ (k : Nat) (p : PlaceD) (i : Nat), ps[k]? = some p → fs[k]? = some i → p.file = (i : Int) ∧ i < n ∧ 1 ≤ p.line ∧ p.line ≤ 1000000 ∧ 1 ≤ p.col ∧ p.col ≤ 250

/-- append of a row of the call's own onto another one. -/
theorem wpList_appr2 {t e : TypeId} {size bytes : Nat} (A : ElTy t e size bytes) (w : World) {ops : Array Oper} {rest : List Oper} {o : Oper} {a : Act} {Q : Exit → Act → World → Prop} (hgd : o.guard = none) (s x : Operand)
    (ho : o.op = .call { callee := .builtin .append, args := #[s, x], argTypes := #[t, t] })
    (base : Nat) (v : Value) (n : Nat) (xs : List Value) (hs : a.eval s = v) (hown : w.ownsRow base e size v n xs)
    (base' : Nat) (u : Value) (m : Nat) (cs : List Value) (hx : a.eval x = u) (hu : w.ownsRow base' e size u m cs) (h1 : ∀ u ∈ cs, u.oneCell' = true)
    (hbytes : (n + m) * bytes ≤ 140737488355328) (h63 : n + m ≤ 9223372036854775807) (hbase : base ≤ w.heap.size)
    (h : ∀ v' w', w'.ownsRow base e size v' (n + m) (xs ++ cs) → w.grownBy w' v.ownBlock → wpList Try.prog ops Q rest (a.put o.dst v') w') :
    wpList Try.prog ops Q (o :: rest) a w := by
  obtain ⟨i, z, hi, hz, hsz, hby, hzc⟩ := A.ex
  have hl := hu.1
  rcases hu.2 with ⟨rfl, hm⟩ | ⟨g, cap, cur, rfl, _, hh, hnc, hcm, hsz', ht⟩
  · subst hm
    have hcs : cs = [] := by
      rw [Nat.zero_mul] at hl
      exact List.length_eq_zero_iff.1 hl
    subst hcs
    refine wpList_append_own_none hgd s x t ho base e i size A.sl hi v n xs hs hown hx ?_
    exact h v w (by simpa using hown) ⟨rfl, rfl, rfl, Nat.le_refl _, fun _ _ _ => rfl⟩
  · exact wpList_append_own_at w hgd s x t ho base e i z size bytes A.sl hi hz hsz hby hzc A.pos v n xs hs hown ⟨g, 0, none⟩ m cap cs hx hl
      (fun j u' hj => hu.cells (g := g) rfl j u' hj) h1 (by simp only [maxLen]; omega) hbytes hbase (fun v' w' h2 h3 _ _ => h v' w' h2 h3)
theorem append_strs : ElTy 24 9 1 16 := ElTy.mk' (z := .string ⟨#[]⟩) Try.underlying24 (by kernel_rfl) rfl (by decide)

/-- What the registering loops keep. -/
structure RegAt (w W : World) (f : Nat) (gs : List Nat) (nms : List ByteArray) (reg S : List Nat) : Prop where
  fl : Files W f gs nms reg S
  ge : ∀ x ∈ f :: gs ++ S, w.heap.size ≤ x
  bel : Bel w W
theorem RegAt.on {w W W' : World} {f : Nat} {gs : List Nat} {nms : List ByteArray} {reg S : List Nat} (h : RegAt w W f gs nms reg S) (hb : Bel W W') : RegAt w W' f gs nms reg S := ⟨h.fl.bel hb, h.ge, h.bel.trans hb⟩
theorem RegAt.next {w W W' : World} {f : Nat} {gs : List Nat} {nms : List ByteArray} {reg reg' S S' : List Nat} (h : RegAt w W f gs nms reg S) (hF : Files W' f gs nms reg' S') (hS : ∀ x ∈ S', x ∈ S ∨ W.heap.size ≤ x) (hk : Kept (f :: gs ++ S) W W') : RegAt w W' f gs nms reg' S' := by
  refine ⟨hF, fun x hx => ?_, h.bel.kept hk h.ge⟩
  rcases List.mem_append.1 hx with hx | hx
  · exact h.ge x (List.mem_append.2 (.inl hx))
  · rcases hS x hx with hx | hx
    · exact h.ge x (List.mem_append.2 (.inr hx))
    · have := h.bel.size; omega

set_option maxRecDepth 100000 in
set_option maxHeartbeats 4000000 in
theorem table_any (a : Option Addr) (n cap : Nat) (nms : List ByteArray) (a2 : Option Addr) (m cap2 : Nat) (ps : List PlaceD) (fs : List Nat) (w : World) (h : Strs w a n nms) (hp : Places w a2 m ps) (hn : n ≤ 500) (hnd : nms.Nodup) (hm : m ≤ 100) (hok : PlOk n ps fs) :
    Calls Try.prog 25 #[.slice a n cap, .slice a2 m cap2] w fun e w' => ∃ v, e = .returned v ∧ w'.ownsRow w.heap.size 9 1 v (regK fs m).length (((regK fs m).map fun i => nms.getD i ByteArray.empty).map Value.string) ∧ Bel w w' := by
  have HH := Lib.hid h; clear h
  have HP := Lib.hid hp; clear hp
  have HOK := Lib.hid hok; clear hok
  go_enter Try.func25, Try.ntmps25
  go_wp2_with fail
  refine (newFiles_any a n cap nms _ HH.out (by omega)).mono ?_
  rintro e w1 ⟨f, gs, rfl, hnf, hb1⟩
  obtain ⟨hF, hge⟩ := hnf.files hnd (by rw [HH.out.1]; omega)
  have hgl : gs.length = n := by obtain ⟨v, h, _⟩ := hF; rw [h.2.1.1, HH.out.1]
  have HGL := Lib.hid hgl; clear hgl
  have HR0 : Hid (RegAt w w1 f gs nms (regK fs 0) []) := Lib.hid (by rw [regK_zero]; exact ⟨hF, by simpa using hge, hb1⟩)
  clear hF hge hnf hb1
  go_wp2
  go_loopw [12] (fun i wr => ∃ (k : Nat) (S : List Nat), k ≤ m ∧ i = .int .i64 k ∧ RegAt w wr f gs nms (regK fs k) S) (fun i _ => m - (intOf i).toNat)
  case atStart => exact ⟨0, _, Nat.zero_le _, rfl, HR0.out⟩
  case round =>
    obtain ⟨k, S, hk, rfl, hR⟩ := hrel
    have HR := Lib.hid hR; clear hR HR0
    by_cases hlt : k < m
    · obtain ⟨b, o, rfl, hcell⟩ := HP.out.2 (by omega)
      obtain ⟨p, hpk⟩ : ∃ e, ps[k]? = some e := ⟨_, List.getElem?_eq_getElem (by rw [HP.out.1]; exact hlt)⟩
      obtain ⟨i, hik⟩ : ∃ e, fs[k]? = some e := ⟨_, List.getElem?_eq_getElem (by rw [HOK.out.1, HP.out.1]; exact hlt)⟩
      obtain ⟨q0, q1, q2, q3, q4, q5⟩ := HOK.out.2 k p i hpk hik
      obtain ⟨c0, c1, c2, c3, c4⟩ := hcell k p hpk
      replace c0 := HR.out.bel.cell c0
      replace c1 := HR.out.bel.cell c1
      replace c2 := HR.out.bel.cell c2
      replace c3 := HR.out.bel.cell c3
      replace c4 := HR.out.bel.cell c4
      have HS := Lib.hid (regK_succ fs k i hik)
      clear hcell hpk hik
      obtain ⟨pf, pl, pc, psx, px⟩ := p
      simp only at q0 q2 q3 q4 q5 c0 c1 c2 c3 c4
      subst q0
      have HRA := Lib.hid (HR.out.on ((Bel.refl wr).alloc (.cells #[.int .i64 (i : Int), .int .i64 pl, .int .i64 pc, .int .i64 psx, .int .i64 px] 23)))
      go_wp2_with fail
      refine (at_files f gs nms (regK fs k) S i pl pc _ HRA.out.fl (by rw [HGL.out]; omega) (by omega) (by omega) (by omega) (by omega)).mono ?_
      rintro e w2 ⟨S2, rfl, hF2, hS2, hk2, _⟩
      have HR2 : Hid (RegAt w w2 f gs nms (regK fs (k + 1)) S2) := Lib.hid (by rw [HS.out]; exact HRA.out.next hF2 hS2 hk2)
      clear hF2 hS2 hk2 c0 c1 c2 c3 c4 HRA
      go_wp2
      go_roundw
      case rel => exact ⟨k + 1, S2, by omega, by go_num, HR2.out⟩
      case measure => simp [intOf]; omega
    · obtain rfl : k = m := by omega
      have hFT := fun W (hb : Bel wr W) => fileTable_any f gs nms (regK fs k) S W (HR.out.fl.bel hb)
      have HFT := Lib.hid hFT; clear hFT
      go_wp2_with fail
      refine (HFT.out _ (by first | exact Bel.refl _ | exact (Bel.refl _).alloc _)).mono ?_
      rintro e w3 ⟨v, rfl, ho, hb3⟩
      have hz := HR.out.bel.size
      have hz3 := hb3.size
      rw [World.size_alloc] at hz3
      have hO0 := own_bel (owns_empty wr w.heap.size 9 1 _ rfl hz) hb3
      have hrl : (regK fs k).length ≤ 500 := by
        obtain ⟨_, ⟨_, _, hnd', hlt', _, hle', _⟩, _⟩ := HR.out.fl
        exact Nat.le_trans (nodup_le _ _ hnd' hlt') hle'
      have hbw := (HR.out.bel.alloc (.cells #[] 9)).trans hb3
      go_wp2_with (at_builtin; refine wpList_appr2 append_strs _ rfl _ _ rfl w.heap.size _ 0 [] rfl hO0 _ _ _ _ rfl ho (by intro u hu; obtain ⟨s, _, rfl⟩ := List.mem_map.1 hu; rfl) (by omega) (by omega) (by omega) ?_)
      intro v4 w4 ho4 hg4
      have hb4 : Bel w w4 := hbw.grown hg4 (fun k hk => by have : wr.heap.size = k := by simpa [Value.ownBlock] using hk
                                                           omega)
      clear ho hO0 hg4 hbw
      go_wp2
      go_ret
      exact ⟨_, rfl, by simpa using ho4, hb4⟩
end Go.Proofs.Ytbekmpmfkblgnaa
