/- The walk of FnTable. -/
import Derived.Test.YtbekmpmfkblgnaaTable2
namespace Go.Proofs.Ytbekmpmfkblgnaa
open Go.RowKit Go.BigFrame

/-- How often a name stands in a list. -/
def cntS (s : ByteArray) (l : List ByteArray) : Nat := (l.filter fun x => decide (s = x)).length
theorem cntS_snoc (s x : ByteArray) (l : List ByteArray) : cntS s (l ++ [x]) = cntS s l + if s = x then 1 else 0 := by
  unfold cntS
  rw [List.filter_append, List.length_append]
  by_cases h : s = x <;> simp [h]
theorem cntS_names {nms : List ByteArray} (hn : nms.Nodup) {j : Nat} {s : ByteArray} (hj : nms[j]? = some s) : ∀ (reg : List Nat), reg.Nodup → (∀ i ∈ reg, i < nms.length) → cntS s (reg.map fun i => nms.getD i ByteArray.empty) = if j ∈ reg then 1 else 0
  | [], _, _ => rfl
  | i :: reg, hnd, hlt => by
    have ih := cntS_names hn hj reg (List.nodup_cons.1 hnd).2 (fun x hx => hlt x (by simp [hx]))
    have hi := hlt i (by simp)
    have hs : (s = nms.getD i ByteArray.empty) ↔ j = i := by
      constructor
      · intro e
        have h1 := getD_some ByteArray.empty hi
        rw [← e] at h1
        obtain ⟨a1, b1⟩ := List.getElem?_eq_some_iff.1 hj
        obtain ⟨a2, b2⟩ := List.getElem?_eq_some_iff.1 h1
        exact (List.getElem_inj hn).1 (b1.trans b2.symm)
      · rintro rfl
        rw [List.getD_eq_getElem?_getD, hj]; rfl
    unfold cntS at ih ⊢
    rw [List.map_cons, List.filter_cons]
    by_cases e : j = i
    · subst e
      have hni : j ∉ reg := (List.nodup_cons.1 hnd).1
      rw [if_neg hni] at ih
      rw [if_pos (by simpa using hs.2 rfl), List.length_cons, ih]
      simp
    · have hsn : ¬ s = nms.getD i ByteArray.empty := fun h => e (hs.1 h)
      have e2 : (j ∈ i :: reg) ↔ j ∈ reg := by simp [e]
      rw [if_neg (by simpa using hsn), ih]
      by_cases h2 : j ∈ reg <;> simp [h2, e]

theorem cntS_le (s : ByteArray) (l : List ByteArray) : cntS s l ≤ l.length := List.length_filter_le _ _
theorem regAdd_le (reg : List Nat) (i : Nat) : (regAdd reg i).length ≤ reg.length + 1 := by unfold regAdd; split <;> simp
theorem regAdd_nodup {reg : List Nat} {i : Nat} (h : reg.Nodup) : (regAdd reg i).Nodup := by
  unfold regAdd
  split
  · exact h
  · rw [List.nodup_append]
    refine ⟨h, by simp, fun x hx y hy => ?_⟩
    simp at hy
    subst hy
    rintro rfl
    contradiction
theorem regAdd_lt {reg : List Nat} {i n : Nat} (h : ∀ x ∈ reg, x < n) (hi : i < n) : ∀ x ∈ regAdd reg i, x < n := by
  unfold regAdd
  split
  · exact h
  · intro x hx
    rcases List.mem_append.1 hx with hx | hx
    · exact h x hx
    · simp at hx; omega
theorem regK_ok (fs : List Nat) (n : Nat) (hf : ∀ i ∈ fs, i < n) : ∀ k, k ≤ fs.length → (regK fs k).length ≤ k ∧ (regK fs k).Nodup ∧ ∀ x ∈ regK fs k, x < n
  | 0, _ => by rw [regK_zero]; simp
  | k + 1, hk => by
    obtain ⟨h1, h2, h3⟩ := regK_ok fs n hf k (by omega)
    have hg := List.getElem?_eq_getElem (show k < fs.length by omega)
    rw [regK_succ fs k _ hg]
    refine ⟨?_, regAdd_nodup h2, regAdd_lt h3 (hf _ (List.getElem_mem _))⟩
    have := regAdd_le (regK fs k) fs[k]
    omega
theorem regK_le (fs : List Nat) : ∀ k, (regK fs k).length ≤ k
  | 0 => by rw [regK_zero]; simp
  | k + 1 => by
    have h1 := regK_le fs k
    by_cases hk : k < fs.length
    · rw [regK_succ fs k _ (List.getElem?_eq_getElem hk)]
      have := regAdd_le (regK fs k) fs[k]
      omega
    · have : regK fs (k + 1) = regK fs k := by unfold regK; rw [List.take_of_length_le (by omega), List.take_of_length_le (by omega)]
      rw [this]; omega

def usedCells (n : Nat) (reg : List Nat) : List Value := (List.range n).map fun j => .bool (decide (j ∈ reg))
theorem usedCells_at {n j : Nat} (reg : List Nat) (h : j < n) : (usedCells n reg)[j]? = some (.bool (decide (j ∈ reg))) := by
  unfold usedCells; rw [List.getElem?_map, List.getElem?_range h]; rfl
theorem usedCells_add {n i : Nat} {reg : List Nat} (h : i ∉ reg) : (usedCells n reg).set i (.bool true) = usedCells n (regAdd reg i) := by
  unfold regAdd
  rw [if_neg h]
  apply List.ext_getElem?
  intro j
  rw [List.getElem?_set]
  by_cases hj : j < n
  · rw [usedCells_at _ hj, usedCells_at _ hj]
    have : (usedCells n reg).length = n := by simp [usedCells]
    by_cases e : i = j
    · subst e; simp [this, hj]
    · simp [e, Ne.symm e]
  · have h1 : ∀ r, (usedCells n r).length = n := fun r => by simp [usedCells]
    rw [List.getElem?_eq_none (by rw [h1]; omega), List.getElem?_eq_none (by rw [h1]; omega)]
    by_cases e : i = j
    · subst e; simp [h1, hj]
    · simp [e]
theorem elBool : ∃ i, Try.prog.info? 4 = some i ∧ i.zero = some (.bool false) ∧ i.size = 1 ∧ i.bytes = 1 := info_parts (by kernel_rfl)
theorem made_bool (n : Nat) : (madeCells (Value.bool false).cells (n * 1)).toList = usedCells n [] := by
  show (madeCells #[Value.bool false] (n * 1)).toList = _
  rw [Nat.mul_one]
  unfold usedCells
  apply List.ext_getElem?
  intro i
  by_cases h : i < n <;> simp [madeCells, h, Nat.mod_one]
theorem blk_full {w : World} {base : Nat} {e : TypeId} {g n : Nat} {xs : List Value} (h : w.ownsRow base e 1 (.slice (some ⟨g, 0, none⟩) n n) n xs) : Blk w g e xs := by
  obtain ⟨hl, h | ⟨g', cap', cur, hv, hb, hh, hn, hc, hs, ht⟩⟩ := h
  · cases h.1
  · injection hv with h1 h2 h3
    injection h1 with h1
    injection h1 with h1 _ _
    subst h1 h3
    unfold Blk
    rw [hh, ← ht, List.take_of_length_le (by simp; omega)]

/-- What the law keeps: which files have been used. -/
structure TabSt (w W : World) (g n : Nat) (reg : List Nat) : Prop where
  us : Blk W g 4 (usedCells n reg)
  bel : Bel w W
  ge : w.heap.size ≤ g
theorem TabSt.on {w W W' : World} {g n : Nat} {reg : List Nat} (h : TabSt w W g n reg) (hb : Bel W W') : TabSt w W' g n reg := ⟨h.us.bel hb, h.bel.trans hb, h.ge⟩
theorem TabSt.put {w W : World} {g n : Nat} {reg : List Nat} (h : TabSt w W g n reg) {i : Nat} (hi : i ∉ reg) : TabSt w (W.setCell ⟨g, i, none⟩ (.bool true)) g n (regAdd reg i) :=
  ⟨by rw [← usedCells_add hi]; exact h.us.set i _, Below.setCell h.bel (p := ⟨g, i, none⟩) h.ge _, h.ge⟩

def filesOf (ps : List PlaceD) : List Nat := ps.map fun p => p.file.toNat
theorem plOk_all {n : Nat} {ps : List PlaceD} (h : ∀ p ∈ ps, placedB p n = true) : PlOk n ps (filesOf ps) := by
  refine ⟨by simp [filesOf], fun k p i hp hi => ?_⟩
  obtain ⟨a0, a1, a2, a3, a4, a5⟩ := placedB_true (h p (List.mem_of_getElem? hp))
  unfold filesOf at hi
  rw [List.getElem?_map, hp] at hi
  have e : p.file.toNat = i := by simpa using hi
  exact ⟨by omega, by omega, a2, a3, a4, a5⟩

set_option maxRecDepth 100000 in
set_option maxHeartbeats 8000000 in
theorem law_FnTable (w : World) (a : Option Addr) (n cap : Nat) (ss : List ByteArray) (h : Strs w a n ss) (nc : n ≤ cap) (cm : cap ≤ maxLen) (_zb : ∀ s ∈ ss, s.size ≤ maxLen) (a2 : Option Addr) (m cap2 : Nat) (ps : List PlaceD) (hp : Places w a2 m ps) (_nc2 : m ≤ cap2) (_cm2 : cap2 ≤ maxLen) :
    Calls Try.prog 7 #[.slice a n cap, .slice a2 m cap2] w fun e w' => e = .returned (.bool true) ∧ Bel w w' := by
  have HH := Lib.hid h; clear h
  have HP := Lib.hid hp; clear hp
  unfold maxLen at cm _cm2
  go_enter Try.func7, Try.ntmps7
  go_wp2_with fail
  refine (fits3_any a n cap ss _ HH.out (by omega)).mono ?_
  rintro e w1 ⟨b1, rfl, hb1⟩
  cases b1
  · go_wp2
    go_ret
    exact ⟨rfl, hb1⟩
  by_cases hm0 : (2147483647 : Int) < (m : Int)
  · go_wp2
    go_ret
    exact ⟨rfl, hb1⟩
  go_wp2_with fail
  refine (names_any a n cap ss _ (HH.out.bel hb1) ⟨nc, by omega⟩).mono ?_
  rintro e w2 ⟨b2, rfl, hQ, hb2⟩
  have hb12 := hb1.trans hb2
  clear hb1 hb2
  cases b2
  · clear hQ
    go_wp2
    go_ret
    exact ⟨rfl, hb12⟩
  have HNM := Lib.hid (hQ rfl); clear hQ
  by_cases hm1 : (100 : Int) < (m : Int)
  · go_wp2
    go_ret
    exact ⟨rfl, hb12⟩
  have hn8 := HNM.out.1
  obtain ⟨i0, hi, hz0, hz1, hz2⟩ := elBool
  have HI := Lib.hid hi; clear hi
  have HZ0 := Lib.hid hz0; clear hz0
  have HZ1 := Lib.hid hz1; clear hz1
  have HZ2 := Lib.hid hz2; clear hz2
  go_wp2_with (refine wpList_make_full _ rfl (.tmp 32) (.tmp 32) 41 rfl w2.heap.size 4 i0 (.bool false) 1 Try.underlying41 HI.out HZ0.out HZ1.out .i64 .i64 n n n rfl rfl rfl rfl (by rw [HZ2.out]; omega) (by unfold maxLen; omega) (Nat.le_refl _) ?_; intro w3 ho3 hg3; refine Hid.out ?_)
  refine Lib.hid ?_
  rw [made_bool] at ho3
  have hz2 := hb12.size
  have HST : Hid (TabSt w w3 w2.heap.size n (regK (filesOf ps) 0)) := Lib.hid (by rw [regK_zero]; exact ⟨blk_full ho3, hb12.grown hg3 (by simp), hz2⟩)
  clear ho3 hg3 hb12 hz2
  go_wp2
  generalize w2.heap.size = g at HST ⊢
  go_loopw [6, 36] (fun c i wr => ∃ k : Nat, k ≤ m ∧ i = .int .i64 k ∧ c = .int .i64 (regK (filesOf ps) k).length ∧ (∀ p ∈ ps.take k, placedB p n = true) ∧ TabSt w wr g n (regK (filesOf ps) k)) (fun _ i _ => m - (intOf i).toNat)
  case atStart => exact ⟨0, Nat.zero_le _, rfl, by rw [regK_zero]; rfl, by simp, HST.out⟩
  case round =>
    obtain ⟨k, hk, rfl, rfl, hall, hS⟩ := hrel
    have HS := Lib.hid hS; clear hS HST
    have HAL := Lib.hid hall; clear hall
    by_cases hlt : k < m
    · obtain ⟨b, o, rfl, hcell⟩ := HP.out.2 (by omega)
      obtain ⟨p, hpk⟩ : ∃ e, ps[k]? = some e := ⟨_, List.getElem?_eq_getElem (by rw [HP.out.1]; exact hlt)⟩
      obtain ⟨c0, c1, c2, c3, c4⟩ := hcell k p hpk
      replace c0 := HS.out.bel.cell c0
      replace c1 := HS.out.bel.cell c1
      replace c2 := HS.out.bel.cell c2
      replace c3 := HS.out.bel.cell c3
      replace c4 := HS.out.bel.cell c4
      have HTK : Hid (ps.take (k + 1) = ps.take k ++ [p]) := Lib.hid (by rw [List.take_add_one, hpk]; rfl)
      have HFK : Hid ((filesOf ps)[k]? = some p.file.toNat) := Lib.hid (by unfold filesOf; rw [List.getElem?_map, hpk]; rfl)
      clear hcell hpk
      have HPL := Lib.hid (fun W => placed_any p n W)
      cases hpl : placedB p n
      · rw [hpl] at HPL
        have hbw := HS.out.bel
        obtain ⟨pf, pl, pc, psx, px⟩ := p
        simp only at c0 c1 c2 c3 c4
        go_wp2_with fail
        refine (HPL.out _).mono ?_
        rintro e w4 ⟨rfl, hb4⟩
        have hbw4 := (hbw.alloc _).trans hb4
        go_wp2
        go_ret
        exact ⟨rfl, hbw4⟩
      rw [hpl] at HPL
      obtain ⟨q0, q1, _, _, _, _⟩ := placedB_true hpl
      obtain ⟨i, hi⟩ := Int.eq_ofNat_of_zero_le q0
      have HPB := Lib.hid hpl; clear hpl
      rw [hi, Int.toNat_natCast] at HFK
      have HSU := Lib.hid (regK_succ _ _ _ HFK.out)
      obtain ⟨pf, pl, pc, psx, px⟩ := p
      simp only at c0 c1 c2 c3 c4 q0 q1 hi
      subst hi
      have HS1 := Lib.hid (HS.out.on ((Bel.refl wr).alloc (.cells #[.int .i64 (i : Int), .int .i64 pl, .int .i64 pc, .int .i64 psx, .int .i64 px] 23)))
      have hB := PBox.new wr ⟨i, pl, pc, psx, px⟩ _ rfl
      have HB := Lib.hid hB; clear hB
      go_wp2_with fail
      refine (HPL.out _).mono ?_
      rintro e w4 ⟨rfl, hb4⟩
      have HS4 := Lib.hid (HS1.out.on hb4)
      obtain ⟨d0, d1, d2, d3, d4⟩ := (HB.out.bel hb4).all
      clear hb4 HS1 HB HPL c0 c1 c2 c3 c4
      have hin : i < n := by omega
      have HAL2 : Hid (∀ p ∈ ps.take (k + 1), placedB p n = true) := Lib.hid (by
        rw [HTK.out]; intro x hx
        rcases List.mem_append.1 hx with hx | hx
        · exact HAL.out x hx
        · simp at hx; rw [hx]; exact HPB.out)
      have j0 : (0 : Int) ≤ (i : Int) := by omega
      have j1 : (i : Int) < (n : Int) := by omega
      by_cases hmem : i ∈ regK (filesOf ps) k
      · have hu : w4.cell? ⟨g, i, none⟩ = some (.bool true) := by rw [HS4.out.us.cell i, usedCells_at _ hin]; simp [hmem]
        have HRA : Hid (regK (filesOf ps) (k + 1) = regK (filesOf ps) k) := Lib.hid (by rw [HSU.out]; simp [regAdd, hmem])
        clear hmem
        go_wp2
        go_roundw
        case rel => exact ⟨k + 1, by omega, by go_num, by rw [HRA.out], HAL2.out, by rw [HRA.out]; exact HS4.out⟩
        case measure => simp [intOf]; omega
      · have hu : w4.cell? ⟨g, i, none⟩ = some (.bool false) := by rw [HS4.out.us.cell i, usedCells_at _ hin]; simp [hmem]
        have fu : w4.frozen? ⟨g, i, none⟩ = false := HS4.out.us.frozen i
        have HS5 : Hid (TabSt w (w4.setCell ⟨g, i, none⟩ (.bool true)) g n (regK (filesOf ps) (k + 1))) := Lib.hid (by rw [HSU.out]; exact HS4.out.put hmem)
        have HRL : Hid ((regK (filesOf ps) (k + 1)).length = (regK (filesOf ps) k).length + 1) := Lib.hid (by rw [HSU.out]; simp [regAdd, hmem])
        have hgb : g ≠ wr.heap.size := fun e => by
          have h1 := HS.out.us.lt
          omega
        have hrl : (regK (filesOf ps) k).length ≤ 100 := by have := regK_le (filesOf ps) k; omega
        clear hmem
        go_wp2
        go_roundw
        case rel => exact ⟨k + 1, by omega, by go_num, by rw [HRL.out]; go_num, HAL2.out, HS5.out⟩
        case measure => simp [intOf]; omega
    · obtain rfl : k = m := by omega
      have hall := HAL.out
      rw [List.take_of_length_le (by rw [HP.out.1]; omega)] at hall
      have hok := plOk_all hall
      have hfl : ∀ i ∈ filesOf ps, i < n := fun i hi => by
        obtain ⟨q, hq⟩ := List.getElem?_of_mem hi
        obtain ⟨x, hx⟩ : ∃ x, ps[q]? = some x := by
          unfold filesOf at hq
          rw [List.getElem?_map] at hq
          obtain ⟨x, hx, _⟩ := Option.map_eq_some_iff.1 hq
          exact ⟨x, hx⟩
        exact (hok.2 q x i hx hq).2.1
      obtain ⟨r1, r2, r3⟩ := regK_ok (filesOf ps) n hfl k (by simp [filesOf]; rw [HP.out.1]; omega)
      have HCN := Lib.hid (fun j s (hj : ss[j]? = some s) => cntS_names HNM.out.2.1 hj (regK (filesOf ps) k) r2 (fun i hi => by rw [HH.out.1]; exact r3 i hi))
      have HTB := Lib.hid (table_any a n cap ss a2 k cap2 ps (filesOf ps) wr (HH.out.bel HS.out.bel) (HP.out.bel HS.out.bel) (by omega) HNM.out.2.1 (by omega) hok)
      clear hall hok hfl r2 r3 HAL
      go_wp2_with fail
      refine HTB.out.mono ?_
      rintro e w5 ⟨v, rfl, ho, hb5⟩
      have HS5 := Lib.hid (HS.out.on hb5)
      obtain ⟨av, cv, rfl, _, _, hrow⟩ := own_form ho
      have hNL : ((regK (filesOf ps) k).map fun i => ss.getD i ByteArray.empty).length = (regK (filesOf ps) k).length := by simp
      generalize ((regK (filesOf ps) k).map fun i => ss.getD i ByteArray.empty) = NM at hrow hNL HCN
      generalize regK (filesOf ps) k = reg at hrow hNL HCN HS5 r1 ⊢
      have HROW := Lib.hid hrow
      have HNL := Lib.hid hNL
      clear hrow hNL ho hb5 HTB HS
      obtain ⟨sb, so, rfl, hcs⟩ := HH.out.2 (by omega)
      have HCS := Lib.hid hcs; clear hcs
      have hl1 : (((reg.length : Nat) : Int) == ((reg.length : Nat) : Int)) = true := by simp
      go_wp2
      go_loopw [67] (fun i wq => ∃ j : Nat, j ≤ n ∧ i = .int .i64 j ∧ wq = w5) (fun i _ => n - (intOf i).toNat)
      case atStart => exact ⟨0, Nat.zero_le _, rfl, rfl⟩
      case round =>
        obtain ⟨j, hj, rfl, hwq⟩ := hrel
        have hwq := hwq.symm
        subst hwq
        by_cases hlj : j < n
        · obtain ⟨s, hs⟩ : ∃ e, ss[j]? = some e := ⟨_, List.getElem?_eq_getElem (by rw [HH.out.1]; exact hlj)⟩
          have hc0 := HS5.out.bel.cell (HCS.out j s hs)
          have HCJ := Lib.hid (HCN.out j s hs)
          have hu := HS5.out.us.cell j
          rw [usedCells_at _ hlj] at hu
          clear hs
          go_wp2
          go_loopw [12, 74] (fun t i wq => ∃ k2 : Nat, k2 ≤ reg.length ∧ i = .int .i64 k2 ∧ t = .int .i64 (cntS s (NM.take k2)) ∧ wq = w5) (fun _ i _ => reg.length - (intOf i).toNat)
          case atStart => exact ⟨0, Nat.zero_le _, rfl, rfl, rfl⟩
          case round =>
            obtain ⟨k2, hk2, rfl, rfl, hwq⟩ := hrel
            have hwq := hwq.symm
            subst hwq
            have hcl : cntS s (NM.take k2) ≤ 100 := by have := cntS_le s (NM.take k2); rw [List.length_take] at this; omega
            by_cases hl2 : k2 < reg.length
            · obtain ⟨ga, rfl, hcg⟩ := HROW.out (by omega)
              obtain ⟨x, hx⟩ : ∃ e, NM[k2]? = some e := ⟨_, List.getElem?_eq_getElem (by rw [HNL.out]; exact hl2)⟩
              have hc1 := hcg k2 (.string x) (by rw [List.getElem?_map, hx]; rfl)
              have HT1 : Hid (cntS s (NM.take (k2 + 1)) = cntS s (NM.take k2) + if s = x then 1 else 0) := Lib.hid (by rw [List.take_add_one, hx]; exact cntS_snoc s x _)
              clear hcg hx
              by_cases he : s = x
              · have d2 : (s.toList == x.toList) = true := by rw [beq_str]; simpa using he
                have HT2 : Hid (cntS s (NM.take (k2 + 1)) = cntS s (NM.take k2) + 1) := Lib.hid (by rw [HT1.out, if_pos he])
                clear he
                go_wp2
                go_roundw
                case rel => exact ⟨k2 + 1, by omega, by go_num, by rw [HT2.out]; go_num, trivial⟩
                case measure => simp [intOf]; omega
              · have d2 : (s.toList == x.toList) = false := by rw [beq_str]; simpa using he
                have HT2 : Hid (cntS s (NM.take (k2 + 1)) = cntS s (NM.take k2)) := Lib.hid (by rw [HT1.out, if_neg he]; rfl)
                clear he
                go_wp2
                go_roundw
                case rel => exact ⟨k2 + 1, by omega, by go_num, by rw [HT2.out], trivial⟩
                case measure => simp [intOf]; omega
            · obtain rfl : k2 = reg.length := by omega
              have hct := HCJ.out
              rw [show NM.take reg.length = NM from List.take_of_length_le (by rw [HNL.out]; exact Nat.le_refl _)] at hcl ⊢
              have i0 : (0 : Int) ≤ (j : Int) := by omega
              have i1 : (j : Int) < (n : Int) := by omega
              by_cases hm : j ∈ reg
              · rw [if_pos hm] at hct
                rw [decide_eq_true hm] at hu
                rw [hct] at hcl ⊢
                clear hct hm
                go_wp2
                go_roundw
                case rel => exact ⟨j + 1, by omega, by go_num, trivial⟩
                case measure => simp [intOf]; omega
              · rw [if_neg hm] at hct
                rw [decide_eq_false hm] at hu
                rw [hct] at hcl ⊢
                clear hct hm
                go_wp2
                go_roundw
                case rel => exact ⟨j + 1, by omega, by go_num, trivial⟩
                case measure => simp [intOf]; omega
        · go_wp2
          go_ret
          exact ⟨rfl, HS5.out.bel⟩
end Go.Proofs.Ytbekmpmfkblgnaa
