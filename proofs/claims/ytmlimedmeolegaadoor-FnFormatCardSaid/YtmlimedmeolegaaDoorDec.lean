/- spec.Decimal: the decimal numeral of a number that is greater than 0. -/
import Derived.Test.YtmlimedmeolegaaDoorMem
import Derived.Laws.OwnMore
import Derived.Laws.AppendOwnNone
import Derived.Laws.IdiomStrings
import Derived.Lib.ItoaNum
import Derived.Lib.ItoaMem
import Derived.Lib.Hide
namespace Go.Proofs.YtmlimedmeolegaaDoor
open Go.RowKit Go.BigFrame Go.Lib

theorem el8 : ElTy 28 5 1 1 := ElTy.mk' (z := .int .u8 0) Tryd.underlying28 (by kernel_rfl) rfl (by decide)
theorem wpList_appr {t e : TypeId} {size bytes : Nat} (A : ElTy t e size bytes) (w : World) {ops : Array Oper} {rest : List Oper} {o : Oper} {a : Act} {Q : Exit → Act → World → Prop} (hgd : o.guard = none) (s x : Operand)
    (ho : o.op = .call { callee := .builtin .append, args := #[s, x], argTypes := #[t, t] })
    (base : Nat) (v : Value) (n : Nat) (xs : List Value) (hs : a.eval s = v) (hown : w.ownsRow base e size v n xs)
    (base' : Nat) (u : Value) (m : Nat) (cs : List Value) (hx : a.eval x = u) (hu : w.ownsRow base' e size u m cs) (h1 : ∀ u ∈ cs, u.oneCell' = true)
    (hbytes : (n + m) * bytes ≤ 140737488355328) (h63 : n + m ≤ 9223372036854775807) (hbase : base ≤ w.heap.size)
    (h : ∀ v' w', w'.ownsRow base e size v' (n + m) (xs ++ cs) → w.grownBy w' v.ownBlock → wpList Tryd.prog ops Q rest (a.put o.dst v') w') :
    wpList Tryd.prog ops Q (o :: rest) a w := by
  obtain ⟨i, z, hi, hz, hsz, hby, hzc⟩ := A.ex
  have hl := hu.1
  rcases hu.2 with ⟨rfl, hm⟩ | ⟨g, cap, cur, rfl, _, hh, hnc, hcm, hsz', ht⟩
  · subst hm
    have hcs : cs = [] := by
      rw [Nat.zero_mul] at hl
      exact List.length_eq_zero_iff.1 hl
    subst hcs
    refine wpList_append_own_none hgd s x t ho base e i size A.sl hi v n xs hs hown hx ?_
    exact h v w (by simpa using hown) ⟨rfl, rfl, rfl, Nat.le_refl _, fun _ _ _ => rfl⟩
  · exact wpList_append_own_at w hgd s x t ho base e i z size bytes A.sl hi hz hsz hby hzc A.pos v n xs hs hown ⟨g, 0, none⟩ m cap cs hx hl
      (fun j u' hj => hu.cells (g := g) rfl j u' hj) h1 (by simp only [maxLen]; omega) hbytes hbase (fun v' w' h2 h3 _ _ => h v' w' h2 h3)

/-- The last digit. -/
def lastD (m : Nat) : UInt8 := UInt8.ofNat (48 + m % 10)
theorem decDigits_step (m : Nat) : decDigits m = (if m < 10 then [] else decDigits (m / 10)) ++ [lastD m] := by
  by_cases h1 : m < 10
  · rw [decDigits, dif_pos h1, if_pos h1, List.nil_append, lastD, Nat.mod_eq_of_lt h1]
  · rw [decDigits, dif_neg h1, if_neg h1, lastD]
/-- What the loop keeps: the digits that are still due, then those that are laid. -/
structure DecI (u m : Nat) (L : List UInt8) : Prop where
  le : m ≤ u
  go : 0 < m → decDigits u = decDigits m ++ L
  stop : m = 0 → L = decDigits u
  len : L.length ≤ 20
theorem byteCells_one (L : List UInt8) : ∀ v ∈ byteCells L, v.oneCell' = true := by
  intro v hv
  unfold byteCells at hv
  obtain ⟨c, _, rfl⟩ := List.mem_map.1 hv
  rfl
theorem DecI.step {u m : Nat} {L : List UInt8} (h : DecI u m L) (hu : nDigits u ≤ 20) (hm : 0 < m) : DecI u (m / 10) (lastD m :: L) := by
  have hg := h.go hm
  rw [decDigits_step m] at hg
  have hlen : (lastD m :: L).length ≤ nDigits u := by
    rw [← decDigits_length, hg, List.length_append, List.length_append, List.length_cons, List.length_cons, List.length_nil]
    omega
  refine ⟨by have := h.le; omega, fun h1 => ?_, fun h1 => ?_, by omega⟩
  · rw [hg, if_neg (by omega)]
    simp
  · rw [hg, if_pos (by omega)]
    simp
theorem digit_cell (m : Nat) : Value.int .u8 (48 + ((m % 10 : Nat) : Int)) = Value.int .u8 (((lastD m).toNat : Nat) : Int) := by
  have : (lastD m).toNat = 48 + m % 10 := by
    unfold lastD
    simp only [UInt8.toNat_ofNat']
    omega
  rw [this]
  simp

set_option maxRecDepth 100000 in
set_option maxHeartbeats 4000000 in
theorem decimal_any (u : Nat) (h1 : 1 ≤ u) (hu : u ≤ 1000000) (w : World) :
    Calls Tryd.prog 5 #[.int .i64 u] w fun e w' => e = .returned (.string ⟨(Lib.decDigits u).toArray⟩) ∧ Bel w w' := by
  have hnd20 : Lib.nDigits u ≤ 20 := by have := Lib.numDigits_eq u h1 (by omega); split at this <;> omega
  have H0 : Hid (DecI u u [] ∧ (w.alloc (.cells #[] 5)).ownsRow w.heap.size 5 1 (.slice (some ⟨w.heap.size, 0, none⟩) 0 0) 0 (byteCells []) ∧ Bel w (w.alloc (.cells #[] 5))) := Lib.hid
    ⟨⟨Nat.le_refl _, fun _ => by simp, fun h => by omega, by simp⟩, owns_empty w w.heap.size _ 1 _ rfl (Nat.le_refl _), (Bel.refl w).alloc _⟩
  have HND := Lib.hid hnd20; clear hnd20
  go_enter Tryd.func5, Tryd.ntmps5
  go_wp2
  generalize w.alloc (.cells #[] 5) = w0 at H0 ⊢
  go_loopw [0, 3] (fun n v wr => ∃ (m : Nat) (L : List UInt8), n = .int .i64 m ∧ DecI u m L ∧ wr.ownsRow w.heap.size 5 1 v L.length (byteCells L) ∧ Bel w wr) (fun n _ _ => (intOf n).toNat)
  case atStart => exact ⟨u, [], rfl, H0.out⟩
  case round =>
    obtain ⟨m, L, rfl, hI, hO, hbel⟩ := hrel
    have HI := Lib.hid (And.intro hI (And.intro hO hbel))
    have hmu := hI.le
    have hl20 := hI.len
    have hO2 := hO
    clear hI hO hbel H0
    by_cases hm : 0 < m
    · have e1 : ((m : Int)).tmod 10 = ((m % 10 : Nat) : Int) := by rw [Int.tmod_eq_emod_of_nonneg (by omega)]; omega
      have e2 : ((m : Int)).tdiv 10 = ((m / 10 : Nat) : Int) := by rw [Int.tdiv_eq_ediv_of_nonneg (by omega)]; omega
      have hd : Value.int .u8 (48 + (m : Int) % 10) = Value.int .u8 (((lastD m).toNat : Nat) : Int) := by
        rw [← digit_cell]; congr 1
      have hlit : (wr.alloc (.cells #[.int .u8 (48 + (m : Int) % 10)] 5)).ownsRow wr.heap.size 5 1 (.slice (some ⟨wr.heap.size, 0, none⟩) 1 1) 1 (byteCells [lastD m]) := by
        rw [show byteCells [lastD m] = [Value.int .u8 (48 + (m : Int) % 10)] by rw [hd]; rfl]
        exact World.ownsRow_lit wr #[.int .u8 (48 + (m : Int) % 10)] 1 (Nat.le_refl _) (by simp [maxLen]) rfl
      have hoa : (wr.alloc (.cells #[.int .u8 (48 + (m : Int) % 10)] 5)).ownsRow w.heap.size 5 1 u3 L.length (byteCells L) := own_bel HI.out.2.1 ((Bel.refl wr).alloc _)
      have hba : Bel w (wr.alloc (.cells #[.int .u8 (48 + (m : Int) % 10)] 5)) := HI.out.2.2.alloc _
      have hwr := HI.out.2.2.size
      have HA := Lib.hid (And.intro hlit (And.intro hoa hba))
      obtain ⟨xa, xc, rfl, _, _, _⟩ := own_form hO2
      clear hlit hoa hba hd hO2
      go_wp2_with (at_builtin; refine wpList_appr el8 _ rfl _ _ rfl wr.heap.size _ 1 _ rfl HA.out.1 w.heap.size _ L.length _ rfl HA.out.2.1 (byteCells_one L) (by omega) (by omega) (by simp) ?_)
      intro v' w' ho hg
      have HN : Hid (w'.ownsRow w.heap.size 5 1 v' (lastD m :: L).length (byteCells (lastD m :: L)) ∧ Bel w w') := Lib.hid (by
        refine ⟨?_, HA.out.2.2.grown hg (fun k hk => by have := (HA.out.1.lt k hk).1; omega)⟩
        rw [List.length_cons, Nat.add_comm]
        exact own_base ho (fun k hk => by have := (ho.lt k hk).1; omega))
      clear ho hg HA
      go_wp2
      go_roundw
      case rel => exact ⟨m / 10, _, by go_num, HI.out.1.step HND.out hm, HN.out⟩
      case measure => simp [intOf]; omega
    · have hm0 : m = 0 := by omega
      subst hm0
      have hL := HI.out.1.stop rfl
      have hpos : 0 < L.length := by rw [hL, decDigits_length]; exact nDigits_pos u
      rcases hO2.2 with ⟨_, h0⟩ | ⟨g, cap, cur, rfl, _, _, _, _, _, _⟩
      · omega
      have hcv := run_convert_bytes_back (P := Tryd.prog) wr 28 9 5 ⟨g, 0, none⟩ cap L Tryd.underlying28 Tryd.underlying5 Tryd.underlying9 (fun j hj => hO2.cells (g := g) rfl j _ (by simp [byteCells, hj]))
      have HL := Lib.hid hL
      clear hL hO2
      have hne : ((L.length : Int) == 0) = false := by rw [beq_eq_false_iff_ne]; omega
      go_wp2
      go_ret
      exact ⟨by rw [HL.out]; rfl, HI.out.2.2⟩
end Go.Proofs.YtmlimedmeolegaaDoor
