/- Names of files: the laws' bounds; which of two positions in full comes first. -/
import Derived.Test.YtbekmpmfkblgnaaPosP
import Derived.Test.YtbekmpmfkblgnaaRel
namespace Go.Proofs.Ytbekmpmfkblgnaa
open Go.RowKit Go.BigFrame

/-- The order of texts. -/
def strLt (a b : ByteArray) : Bool := Op.bytesLess a.toList b.toList
theorem str_ext {a b : ByteArray} (h : a.toList = b.toList) : a = b := by
  have h' : a.data.toList = b.data.toList := by simpa [ByteArray.toList_eq] using h
  cases a; cases b; simpa using h'
theorem bytesLess_total : ∀ (x y : List UInt8), (!(Op.bytesLess x y || x == y)) = Op.bytesLess y x
  | [], [] => rfl
  | [], b :: y => rfl
  | a :: x, [] => rfl
  | a :: x, b :: y => by
    have ih := bytesLess_total x y
    by_cases h1 : a < b
    · have h2 : ¬ b < a := fun h => absurd (UInt8.lt_trans h1 h) (UInt8.lt_irrefl _)
      have h3 : ¬ b = a := fun h => UInt8.lt_irrefl _ (h ▸ h1)
      simp [Op.bytesLess, h1, h2, h3]
    · by_cases h2 : b < a
      · have h3 : ¬ a = b := fun h => UInt8.lt_irrefl _ (h ▸ h2)
        simp [Op.bytesLess, h1, h2, h3]
      · have h3 : a = b := UInt8.le_antisymm (UInt8.not_lt.1 h2) (UInt8.not_lt.1 h1)
        subst h3
        simp [Op.bytesLess]
        simpa using ih
theorem strLt_swap {a b : ByteArray} (h : a ≠ b) : strLt b a = !strLt a b := by
  have := bytesLess_total a.toList b.toList
  have e : (a.toList == b.toList) = false := by simpa using fun h' => h (str_ext h')
  rw [e, Bool.or_false] at this
  exact this.symm
theorem strLt_self (a : ByteArray) : strLt a a = false := by
  have := bytesLess_total a.toList a.toList
  unfold strLt
  simp at this
  exact this

theorem beq_str (a b : ByteArray) : (a.toList == b.toList) = decide (a = b) := by
  rw [Bool.eq_iff_iff]
  simp only [beq_iff_eq, decide_eq_true_eq]
  exact ⟨str_ext, fun h => by rw [h]⟩
theorem eql_str (w : World) (a b : ByteArray) : (binOp .eql 9 (.string a) (.string b)).run Try.prog w = .ok (.bool (decide (a = b))) w := by
  have : (a.toList == b.toList) = decide (a = b) := by
    rw [Bool.eq_iff_iff]
    simp only [beq_iff_eq, decide_eq_true_eq]
    exact ⟨str_ext, fun h => by rw [h]⟩
  simp only [go_sem]
  rw [← this]
  rfl
theorem lss_str (w : World) (a b : ByteArray) : (binOp .lss 9 (.string a) (.string b)).run Try.prog w = .ok (.bool (strLt a b)) w := by
  simp [go_sem, strLt]
theorem gtr_str (w : World) (a b : ByteArray) : (binOp .gtr 9 (.string a) (.string b)).run Try.prog w = .ok (.bool (strLt b a)) w := by
  unfold strLt
  rw [← bytesLess_total]
  simp [go_sem]
theorem neq_str (w : World) (a b : ByteArray) : (binOp .neq 9 (.string a) (.string b)).run Try.prog w = .ok (.bool (!decide (a = b))) w := by
  have : (a.toList == b.toList) = decide (a = b) := by
    rw [Bool.eq_iff_iff]
    simp only [beq_iff_eq, decide_eq_true_eq]
    exact ⟨str_ext, fun h => by rw [h]⟩
  rw [← this]
  simp [go_sem]
attribute [local go_sem ↓] eql_str
attribute [local go_sem ↓] lss_str
attribute [local go_sem ↓] gtr_str

set_option maxHeartbeats 1000000 in
theorem fits3_any (a : Option Addr) (n cap : Nat) (ss : List ByteArray) (w : World) (h : Strs w a n ss) (hcap : n ≤ 9223372036854775807) :
    Calls Try.prog 14 #[.slice a n cap] w fun e w' => ∃ b, e = .returned (.bool b) ∧ Bel w w' := by
  have HH := Lib.hid h; clear h
  have HN := Lib.hid HH.out.1
  by_cases hn : 2147483647 < n
  · go_enter Try.func14, Try.ntmps14
    go_wp2
    go_ret
    exact ⟨false, rfl, Bel.refl w⟩
  go_enter Try.func14, Try.ntmps14
  go_wp2
  go_loopw [10] (fun i wr => ∃ k : Nat, k ≤ n ∧ i = .int .i64 k ∧ Bel w wr) (fun i _ => n - (intOf i).toNat)
  case atStart => exact ⟨0, Nat.zero_le _, rfl, Bel.refl w⟩
  case round =>
    obtain ⟨k, hk, rfl, hbel⟩ := hrel
    by_cases hlt : k < n
    · obtain ⟨b, o, rfl, hcell⟩ := HH.out.2 (by omega)
      obtain ⟨s, hs⟩ : ∃ e, ss[k]? = some e := ⟨_, List.getElem?_eq_getElem (by rw [HN.out]; exact hlt)⟩
      have hc0 := hbel.cell (hcell k s hs)
      clear hcell hs
      by_cases x0 : (2147483647 : Int) < (s.size : Int)
      · go_wp2
        go_ret
        exact ⟨false, rfl, hbel⟩
      go_wp2
      go_roundw
      case rel => exact ⟨k + 1, by omega, by go_num, hbel⟩
      case measure => simp [intOf]; omega
    · go_wp2
      go_ret
      exact ⟨true, rfl, hbel⟩

/-- What the laws ask of the names of files. -/
def NamesOk (n : Nat) (ss : List ByteArray) : Prop := (1 ≤ n ∧ n ≤ 8) ∧ ss.Nodup ∧ ∀ s ∈ ss, s.size ≤ 50

set_option maxHeartbeats 2000000 in
theorem names_any (a : Option Addr) (n cap : Nat) (ss : List ByteArray) (w : World) (h : Strs w a n ss) (hcap : n ≤ cap ∧ cap ≤ 9223372036854775807) :
    Calls Try.prog 15 #[.slice a n cap] w (BoolPost' w (NamesOk n ss)) := by
  have HH := Lib.hid h; clear h
  have HN := Lib.hid HH.out.1
  by_cases hn0 : n < 1
  · go_enter Try.func15, Try.ntmps15
    go_wp2
    go_ret
    exact ⟨false, rfl, (fun h => by cases h), Bel.refl w⟩
  by_cases hn : 8 < n
  · go_enter Try.func15, Try.ntmps15
    go_wp2
    go_ret
    exact ⟨false, rfl, (fun h => by cases h), Bel.refl w⟩
  obtain ⟨b, o, rfl, hcell⟩ := HH.out.2 (by omega)
  have HCE := Lib.hid hcell; clear hcell
  go_enter Try.func15, Try.ntmps15
  go_wp2
  go_loopw [17] (fun i wr => ∃ k : Nat, k ≤ n ∧ i = .int .i64 k ∧ (ss.take k).Nodup ∧ (∀ s ∈ ss.take k, s.size ≤ 50) ∧ Bel w wr) (fun i _ => n - (intOf i).toNat)
  case atStart => exact ⟨0, Nat.zero_le _, rfl, by simp, by simp, Bel.refl w⟩
  case round =>
    obtain ⟨k, hk, rfl, hnd, hal, hbel⟩ := hrel
    have HND := Lib.hid hnd; clear hnd
    have HAL := Lib.hid hal; clear hal
    by_cases hlt : k < n
    · obtain ⟨s, hs⟩ : ∃ e, ss[k]? = some e := ⟨_, List.getElem?_eq_getElem (by rw [HN.out]; exact hlt)⟩
      have hc0 := hbel.cell (HCE.out k s hs)
      have HTK : Hid (ss.take (k + 1) = ss.take k ++ [s]) := Lib.hid (by rw [List.take_add_one, hs]; rfl)
      clear hs
      have d1 : s.toList.isEmpty = true ∨ s.toList.isEmpty = false := by cases s.toList.isEmpty <;> simp
      rcases d1 with d1 | d1
      · go_wp2
        go_ret
        exact ⟨false, rfl, (fun h => by cases h), hbel⟩
      by_cases x0 : (50 : Int) < (s.size : Int)
      · go_wp2
        go_ret
        exact ⟨false, rfl, (fun h => by cases h), hbel⟩
      have HBW := Lib.hid hbel
      go_wp2
      go_loopw [33] (fun i wq => ∃ m : Nat, m ≤ k ∧ i = .int .i64 m ∧ s ∉ ss.take m ∧ Bel wr wq) (fun i _ => k - (intOf i).toNat)
      case atStart => exact ⟨0, Nat.zero_le _, rfl, by simp, Bel.refl wr⟩
      case round =>
        obtain ⟨m, hm, rfl, hni, hbel2⟩ := hrel
        have HNI := Lib.hid hni; clear hni
        by_cases hlt2 : m < k
        · obtain ⟨s2, hs2⟩ : ∃ e, ss[m]? = some e := ⟨_, List.getElem?_eq_getElem (by rw [HN.out]; omega)⟩
          have hc1 := (HBW.out.trans hbel2).cell (HCE.out m s2 hs2)
          have HTM : Hid (ss.take (m + 1) = ss.take m ++ [s2]) := Lib.hid (by rw [List.take_add_one, hs2]; rfl)
          clear hs2
          by_cases he : s = s2
          · have d2 : (s.toList == s2.toList) = true := by rw [beq_str]; simpa using he
            go_wp2
            go_ret
            exact ⟨false, rfl, (fun h => by cases h), HBW.out.trans hbel2⟩
          have HE := Lib.hid he
          have d2 : (s.toList == s2.toList) = false := by rw [beq_str]; simpa using he
          go_wp2
          go_roundw
          case rel => exact ⟨m + 1, by omega, by go_num, by rw [HTM.out]; simp only [List.mem_append, List.mem_singleton, not_or]; exact ⟨HNI.out, HE.out⟩, hbel2⟩
          case measure => simp [intOf]; omega
        · obtain rfl : m = k := by omega
          go_wp2
          go_roundw
          case rel =>
            refine ⟨m + 1, by omega, by go_num, ?_, ?_, HBW.out.trans hbel2⟩
            · rw [HTK.out, List.nodup_append]
              refine ⟨HND.out, by simp, fun x hx y hy => ?_⟩
              simp at hy
              subst hy
              rintro rfl
              exact HNI.out hx
            · rw [HTK.out]
              intro y hy
              rcases List.mem_append.1 hy with hy | hy
              · exact HAL.out y hy
              · simp at hy; subst hy; omega
          case measure => simp [intOf]; omega
    · go_wp2
      go_ret
      have h1 := HND.out
      have h2 := HAL.out
      rw [List.take_of_length_le (by rw [HN.out]; omega)] at h1 h2
      exact ⟨true, rfl, fun _ => ⟨by omega, h1, h2⟩, hbel⟩

/-- The name of a position in full. -/
theorem fileName_any (g : Nat) (lc fi : Int) (nm : ByteArray) (w : World) (h : Blk w g 93 (fileBase g nm fi)) :
    Calls Try.prog 52 #[.agg #[ptr g, .int .u32 lc]] w fun e w' => e = .returned (.string nm) ∧ Bel w w' := by
  have h1 := h.alloc (.cells #[ptr g, .int .u32 lc] 65)
  have c0 : (w.alloc (.cells #[ptr g, .int .u32 lc] 65)).cell? ⟨g, 0, none⟩ = some (ptr g) := h1.cell 0
  have c1 : (w.alloc (.cells #[ptr g, .int .u32 lc] 65)).cell? ⟨g, 1, none⟩ = some (.int .u32 4112) := h1.cell 1
  have c2 : (w.alloc (.cells #[ptr g, .int .u32 lc] 65)).cell? ⟨g, 2, none⟩ = some (.string nm) := h1.cell 2
  have hb : Bel w (w.alloc (.cells #[ptr g, .int .u32 lc] 65)) := (Bel.refl w).alloc _
  clear h h1
  go_enter Try.func52, Try.ntmps52
  go_wp2_with fail
  refine (basePos_any g _).mono ?_
  rintro e w' ⟨rfl, rfl⟩
  go_wp2_with fail
  refine (relName_any g 4112 nm _ c2).mono ?_
  rintro e w' ⟨rfl, hb2⟩
  have hb3 := hb.trans hb2
  go_wp2
  go_ret
  exact ⟨rfl, hb3⟩
end Go.Proofs.Ytbekmpmfkblgnaa
