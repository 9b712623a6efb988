/- spec.Changed, laws.changes; what is due behind changes. -/
import Derived.Test.YtbekmpmfkblgnaaPosO
namespace Go.Proofs.Ytbekmpmfkblgnaa
open Go.RowKit Go.BigFrame

/-- What the reference makes of a place. -/
def chP (p : PlaceD) (kind num : Int) : PlaceD :=
  if kind = 0 then { p with stmt := 1 } else if kind = 1 then { p with stmt := 2 } else if kind = 2 then { p with stmt := 0 } else if kind = 3 then { p with col := 1 } else if kind = 4 then { p with logue := num } else p

set_option maxHeartbeats 2000000 in
theorem specChanged_any (p : PlaceD) (kind num : Int) (w : World) :
    Calls Try.prog 30 #[placeV p, withV kind num] w fun e w' => e = .returned (placeV (chP p kind num)) ∧ Bel w w' := by
  obtain ⟨pf, pl, pc, ps, px⟩ := p
  have hB : ∀ a b c d e : Int, Bel w (((w.alloc (.cells #[.int .i64 a, .int .i64 b, .int .i64 c, .int .i64 d, .int .i64 e] 23)).alloc (.cells #[.int .i64 kind, .int .i64 num] 55)).alloc (.cells #[.int .i64 a, .int .i64 b, .int .i64 c, .int .i64 d, .int .i64 e] 23)) := fun _ _ _ _ _ => (((Bel.refl w).alloc _).alloc _).alloc _
  have HB := Lib.hid hB; clear hB
  by_cases k0 : kind = 0
  · subst k0
    go_enter Try.func30, Try.ntmps30
    go_wp2
    exact bodyPost_ret (v := placeV ⟨pf, pl, pc, 1, px⟩) (by simp [results, Try.results30, go_sem]) rfl ⟨rfl, HB.out _ _ _ _ _⟩
  have q0 : (kind == 0) = false := by simpa using k0
  by_cases k1 : kind = 1
  · subst k1
    go_enter Try.func30, Try.ntmps30
    go_wp2
    exact bodyPost_ret (v := placeV ⟨pf, pl, pc, 2, px⟩) (by simp [results, Try.results30, go_sem]) rfl ⟨rfl, HB.out _ _ _ _ _⟩
  have q1 : (kind == 1) = false := by simpa using k1
  by_cases k2 : kind = 2
  · subst k2
    go_enter Try.func30, Try.ntmps30
    go_wp2
    exact bodyPost_ret (v := placeV ⟨pf, pl, pc, 0, px⟩) (by simp [results, Try.results30, go_sem]) rfl ⟨rfl, HB.out _ _ _ _ _⟩
  have q2 : (kind == 2) = false := by simpa using k2
  by_cases k3 : kind = 3
  · subst k3
    go_enter Try.func30, Try.ntmps30
    go_wp2
    exact bodyPost_ret (v := placeV ⟨pf, pl, 1, ps, px⟩) (by simp [results, Try.results30, go_sem]) rfl ⟨rfl, HB.out _ _ _ _ _⟩
  have q3 : (kind == 3) = false := by simpa using k3
  by_cases k4 : kind = 4
  · subst k4
    go_enter Try.func30, Try.ntmps30
    go_wp2
    exact bodyPost_ret (v := placeV ⟨pf, pl, pc, ps, num⟩) (by simp [results, Try.results30, go_sem]) rfl ⟨rfl, HB.out _ _ _ _ _⟩
  have q4 : (kind == 4) = false := by simpa using k4
  have e : chP ⟨pf, pl, pc, ps, px⟩ kind num = ⟨pf, pl, pc, ps, px⟩ := by simp [chP, k0, k1, k2, k3, k4]
  rw [e]
  clear e k0 k1 k2 k3 k4
  go_enter Try.func30, Try.ntmps30
  go_wp2
  exact bodyPost_ret (v := placeV ⟨pf, pl, pc, ps, px⟩) (by simp [results, Try.results30, go_sem]) rfl ⟨rfl, HB.out _ _ _ _ _⟩

/-- Some Boolean is returned, and true only if P. -/
def BoolPost' (w : World) (P : Prop) (e : Ending) (w' : World) : Prop := ∃ b, e = .returned (.bool b) ∧ (b = true → P) ∧ Bel w w'

set_option maxHeartbeats 1000000 in
theorem changesB_any (a : Option Addr) (n cap : Nat) (cs : List Pl.Ent) (w : World) (h : Ents w a n cs) (hcap : n ≤ 9223372036854775807) :
    Calls Try.prog 28 #[.slice a n cap] w (BoolPost' w (n ≤ 50 ∧ chgOk cs)) := by
  have HH := Lib.hid h; clear h
  have HN := Lib.hid HH.out.1
  by_cases hn : 50 < n
  · go_enter Try.func28, Try.ntmps28
    go_wp2
    go_ret
    exact ⟨false, rfl, (fun h => by cases h), Bel.refl w⟩
  go_enter Try.func28, Try.ntmps28
  go_wp2
  go_loopw [10] (fun i wr => ∃ k : Nat, k ≤ n ∧ i = .int .i64 k ∧ (∀ c ∈ cs.take k, 0 ≤ c.2 ∧ c.2 ≤ 2) ∧ Bel w wr) (fun i _ => n - (intOf i).toNat)
  case atStart => exact ⟨0, Nat.zero_le _, rfl, by simp, Bel.refl w⟩
  case round =>
    obtain ⟨k, hk, rfl, hall, hbel⟩ := hrel
    have HA := Lib.hid hall; clear hall
    by_cases hlt : k < n
    · obtain ⟨b, o, rfl, hcell⟩ := HH.out.2 (by omega)
      obtain ⟨ch, hch⟩ : ∃ e, cs[k]? = some e := ⟨_, List.getElem?_eq_getElem (by rw [HN.out]; exact hlt)⟩
      have hc0 := hbel.cell (hcell k ch hch).1
      have hc1 := hbel.cell (hcell k ch hch).2
      have HE : Hid (cs.take (k + 1) = cs.take k ++ [ch]) := Lib.hid (by rw [List.take_add_one, hch]; rfl)
      clear hcell hch
      by_cases x0 : ch.2 < 0
      · go_wp2
        go_ret
        exact ⟨false, rfl, (fun h => by cases h), hbel.alloc _⟩
      by_cases x1 : 2 < ch.2
      · go_wp2
        go_ret
        exact ⟨false, rfl, (fun h => by cases h), hbel.alloc _⟩
      go_wp2
      go_roundw
      case rel => exact ⟨k + 1, by omega, by go_num, by rw [HE.out]; intro y hy; rcases List.mem_append.1 hy with hy | hy; exact HA.out y hy; simp at hy; subst hy; exact ⟨by omega, by omega⟩, hbel.alloc _⟩
      case measure => simp [intOf]; omega
    · go_wp2
      go_ret
      have hh := HA.out
      rw [List.take_of_length_le (by rw [HN.out]; omega)] at hh
      exact ⟨true, rfl, fun _ => ⟨by omega, hh⟩, hbel⟩
end Go.Proofs.Ytbekmpmfkblgnaa
