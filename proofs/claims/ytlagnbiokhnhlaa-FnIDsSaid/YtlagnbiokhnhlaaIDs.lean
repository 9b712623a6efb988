/- The walks of the allocator and of impl.IDs. -/
import Derived.Test.YtlagnbiokhnhlaaMem
namespace Go.Proofs.Ytlagnbiokhnhlaa
open Go.RowKit

theorem el22 : ElTy 22 2 1 8 := ElTy.mk' (z := .int .i64 0) Try.underlying22 (by kernel_rfl) rfl (by decide)

theorem get_any (g : Nat) (n : Int) (w : World) (hc : w.cell? ⟨g, 0, none⟩ = some (.int .i32 n)) (hf : w.frozen? ⟨g, 0, none⟩ = false) (h0 : 0 ≤ n) (h1 : n ≤ 1000000) :
    Calls Try.prog 26 #[.pointer (some ⟨g, 0, none⟩)] w fun e w' => e = .returned (.int .i32 (n + 1)) ∧ w.setCell ⟨g, 0, none⟩ (.int .i32 (n + 1)) = w' := by
  have hne : ((n + 1 : Int) == 2147483647) = false := by simp; omega
  go_enter Try.func26, Try.ntmps26
  go_wp2
  go_ret
  exact ⟨rfl, rfl⟩

theorem num_any (g : Nat) (n : Int) (w : World) (hc : w.cell? ⟨g, 0, none⟩ = some (.int .i32 n)) (h0 : 0 ≤ n) (h1 : n ≤ 1000000) :
    Calls Try.prog 27 #[.pointer (some ⟨g, 0, none⟩)] w fun e w' => e = .returned (.int .i64 (n + 1)) ∧ w = w' := by
  go_enter Try.func27, Try.ntmps27
  go_wp2
  go_ret
  exact ⟨rfl, rfl⟩

/-- The numbers from s on, as cells. -/
def upFrom (s : Int) (n : Nat) : List Value := (List.range n).map (fun (i : Nat) => Value.int .i64 ((i : Int) + s))
theorem upFrom_succ (s : Int) (n : Nat) : upFrom s (n + 1) = upFrom s n ++ [.int .i64 ((n : Int) + s)] := by simp [upFrom, List.range_succ]
theorem upFrom_at (s : Int) (n i : Nat) (h : i < n) : (upFrom s n)[i]? = some (.int .i64 ((i : Int) + s)) := by simp [upFrom, h]

set_option maxHeartbeats 400000 in
theorem ids_any (count : Nat) (w : World) (hn : count ≤ 500) :
    Calls Try.prog 12 #[.int .i64 count] w fun e w' => ∃ v u, e = .returned (.tuple #[v, u]) ∧ w'.ownsRow w.heap.size 2 1 v count (upFrom 1 count) ∧ w'.ownsRow w.heap.size 2 1 u count (upFrom 2 count) ∧ Bel w w' := by
  go_enter Try.func12, Try.ntmps12
  go_wp2
  go_loopw [5, 6, 11] (fun v u i wr => ∃ j : Nat, j ≤ count ∧ i = .int .i64 j ∧ wr.ownsRow (w.heap.size + 1) 2 1 v j (upFrom 1 j) ∧ wr.ownsRow (w.heap.size + 1) 2 1 u j (upFrom 2 j) ∧ (∀ k, v.ownBlock = some k → u.ownBlock ≠ some k) ∧ Blk wr w.heap.size 54 [.int .i32 j] ∧ Bel w wr) (fun _ _ i _ => count - (intOf i).toNat)
  case atStart =>
    refine ⟨0, Nat.zero_le _, rfl, ?_, ?_, ?_, ?_, ?_⟩
    · exact (owns_empty (w.alloc _) _ _ _ _ (by simp) (by omega)).alloc _
    · exact owns_empty ((w.alloc _).alloc _) _ _ _ _ (by simp) (by omega)
    · intro k hk; simp [Value.ownBlock] at hk ⊢; omega
    · exact ((Blk.new w _ [_]).alloc _).alloc _
    · exact (((Bel.refl w).alloc _).alloc _).alloc _
  case round =>
    obtain ⟨j, hj, rfl, hv, hu, hne, hblk, hbel⟩ := hrel
    by_cases hlt : j < count
    · have hcell := hblk.cell 0
      have hfr := hblk.frozen 0
      simp only [List.getElem?_cons_zero] at hcell
      have HV := Lib.hid hv; clear hv
      have HU := Lib.hid hu; clear hu
      have HN := Lib.hid hne; clear hne
      have HB := Lib.hid hblk; clear hblk
      go_wp2_with (first
        | (go_at_call 26; refine (get_any _ j _ (by assumption) (by assumption) (by omega) (by omega)).mono ?_; rintro e w' ⟨rfl, rfl⟩)
        | (at_builtin; refine wpList_push el22 rfl (.tmp 13) (.tmp 16) rfl (w.heap.size + 1) u5 j (upFrom 1 j) rfl (ownsRow_setCell_below HV.out (Nat.lt_succ_self _) _) [.int .i64 (j + 1)] wr.heap.size (by simp) rfl rfl (by simp [Value.oneCell']) (by omega) (by omega) HB.out.lt ?_))
      intro v1 w1 ho1 hg1 hat1
      have hb1 : Blk w1 w.heap.size 54 [.int .i32 (j + 1)] := (HB.out.set 0 _).grown hg1 (fun e => by have := (HV.out.lt _ e.symm).1; omega)
      have hu1 : w1.ownsRow (w.heap.size + 1) 2 1 u6 j (upFrom 2 j) := (ownsRow_setCell_below HU.out (Nat.lt_succ_self _) _).kept hg1 (by cases h6 : u6.ownBlock <;> simp; intro e; exact HN.out _ e.symm (by rw [h6]))
      have hcell1 := hb1.cell 0
      simp only [List.getElem?_cons_zero] at hcell1
      have hlt1 : w.heap.size < w1.heap.size := hb1.lt
      have HO1 := Lib.hid ho1; clear ho1
      have HU1 := Lib.hid hu1; clear hu1
      have HG1 := Lib.hid hg1; clear hg1
      have HA1 := Lib.hid hat1; clear hat1
      clear hcell hfr
      go_wp2_with (first
        | (go_at_call 27; refine (num_any _ (j + 1) _ (by assumption) (by omega) (by omega)).mono ?_; rintro e w' ⟨rfl, rfl⟩)
        | (at_builtin; refine wpList_push el22 rfl (.tmp 18) (.tmp 20) rfl (w.heap.size + 1) u6 j (upFrom 2 j) rfl HU1.out [.int .i64 (j + 1 + 1)] w1.heap.size rfl rfl rfl (by simp [Value.oneCell']) (by omega) (by omega) (by omega) ?_))
      intro v2 w2 ho2 hg2 hat2
      go_wp2
      go_roundw
      case rel =>
        refine ⟨j + 1, by omega, by go_num, ?_, by rw [upFrom_succ]; exact (show ((j : Int) + 1 + 1) = (j : Int) + 2 by omega) ▸ ho2, ?_, hb1.grown hg2 (fun e => by have := (HU1.out.lt _ e.symm).1; omega), ?_⟩
        · rw [upFrom_succ]
          refine HO1.out.kept hg2 ?_
          cases h1 : v1.ownBlock with
          | none => exact .inl rfl
          | some k =>
            right
            intro e
            rcases HA1.out with h | h
            · exact HN.out k (by rw [← h, h1]) e.symm
            · rw [h] at h1
              have := (HU1.out.lt k e.symm)
              have hk : wr.heap.size + 1 = k := by injection h1
              have := (HU.out.lt k e.symm).2
              omega
        · intro k hk hk2
          rcases hat2 with h | h
          · rcases HA1.out with h' | h'
            · exact HN.out k (by rw [← h', hk]) (by rw [← h, hk2])
            · have := (HU.out.lt k (by rw [← h, hk2])).2
              rw [h'] at hk
              have hk' : wr.heap.size + 1 = k := by injection hk
              omega
          · rw [h] at hk2
            have := (HO1.out.lt k hk).2
            have hk' : w1.heap.size + 1 = k := by injection hk2
            omega
        · refine Bel.grown (Bel.grown (Below.setCell hbel (p := ⟨w.heap.size, 0, none⟩) (by simp) _) HG1.out ?_) hg2 ?_
          · intro k hk; have := (HV.out.lt k hk).1; omega
          · intro k hk; have := (HU.out.lt k hk).1; omega
      case measure => simp [intOf]; omega
    · go_wp2
      go_ret2
      have : j = count := by omega
      subst this
      exact ⟨_, _, rfl, own_base hv (fun k hk => by have := (hv.lt k hk).1; omega), own_base hu (fun k hk => by have := (hu.lt k hk).1; omega), hbel⟩
end Go.Proofs.Ytlagnbiokhnhlaa
