/- impl.changed and impl.Changed. -/
import Derived.Test.YtbekmpmfkblgnaaPosM
namespace Go.Proofs.Ytbekmpmfkblgnaa
open Go.RowKit Go.BigFrame

/-- A compact position's number behind a change. -/
def chg (x kind num : Int) : Int :=
  if kind = 0 then x / 4 * 4 + 1 else if kind = 1 then x / 4 * 4 + 2 else if kind = 2 then x / 4 * 4 else if kind = 3 then x / 4096 * 4096 + 17 else if kind = 4 then x / 16 * 16 + num * 4 + x % 4 else x

theorem chg_line (x kind num : Int) (h0 : 4096 ≤ x) (h1 : 0 ≤ num) (h2 : num ≤ 2) : chg x kind num / 4096 = x / 4096 ∧ 4096 ≤ chg x kind num := by
  unfold chg
  repeat' split
  all_goals omega

abbrev withV (kind num : Int) : Value := .agg #[.int .i64 kind, .int .i64 num]

set_option maxHeartbeats 1000000 in
theorem changed_any (i x kind num : Int) (w : World) (h0 : 4096 ≤ x) (hx : x / 4096 ≤ 1000000) (h1 : 0 ≤ num) (h2 : num ≤ 2) :
    Calls Try.prog 54 #[xpV i x, withV kind num] w fun e w' => e = .returned (xpV i (chg x kind num)) ∧ Bel w w' := by
  have hB : ∀ (w' : World), Bel (((w.alloc (.cells #[.int .i32 i, .int .u32 x] 77)).alloc (.cells #[.int .i64 kind, .int .i64 num] 55)).alloc (.cells #[.int .i32 0, .int .u32 0] 77)) w' → Blk w' (w.heap.size + 1 + 1) 77 [.int .i32 0, .int .u32 0] ∧ Bel w w' := by
    intro w' hb
    refine ⟨?_, ((((Bel.refl w).alloc _).alloc _).alloc _).trans hb⟩
    have := (Blk.new ((w.alloc (.cells #[.int .i32 i, .int .u32 x] 77)).alloc (.cells #[.int .i64 kind, .int .i64 num] 55)) 77 [.int .i32 0, .int .u32 0]).bel hb
    rwa [World.size_alloc, World.size_alloc] at this
  have HB := Lib.hid hB; clear hB
  by_cases k0 : kind = 0
  · subst k0
    have hv : chg x 0 num = x / 4 * 4 + 1 := by simp [chg]
    rw [hv]; clear hv
    go_enter Try.func54, Try.ntmps54
    go_wp2_with fail
    refine (xIs_any i x _ (by omega) (by omega)).mono ?_
    rintro e w1 ⟨rfl, hb1⟩
    obtain ⟨hb, hw⟩ := HB.out _ hb1
    have c0 : w1.cell? ⟨w.heap.size + 1 + 1, 0, none⟩ = some (.int .i32 0) := hb.cell 0
    have c1 : w1.cell? ⟨w.heap.size + 1 + 1, 1, none⟩ = some (.int .u32 0) := hb.cell 1
    have f0 := hb.frozen 0
    have f1 := hb.frozen 1
    clear hb hb1
    go_wp2
    refine bodyPost_ret (v := xpV i (x / 4 * 4 + 1)) (by simp [results, Try.results54, go_sem, c0, c1]) rfl ⟨rfl, ?_⟩
    exact Below.setCell (Below.setCell hw (p := ⟨w.heap.size + 1 + 1, 0, none⟩) (by simp; omega) _) (p := ⟨w.heap.size + 1 + 1, 1, none⟩) (by simp; omega) _
  · have b0 : (kind == 0) = false := by simpa using k0
    by_cases k1 : kind = 1
    · subst k1
      have hv : chg x 1 num = x / 4 * 4 + 2 := by simp [chg]
      rw [hv]; clear hv
      go_enter Try.func54, Try.ntmps54
      go_wp2_with fail
      refine (xNot_any i x _ (by omega) (by omega)).mono ?_
      rintro e w1 ⟨rfl, hb1⟩
      obtain ⟨hb, hw⟩ := HB.out _ hb1
      have c0 : w1.cell? ⟨w.heap.size + 1 + 1, 0, none⟩ = some (.int .i32 0) := hb.cell 0
      have c1 : w1.cell? ⟨w.heap.size + 1 + 1, 1, none⟩ = some (.int .u32 0) := hb.cell 1
      have f0 := hb.frozen 0
      have f1 := hb.frozen 1
      clear hb hb1
      go_wp2
      refine bodyPost_ret (v := xpV i (x / 4 * 4 + 2)) (by simp [results, Try.results54, go_sem, c0, c1]) rfl ⟨rfl, ?_⟩
      exact Below.setCell (Below.setCell hw (p := ⟨w.heap.size + 1 + 1, 0, none⟩) (by simp; omega) _) (p := ⟨w.heap.size + 1 + 1, 1, none⟩) (by simp; omega) _
    · have b1 : (kind == 1) = false := by simpa using k1
      by_cases k2 : kind = 2
      · subst k2
        have hv : chg x 2 num = x / 4 * 4 := by simp [chg]
        rw [hv]; clear hv
        go_enter Try.func54, Try.ntmps54
        go_wp2_with fail
        refine (xDef_any i x _ (by omega) (by omega)).mono ?_
        rintro e w1 ⟨rfl, hb1⟩
        obtain ⟨hb, hw⟩ := HB.out _ hb1
        have c0 : w1.cell? ⟨w.heap.size + 1 + 1, 0, none⟩ = some (.int .i32 0) := hb.cell 0
        have c1 : w1.cell? ⟨w.heap.size + 1 + 1, 1, none⟩ = some (.int .u32 0) := hb.cell 1
        have f0 := hb.frozen 0
        have f1 := hb.frozen 1
        clear hb hb1
        go_wp2
        refine bodyPost_ret (v := xpV i (x / 4 * 4)) (by simp [results, Try.results54, go_sem, c0, c1]) rfl ⟨rfl, ?_⟩
        exact Below.setCell (Below.setCell hw (p := ⟨w.heap.size + 1 + 1, 0, none⟩) (by simp; omega) _) (p := ⟨w.heap.size + 1 + 1, 1, none⟩) (by simp; omega) _
      · have b2 : (kind == 2) = false := by simpa using k2
        by_cases k3 : kind = 3
        · subst k3
          have hv : chg x 3 num = x / 4096 * 4096 + 17 := by simp [chg]
          rw [hv]; clear hv
          go_enter Try.func54, Try.ntmps54
          go_wp2_with fail
          refine (xCol1_any i x _ h0 (by omega)).mono ?_
          rintro e w1 ⟨rfl, hb1⟩
          obtain ⟨hb, hw⟩ := HB.out _ hb1
          have c0 : w1.cell? ⟨w.heap.size + 1 + 1, 0, none⟩ = some (.int .i32 0) := hb.cell 0
          have c1 : w1.cell? ⟨w.heap.size + 1 + 1, 1, none⟩ = some (.int .u32 0) := hb.cell 1
          have f0 := hb.frozen 0
          have f1 := hb.frozen 1
          clear hb hb1
          go_wp2
          refine bodyPost_ret (v := xpV i (x / 4096 * 4096 + 17)) (by simp [results, Try.results54, go_sem, c0, c1]) rfl ⟨rfl, ?_⟩
          exact Below.setCell (Below.setCell hw (p := ⟨w.heap.size + 1 + 1, 0, none⟩) (by simp; omega) _) (p := ⟨w.heap.size + 1 + 1, 1, none⟩) (by simp; omega) _
        · have b3 : (kind == 3) = false := by simpa using k3
          by_cases k4 : kind = 4
          · subst k4
            have hv : chg x 4 num = x / 16 * 16 + num * 4 + x % 4 := by simp [chg]
            rw [hv]; clear hv
            go_enter Try.func54, Try.ntmps54
            go_wp2_with fail
            refine (xLogue_any i x num _ (by omega) (by omega) h1 (by omega)).mono ?_
            rintro e w1 ⟨rfl, hb1⟩
            obtain ⟨hb, hw⟩ := HB.out _ hb1
            have c0 : w1.cell? ⟨w.heap.size + 1 + 1, 0, none⟩ = some (.int .i32 0) := hb.cell 0
            have c1 : w1.cell? ⟨w.heap.size + 1 + 1, 1, none⟩ = some (.int .u32 0) := hb.cell 1
            have f0 := hb.frozen 0
            have f1 := hb.frozen 1
            clear hb hb1
            go_wp2
            refine bodyPost_ret (v := xpV i (x / 16 * 16 + num * 4 + x % 4)) (by simp [results, Try.results54, go_sem, c0, c1]) rfl ⟨rfl, ?_⟩
            exact Below.setCell (Below.setCell hw (p := ⟨w.heap.size + 1 + 1, 0, none⟩) (by simp; omega) _) (p := ⟨w.heap.size + 1 + 1, 1, none⟩) (by simp; omega) _
          · have b4 : (kind == 4) = false := by simpa using k4
            have hv : chg x kind num = x := by simp [chg, k0, k1, k2, k3, k4]
            rw [hv]; clear hv
            go_enter Try.func54, Try.ntmps54
            go_wp2
            go_returns
            exact ⟨rfl, (((Bel.refl _).alloc _).alloc _).alloc _⟩
end Go.Proofs.Ytbekmpmfkblgnaa
