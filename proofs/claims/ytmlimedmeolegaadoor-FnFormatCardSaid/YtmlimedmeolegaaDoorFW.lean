/- io.WriteString into a bytes.Buffer; pos.format. -/
import Derived.Test.YtmlimedmeolegaaDoorNumUF
import Derived.Test.YtmlimedmeolegaaDoorFPos
import Derived.Lib.BufferOld
import Derived.Lib.AppendIntMem
namespace Go.Proofs.YtmlimedmeolegaaDoor
open Go.RowKit Go.BigFrame Go.Lib
set_option linter.unusedSimpArgs false

abbrev bufV (b : Nat) : Value := .iface 41 (.pointer (some ⟨b, 0, none⟩))
@[go_sem] theorem as_writer (v : Value) (w : World) : (Instr.typeAssert (.iface 41 v) 49 60 true).run Tryd.prog w = .ok (.tuple #[.iface 41 v, .bool true]) w := by kernel_rfl
@[go_sem] theorem call_write (v : Value) (s : ByteArray) (w : World) : (callMethod (.iface 41 v) "WriteString" #[.string s]).run Tryd.prog w = .ok (.enter 60 #[v, .string s]) w := by kernel_rfl
set_option maxRecDepth 100000 in
theorem ioWrite_any (B b : Nat) (l : List UInt8) (s : ByteArray) (w : World) (h : IsBuffer 45 5 B b (byteCells l) w) (hBw : B ≤ w.heap.size) (hl : l.length + s.size ≤ 100000) :
    Calls Tryd.prog 15 #[bufV b, .string s] w fun e w' => (∃ v, e = .returned v) ∧ IsBuffer 45 5 B b (byteCells (l ++ s.data.toList)) w' ∧ Below B w w' := by
  have HW := Lib.hid (Tryd.Buffer_WriteString B b (byteCells l) s w h hBw (byteCells_one l) (by rw [byteCells_length]; omega))
  go_enter Tryd.func15, Tryd.ntmps15
  go_wp2_with fail
  refine HW.out.mono ?_
  rintro e w1 ⟨rfl, hI, hb⟩
  have HI := Lib.hid (And.intro hI hb)
  clear hI hb HW
  go_wp2
  refine bodyPost_ret (results_tmp2 rfl _ _ _) rfl ?_
  exact ⟨⟨_, rfl⟩, by rw [byteCells_append]; exact HI.out.1, HI.out.2⟩

theorem digits_len (u : Nat) (h1 : 1 ≤ u) (hu : u ≤ 1000000) : (decDigits u).length ≤ 20 := by
  rw [decDigits_length]
  have := Lib.numDigits_eq u h1 (by omega)
  split at this <;> omega
theorem colon_size : (⟨#[58]⟩ : ByteArray).size = 1 := rfl
theorem str_size (l : List UInt8) : (⟨l.toArray⟩ : ByteArray).size = l.length := rfl
set_option maxRecDepth 100000 in
set_option maxHeartbeats 2000000 in
theorem format_any (B b : Nat) (l : List UInt8) (nm : ByteArray) (x y : Nat) (sh : Bool) (w : World) (h : IsBuffer 45 5 B b (byteCells l) w) (hBw : B ≤ w.heap.size) (hl : l.length + nm.size ≤ 1000) (hx1 : 1 ≤ x) (hx : x ≤ 1000000) (hy1 : 1 ≤ y) (hy : y ≤ 250) (hT : Lib.TabBelow Tryd.prog B w powName .u64 Lib.pow10Tab) :
    Calls Tryd.prog 17 #[bufV b, .string nm, .int .u64 x, .int .u64 y, .bool sh] w fun e w' => e = .returned (.tuple #[]) ∧ IsBuffer 45 5 B b (byteCells (l ++ nm.data.toList ++ [58] ++ decDigits x ++ (if sh = true then 58 :: decDigits y else []))) w' ∧ Below B w w' := by
  have hnm : nm.data.toList.length = nm.size := Array.length_toList
  have hdx := digits_len x hx1 hx
  have hdy := digits_len y hy1 (by omega)
  have H0 := Lib.hid (And.intro h (Below.refl B w))
  have HLN := Lib.hid (And.intro hnm (And.intro hdx hdy))
  obtain ⟨w0, hw0⟩ : ∃ z, z = w := ⟨_, rfl⟩
  clear h hnm hdx hdy
  have g1 : (0 : Int) < (y : Int) := by omega
  have g2 : (y : Int) < 255 := by omega
  cases sh
  · go_enter Tryd.func17, Tryd.ntmps17
    go_wp2_with fail
    refine (ioWrite_any B b (l) nm w H0.out.1 (by have := H0.out.2.size; omega) (by omega)).mono ?_
    rintro e w1 ⟨⟨_, rfl⟩, hI, hb⟩
    have H1 := Lib.hid (And.intro hI (H0.out.2.trans hb))
    clear hI hb H0
    go_wp2_with fail
    refine (ioWrite_any B b (l ++ nm.data.toList) ⟨#[58]⟩ w1 H1.out.1 (by have := H1.out.2.size; omega) (by have h1 := HLN.out.1; have h2 := HLN.out.2.1; have h3 := HLN.out.2.2; simp only [List.length_append, List.length_cons, List.length_nil, colon_size, str_size]; omega)).mono ?_
    rintro e w2 ⟨⟨_, rfl⟩, hI, hb⟩
    have H2 := Lib.hid (And.intro hI (H1.out.2.trans hb))
    clear hI hb H1
    go_wp2_with fail
    refine (fmtUint_any x (by omega) (by omega) w2 (hT.on H2.out.2).here).mono ?_
    rintro e w3 ⟨rfl, hb⟩
    have H3 := Lib.hid (And.intro (H2.out.1.old hb) (H2.out.2.trans (hb.mono (by have := H2.out.2.size; omega))))
    clear hb H2
    go_wp2_with fail
    refine (ioWrite_any B b (l ++ nm.data.toList ++ [58]) ⟨(decDigits x).toArray⟩ w3 H3.out.1 (by have := H3.out.2.size; omega) (by have h1 := HLN.out.1; have h2 := HLN.out.2.1; have h3 := HLN.out.2.2; simp only [List.length_append, List.length_cons, List.length_nil, colon_size, str_size]; omega)).mono ?_
    rintro e w4 ⟨⟨_, rfl⟩, hI, hb⟩
    have H4 := Lib.hid (And.intro hI (H3.out.2.trans hb))
    clear hI hb H3
    go_wp2
    go_end0
    exact ⟨rfl, by simpa using H4.out.1, H4.out.2⟩
  · go_enter Tryd.func17, Tryd.ntmps17
    go_wp2_with fail
    refine (ioWrite_any B b (l) nm w H0.out.1 (by have := H0.out.2.size; omega) (by omega)).mono ?_
    rintro e w1 ⟨⟨_, rfl⟩, hI, hb⟩
    have H1 := Lib.hid (And.intro hI (H0.out.2.trans hb))
    clear hI hb H0
    go_wp2_with fail
    refine (ioWrite_any B b (l ++ nm.data.toList) ⟨#[58]⟩ w1 H1.out.1 (by have := H1.out.2.size; omega) (by have h1 := HLN.out.1; have h2 := HLN.out.2.1; have h3 := HLN.out.2.2; simp only [List.length_append, List.length_cons, List.length_nil, colon_size, str_size]; omega)).mono ?_
    rintro e w2 ⟨⟨_, rfl⟩, hI, hb⟩
    have H2 := Lib.hid (And.intro hI (H1.out.2.trans hb))
    clear hI hb H1
    go_wp2_with fail
    refine (fmtUint_any x (by omega) (by omega) w2 (hT.on H2.out.2).here).mono ?_
    rintro e w3 ⟨rfl, hb⟩
    have H3 := Lib.hid (And.intro (H2.out.1.old hb) (H2.out.2.trans (hb.mono (by have := H2.out.2.size; omega))))
    clear hb H2
    go_wp2_with fail
    refine (ioWrite_any B b (l ++ nm.data.toList ++ [58]) ⟨(decDigits x).toArray⟩ w3 H3.out.1 (by have := H3.out.2.size; omega) (by have h1 := HLN.out.1; have h2 := HLN.out.2.1; have h3 := HLN.out.2.2; simp only [List.length_append, List.length_cons, List.length_nil, colon_size, str_size]; omega)).mono ?_
    rintro e w4 ⟨⟨_, rfl⟩, hI, hb⟩
    have H4 := Lib.hid (And.intro hI (H3.out.2.trans hb))
    clear hI hb H3
    go_wp2_with fail
    refine (ioWrite_any B b (l ++ nm.data.toList ++ [58] ++ decDigits x) ⟨#[58]⟩ w4 H4.out.1 (by have := H4.out.2.size; omega) (by have h1 := HLN.out.1; have h2 := HLN.out.2.1; have h3 := HLN.out.2.2; simp only [List.length_append, List.length_cons, List.length_nil, colon_size, str_size]; omega)).mono ?_
    rintro e w5 ⟨⟨_, rfl⟩, hI, hb⟩
    have H5 := Lib.hid (And.intro hI (H4.out.2.trans hb))
    clear hI hb H4
    go_wp2_with fail
    refine (fmtUint_any y (by omega) (by omega) w5 (hT.on H5.out.2).here).mono ?_
    rintro e w6 ⟨rfl, hb⟩
    have H6 := Lib.hid (And.intro (H5.out.1.old hb) (H5.out.2.trans (hb.mono (by have := H5.out.2.size; omega))))
    clear hb H5
    go_wp2_with fail
    refine (ioWrite_any B b (l ++ nm.data.toList ++ [58] ++ decDigits x ++ [58]) ⟨(decDigits y).toArray⟩ w6 H6.out.1 (by have := H6.out.2.size; omega) (by have h1 := HLN.out.1; have h2 := HLN.out.2.1; have h3 := HLN.out.2.2; simp only [List.length_append, List.length_cons, List.length_nil, colon_size, str_size]; omega)).mono ?_
    rintro e w7 ⟨⟨_, rfl⟩, hI, hb⟩
    have H7 := Lib.hid (And.intro hI (H6.out.2.trans hb))
    clear hI hb H6
    go_wp2
    go_end0
    exact ⟨rfl, by simpa using H7.out.1, H7.out.2⟩
end Go.Proofs.YtmlimedmeolegaaDoor
