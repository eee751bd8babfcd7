/- laws.FnDataAny returns true for every slice of bytes and leaves the memory that was there as it was; conditions: the package's errors are there (PdGlobs). -/
import Derived.Test.YtnajpmdnadjipaaDoorG1
namespace Go.Proofs.YtnajpmdnadjipaaDoor
open Go.RowKit
set_option linter.unusedVariables false

def oneL : List Int := [0, 3, 0, 17, 0, 0, 0, 0, 0, 0, 0, 0, 0, 0, 0, 0, 1]
theorem dataOf_one {w : World} {ao : Option Addr} {c : Nat} (h : BytesAt w ao 17 c [0, 3, 0, 17, 0, 0, 0, 0, 0, 0, 0, 0, 0, 0, 0, 0, 1]) :
    Calls Tryd.prog 14 #[.slice ao 17 c] w (DataIs w [0, 3, 0, 17, 0, 0, 0, 0, 0, 0, 0, 0, 0, 0, 0, 0, 1]) :=
  dataOf_yes h (by omega) (by omega) (by decide) (by decide)

set_option maxHeartbeats 1000000 in
set_option maxRecDepth 20000 in
theorem data_no1 {w : World} {ao : Option Addr} {n c : Nat} {l : List Int} (h : BytesAt w ao n c l) (hc : c ≤ 9223372036854775807) (hs : n ≤ 2147483647) (hw : isWholeB l = true) (hg : PdGlobs w) (hf : l.getD 1 0 ≤ 15) (h00 : l.getD 0 0 ≠ 0) :
    Calls Tryd.prog 5 #[.slice ao n c] w (IsTrue w) := by
  have HC := lawIsWhole ao n c l w h hs
  rw [hw] at HC
  have HC := Lib.hid HC
  obtain ⟨w4, we⟩ := whole_of hw
  have hn : 4 ≤ n := by rw [← h.len]; exact w4
  have HSo : Sort3 l := .whole w4 we
  have HB := Lib.hid h
  obtain ⟨b, off, rfl, hCh⟩ := h.chunk hn hs hc
  obtain ⟨x0, h0⟩ : ∃ x, x = l.getD 0 0 := ⟨_, rfl⟩
  obtain ⟨x1, h1⟩ : ∃ x, x = l.getD 1 0 := ⟨_, rfl⟩
  have g0 : w.cell? ⟨b, off, none⟩ = some (.int .u8 x0) := by rw [h0]; exact hCh.cell 0 (by omega)
  have g1 : w.cell? ⟨b, off + 1, none⟩ = some (.int .u8 x1) := by rw [h1]; exact hCh.cell 1 (by omega)
  have hx1 : x1 ≤ 15 := by rw [h1]; exact hf
  have hx0 : ¬ x0 = 0 := by rw [h0]; exact h00
  have hx0' : (x0 == 0) = false := by simpa using hx0
  have HS := Lib.hid (specData_no hCh (.inl h00))
  have hno : l.getD 0 0 ≠ 0 ∨ n < 16 := .inl h00
  clear h00
  have HNO := Lib.hid hno
  have hn0 : (1 : Int) < n := by omega
  have hn1 : (0 : Int) < n := by omega
  have hn2 : 0 < n := by omega
  have HG := Lib.hid hg
  clear h hw we h0 h1 hCh hf w4 hg hno
  go_enter Tryd.func5, Tryd.ntmps5
  go_wp2_with (go_at_call 9; refine HC.out.mono ?_; rintro e w1 ⟨rfl, rfl⟩)
  refine HS.out.mono ?_
  rintro e w1 ⟨rfl, hL1⟩
  simp only [im0]
  have HL1 := Lib.hid hL1
  clear hL1 g0 g1
  go_wp2_with fail
  generalize hW2 : World.alloc w1 _ = w2
  have L2 : Below w.heap.size w w2 := by rw [← hW2]; exact HL1.out.alloc HL1.out.size _
  have M2 := Mod.of_below (S := fun _ => False) L2
  have HD := Lib.hid (dataOf_sort (HB.out.mod M2 (fun _ _ h => h)) hs ⟨HG.out.e0.mod M2 (fun h => h), HG.out.e5.mod M2 (fun h => h), HG.out.e11.mod M2 (fun h => h), HG.out.e12.mod M2 (fun h => h)⟩ HSo (fun _ _ => HNO.out))
  have HL2 := Lib.hid L2
  clear hW2 L2 M2 HL1
  refine HD.out.mono ?_
  rintro e w3 ⟨rfl, hL3⟩
  simp only [im0]
  have HL3 := Lib.hid (HL2.out.trans (hL3.mono HL2.out.size))
  clear hL3 HL2
  go_wp2_with fail
  generalize hW4 : World.alloc w3 _ = w4
  have L4 : Below w.heap.size w w4 := by rw [← hW4]; exact HL3.out.alloc HL3.out.size _
  have HL4 := Lib.hid L4
  clear hW4 L4 HL3
  refine (one_any w4).mono ?_
  rintro e w5 ⟨a5, c5, rfl, hB5, hf5, hc5, hL5⟩
  have HE := Lib.hid (dataOf_one hB5)
  have HL5 := Lib.hid (HL4.out.trans (hL5.mono HL4.out.size))
  clear hB5 hf5 hL5 HL4
  go_wp2_with fail
  refine HE.out.mono ?_
  rintro e w6 ⟨a6, n6, c6, rfl, hB6, hL6⟩
  simp only [dataV]
  have HL6 := Lib.hid (HL5.out.trans (hL6.mono HL5.out.size))
  clear hB6 hL6 HL5
  go_wp2_with fail
  go_ret
  exact ⟨rfl, HL6.out.alloc HL6.out.size _⟩

set_option maxHeartbeats 1000000 in
set_option maxRecDepth 20000 in
theorem data_no2 {w : World} {ao : Option Addr} {n c : Nat} {l : List Int} (h : BytesAt w ao n c l) (hc : c ≤ 9223372036854775807) (hs : n ≤ 2147483647) (hw : isWholeB l = true) (hg : PdGlobs w) (hf : l.getD 1 0 ≤ 15) (h00 : l.getD 0 0 = 0) (h16 : n < 16) :
    Calls Tryd.prog 5 #[.slice ao n c] w (IsTrue w) := by
  have HC := lawIsWhole ao n c l w h hs
  rw [hw] at HC
  have HC := Lib.hid HC
  obtain ⟨w4, we⟩ := whole_of hw
  have hn : 4 ≤ n := by rw [← h.len]; exact w4
  have HSo : Sort3 l := .whole w4 we
  have HB := Lib.hid h
  obtain ⟨b, off, rfl, hCh⟩ := h.chunk hn hs hc
  obtain ⟨x0, h0⟩ : ∃ x, x = l.getD 0 0 := ⟨_, rfl⟩
  obtain ⟨x1, h1⟩ : ∃ x, x = l.getD 1 0 := ⟨_, rfl⟩
  have g0 : w.cell? ⟨b, off, none⟩ = some (.int .u8 x0) := by rw [h0]; exact hCh.cell 0 (by omega)
  have g1 : w.cell? ⟨b, off + 1, none⟩ = some (.int .u8 x1) := by rw [h1]; exact hCh.cell 1 (by omega)
  have hx1 : x1 ≤ 15 := by rw [h1]; exact hf
  obtain rfl : 0 = x0 := by rw [h0, h00]
  have hn16 : ((n : Int) == 16) = false := by simp; omega
  have HS := Lib.hid (specData_no hCh (.inr (by omega)))
  have hno : l.getD 0 0 ≠ 0 ∨ n < 16 := .inr h16
  clear h00
  have HNO := Lib.hid hno
  have hn0 : (1 : Int) < n := by omega
  have hn1 : (0 : Int) < n := by omega
  have hn2 : 0 < n := by omega
  have HG := Lib.hid hg
  clear h hw we h0 h1 hCh hf w4 hg hno
  go_enter Tryd.func5, Tryd.ntmps5
  go_wp2_with (go_at_call 9; refine HC.out.mono ?_; rintro e w1 ⟨rfl, rfl⟩)
  refine HS.out.mono ?_
  rintro e w1 ⟨rfl, hL1⟩
  simp only [im0]
  have HL1 := Lib.hid hL1
  clear hL1 g0 g1
  go_wp2_with fail
  generalize hW2 : World.alloc w1 _ = w2
  have L2 : Below w.heap.size w w2 := by rw [← hW2]; exact HL1.out.alloc HL1.out.size _
  have M2 := Mod.of_below (S := fun _ => False) L2
  have HD := Lib.hid (dataOf_sort (HB.out.mod M2 (fun _ _ h => h)) hs ⟨HG.out.e0.mod M2 (fun h => h), HG.out.e5.mod M2 (fun h => h), HG.out.e11.mod M2 (fun h => h), HG.out.e12.mod M2 (fun h => h)⟩ HSo (fun _ _ => HNO.out))
  have HL2 := Lib.hid L2
  clear hW2 L2 M2 HL1
  refine HD.out.mono ?_
  rintro e w3 ⟨rfl, hL3⟩
  simp only [im0]
  have HL3 := Lib.hid (HL2.out.trans (hL3.mono HL2.out.size))
  clear hL3 HL2
  go_wp2_with fail
  generalize hW4 : World.alloc w3 _ = w4
  have L4 : Below w.heap.size w w4 := by rw [← hW4]; exact HL3.out.alloc HL3.out.size _
  have HL4 := Lib.hid L4
  clear hW4 L4 HL3
  refine (one_any w4).mono ?_
  rintro e w5 ⟨a5, c5, rfl, hB5, hf5, hc5, hL5⟩
  have HE := Lib.hid (dataOf_one hB5)
  have HL5 := Lib.hid (HL4.out.trans (hL5.mono HL4.out.size))
  clear hB5 hf5 hL5 HL4
  go_wp2_with fail
  refine HE.out.mono ?_
  rintro e w6 ⟨a6, n6, c6, rfl, hB6, hL6⟩
  simp only [dataV]
  have HL6 := Lib.hid (HL5.out.trans (hL6.mono HL5.out.size))
  clear hB6 hL6 HL5
  go_wp2_with fail
  go_ret
  exact ⟨rfl, HL6.out.alloc HL6.out.size _⟩

end Go.Proofs.YtnajpmdnadjipaaDoor
