/- laws.FnDataAny returns true for every slice of bytes and leaves the memory that was there as it was; conditions: the package's errors are there (PdGlobs). -/
import Derived.Test.YtnajpmdnadjipaaDoorG2
namespace Go.Proofs.YtnajpmdnadjipaaDoor
open Go.RowKit
set_option linter.unusedVariables false

set_option maxHeartbeats 2000000 in
set_option maxRecDepth 20000 in
theorem data_yes {w : World} {ao : Option Addr} {n c : Nat} {l : List Int} (h : BytesAt w ao n c l) (hc : c ≤ 9223372036854775807) (hs : n ≤ 2147483647) (hw : isWholeB l = true) (hf : l.getD 1 0 ≤ 15) (h00 : l.getD 0 0 = 0) (h17 : 17 ≤ n) :
    Calls Tryd.prog 5 #[.slice ao n c] w (IsTrue w) := by
  have HC := lawIsWhole ao n c l w h hs
  rw [hw] at HC
  have HC := Lib.hid HC
  obtain ⟨w4, we⟩ := whole_of hw
  have hn : 4 ≤ n := by omega
  have HB := Lib.hid h
  obtain ⟨b, off, rfl, hCh⟩ := h.chunk hn hs hc
  obtain ⟨x1, h1⟩ : ∃ x, x = l.getD 1 0 := ⟨_, rfl⟩
  have g0 : w.cell? ⟨b, off, none⟩ = some (.int .u8 0) := by rw [← h00]; exact hCh.cell 0 (by omega)
  have g1 : w.cell? ⟨b, off + 1, none⟩ = some (.int .u8 x1) := by rw [h1]; exact hCh.cell 1 (by omega)
  have hx1 : x1 ≤ 15 := by rw [h1]; exact hf
  have HS := Lib.hid (specData_yes hCh h00 h17 (by omega))
  have HWE : Hid (be2 l 2 = n) := Lib.hid (by rw [we, h.len])
  have H00 := Lib.hid h00
  have HCh := Lib.hid hCh
  have hn0 : (1 : Int) < n := by omega
  have hn1 : (0 : Int) < n := by omega
  have hn2 : 0 < n := by omega
  have hn16 : ((n : Int) == 16) = false := by simp; omega
  obtain ⟨y0, e0⟩ : ∃ y, y = (bits .and .u8 (l.getD 1 0) 4 != 0) := ⟨_, rfl⟩
  obtain ⟨y1, e1⟩ : ∃ y, y = (bits .and .u8 (l.getD 1 0) 2 != 0) := ⟨_, rfl⟩
  obtain ⟨y2, e2⟩ : ∃ y, y = (bits .and .u8 (l.getD 1 0) 1 != 0) := ⟨_, rfl⟩
  obtain ⟨y3, e3⟩ : ∃ y, y = (bits .and .u8 (l.getD 1 0) 8 != 0) := ⟨_, rfl⟩
  obtain ⟨y4, e4⟩ : ∃ y, y = be4 l 4 := ⟨_, rfl⟩
  obtain ⟨y5, e5⟩ : ∃ y, y = be2 l 8 := ⟨_, rfl⟩
  obtain ⟨y6, e6⟩ : ∃ y, y = be2 l 10 := ⟨_, rfl⟩
  obtain ⟨y7, e7⟩ : ∃ y, y = be4 l 12 := ⟨_, rfl⟩
  have DV : Hid (∀ v : Value, dataV l v = .agg #[.bool y0, .bool y1, .bool y2, .bool y3, .int .u32 y4, .int .i64 y5, .int .i64 y6, .int .u32 y7, v]) := Lib.hid (by intro v; rw [e0, e1, e2, e3, e4, e5, e6, e7]; rfl)
  clear h hw we h1 hCh hf w4 h00 e0 e1 e2 e3 e4 e5 e6 e7
  go_enter Tryd.func5, Tryd.ntmps5
  go_wp2_with (go_at_call 9; refine HC.out.mono ?_; rintro e w1 ⟨rfl, rfl⟩)
  refine HS.out.mono ?_
  rintro e w1 ⟨rfl, hL1⟩
  rw [DV.out]
  have HL1 := Lib.hid hL1
  clear hL1 g0 g1
  go_wp2_with fail
  obtain ⟨X, hX⟩ : ∃ X, X = w1.heap.size := ⟨_, rfl⟩
  generalize hW2 : World.alloc w1 _ = w2
  have L2 : Below w.heap.size w w2 := by rw [← hW2]; exact HL1.out.alloc HL1.out.size _
  have bX : w2.heap[w1.heap.size]? = some (.cells #[.bool y0, .bool y1, .bool y2, .bool y3, .int .u32 y4, .int .i64 y5, .int .i64 y6, .int .u32 y7, .slice (some ⟨b, off + 16, none⟩) (n - 16) (c - 16)] 32 (0, 0)) := by rw [← hW2]; exact heap_new w1 _
  have M2 := Mod.of_below (S := fun _ => False) L2
  have HD := Lib.hid (dataOf_yes (HB.out.mod M2 (fun _ _ h => h)) hs h17 HWE.out H00.out)
  have HL2 := Lib.hid L2
  have BX2 := Lib.hid bX
  have HX2 : Hid (w1.heap.size < w2.heap.size) := Lib.hid (Array.getElem?_eq_some_iff.1 bX).1
  clear hW2 L2 M2 HL1 bX hX
  refine HD.out.mono ?_
  rintro e w3 ⟨a3, n3, c3, rfl, hB3, hL3⟩
  rw [DV.out]
  have HL3 := Lib.hid (HL2.out.trans (hL3.mono HL2.out.size))
  have BX3 := Lib.hid ((hL3.block _ HX2.out).trans BX2.out)
  have HX3 : Hid (w1.heap.size < w3.heap.size) := Lib.hid (Nat.lt_of_lt_of_le HX2.out hL3.size)
  have HB3 := Lib.hid hB3
  clear hL3 HL2 hB3
  go_wp2_with fail
  generalize hW4 : World.alloc w3 _ = w4
  have L4 : Below w.heap.size w w4 := by rw [← hW4]; exact HL3.out.alloc HL3.out.size _
  have l34 : Below w3.heap.size w3 w4 := by rw [← hW4]; exact (Below.refl _ w3).alloc (Nat.le_refl _) _
  have bY : w4.heap[w3.heap.size]? = some (.cells #[.bool y0, .bool y1, .bool y2, .bool y3, .int .u32 y4, .int .i64 y5, .int .i64 y6, .int .u32 y7, .slice a3 n3 c3] 32 (0, 0)) := by rw [← hW4]; exact heap_new w3 _
  have HL4 := Lib.hid L4
  have BX4 := Lib.hid ((l34.block _ HX3.out).trans BX3.out)
  have HX4 : Hid (w1.heap.size < w4.heap.size) := Lib.hid (Nat.lt_of_lt_of_le HX3.out l34.size)
  have BY4 := Lib.hid bY
  have HY4 : Hid (w3.heap.size < w4.heap.size) := Lib.hid (Array.getElem?_eq_some_iff.1 bY).1
  have HB4 := Lib.hid (HB3.out.mod (Mod.of_below (S := fun _ => False) l34) (fun _ _ h => h))
  clear hW4 L4 HL3 l34 bY
  refine (one_any w4).mono ?_
  rintro e w5 ⟨a5, c5, rfl, hB5, hf5, hc5, hL5⟩
  have HE := Lib.hid (dataOf_one hB5)
  have HL5 := Lib.hid (HL4.out.trans (hL5.mono HL4.out.size))
  have BX5 := Lib.hid ((hL5.block _ HX4.out).trans BX4.out)
  have BY5 := Lib.hid ((hL5.block _ HY4.out).trans BY4.out)
  have HX5 : Hid (w1.heap.size < w5.heap.size) := Lib.hid (Nat.lt_of_lt_of_le HX4.out hL5.size)
  have HY5 : Hid (w3.heap.size < w5.heap.size) := Lib.hid (Nat.lt_of_lt_of_le HY4.out hL5.size)
  have HB5 := Lib.hid (HB4.out.mod (Mod.of_below (S := fun _ => False) hL5) (fun _ _ h => h))
  clear hB5 hf5 hL5 HL4
  go_wp2_with fail
  refine HE.out.mono ?_
  rintro e w6 ⟨a6, n6, c6, rfl, hB6, hL6⟩
  simp only [dataV]
  have HL6 := Lib.hid (HL5.out.trans (hL6.mono HL5.out.size))
  have BX6 := Lib.hid ((hL6.block _ HX5.out).trans BX5.out)
  have BY6 := Lib.hid ((hL6.block _ HY5.out).trans BY5.out)
  have hX6 : w1.heap.size < w6.heap.size := Nat.lt_of_lt_of_le HX5.out hL6.size
  have hY6 : w3.heap.size < w6.heap.size := Nat.lt_of_lt_of_le HY5.out hL6.size
  have hB6' := HB5.out.mod (Mod.of_below (S := fun _ => False) hL6) (fun _ _ h => h)
  have hT6 := BytesAt.tail (HCh.out.mod (Mod.of_below (S := fun _ => False) HL6.out) (fun h => h)) 16 (by omega)
  have HSM : Hid (∀ o : Obj, Calls Tryd.prog 11 #[.slice a3 n3 c3, .slice (some ⟨b, off + 16, none⟩) (n - 16) (c - 16)] (w6.alloc o) fun e w' => e = .returned (.bool true) ∧ w6.alloc o = w') := Lib.hid (by
    intro o
    have hA : Mod (fun _ => False) w6 (w6.alloc o) := (Mod.refl _ w6).alloc o
    have := same_any _ _ _ _ _ _ _ _ (w6.alloc o) (hB6'.mod hA (fun _ _ h => h)) (hT6.mod hA (fun _ _ h => h))
    rwa [decide_eq_true rfl] at this)
  clear hB6 hL6 HL5 hB6' hT6
  have s0 : w6.cell? ⟨w1.heap.size, 0, none⟩ = some (.bool y0) := by rw [cell_of_block BX6.out]; rfl
  have s1 : w6.cell? ⟨w1.heap.size, 1, none⟩ = some (.bool y1) := by rw [cell_of_block BX6.out]; rfl
  have s2 : w6.cell? ⟨w1.heap.size, 2, none⟩ = some (.bool y2) := by rw [cell_of_block BX6.out]; rfl
  have s3 : w6.cell? ⟨w1.heap.size, 3, none⟩ = some (.bool y3) := by rw [cell_of_block BX6.out]; rfl
  have s4 : w6.cell? ⟨w1.heap.size, 4, none⟩ = some (.int .u32 y4) := by rw [cell_of_block BX6.out]; rfl
  have s5 : w6.cell? ⟨w1.heap.size, 5, none⟩ = some (.int .i64 y5) := by rw [cell_of_block BX6.out]; rfl
  have s6 : w6.cell? ⟨w1.heap.size, 6, none⟩ = some (.int .i64 y6) := by rw [cell_of_block BX6.out]; rfl
  have s7 : w6.cell? ⟨w1.heap.size, 7, none⟩ = some (.int .u32 y7) := by rw [cell_of_block BX6.out]; rfl
  have s8 : w6.cell? ⟨w1.heap.size, 8, none⟩ = some (.slice (some ⟨b, off + 16, none⟩) (n - 16) (c - 16)) := by rw [cell_of_block BX6.out]; rfl
  have t0 : w6.cell? ⟨w3.heap.size, 0, none⟩ = some (.bool y0) := by rw [cell_of_block BY6.out]; rfl
  have t1 : w6.cell? ⟨w3.heap.size, 1, none⟩ = some (.bool y1) := by rw [cell_of_block BY6.out]; rfl
  have t2 : w6.cell? ⟨w3.heap.size, 2, none⟩ = some (.bool y2) := by rw [cell_of_block BY6.out]; rfl
  have t3 : w6.cell? ⟨w3.heap.size, 3, none⟩ = some (.bool y3) := by rw [cell_of_block BY6.out]; rfl
  have t4 : w6.cell? ⟨w3.heap.size, 4, none⟩ = some (.int .u32 y4) := by rw [cell_of_block BY6.out]; rfl
  have t5 : w6.cell? ⟨w3.heap.size, 5, none⟩ = some (.int .i64 y5) := by rw [cell_of_block BY6.out]; rfl
  have t6 : w6.cell? ⟨w3.heap.size, 6, none⟩ = some (.int .i64 y6) := by rw [cell_of_block BY6.out]; rfl
  have t7 : w6.cell? ⟨w3.heap.size, 7, none⟩ = some (.int .u32 y7) := by rw [cell_of_block BY6.out]; rfl
  have t8 : w6.cell? ⟨w3.heap.size, 8, none⟩ = some (.slice a3 n3 c3) := by rw [cell_of_block BY6.out]; rfl
  go_wp2_with (go_at_call 11; refine (HSM.out _).mono ?_; rintro e w7 ⟨rfl, rfl⟩)
  go_ret
  exact ⟨by simp, HL6.out.alloc HL6.out.size _⟩

/-- FnDataAny, for every input. -/
theorem data_all {w : World} {ao : Option Addr} {n c : Nat} {l : List Int} (h : BytesAt w ao n c l) (hc : c ≤ 9223372036854775807) (hg : PdGlobs w) :
    Calls Tryd.prog 5 #[.slice ao n c] w (IsTrue w) := by
  by_cases hs : n ≤ 2147483647
  · cases hw : isWholeB l with
    | false => exact data_not h hs hw
    | true =>
      by_cases hf : l.getD 1 0 ≤ 15
      · by_cases h0 : l.getD 0 0 = 0
        · by_cases h16 : n < 16
          · exact data_no2 h hc hs hw hg hf h0 h16
          · by_cases h17 : n = 16
            · exact data_bare h hc hs hw hf h0 h17
            · exact data_yes h hc hs hw hf h0 (by omega)
        · exact data_no1 h hc hs hw hg hf h0
      · exact data_flags h hc hs hw (by omega)
  · exact data_great w ao n c (by omega)
end Go.Proofs.YtnajpmdnadjipaaDoor

