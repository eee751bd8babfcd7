/- laws.FnShutdownAny returns true for every slice of bytes and leaves the memory that was there as it was; conditions: the package's errors are there (SdGlobs). -/
import Derived.Test.YtnajpmdnadjipaaDoorD1
namespace Go.Proofs.YtnajpmdnadjipaaDoor
open Go.RowKit
set_option linter.unusedVariables false

def sd1 : Array Value := #[.int .u8 7, .int .u8 0, .int .u8 0, .int .u8 8, .int .u8 0, .int .u8 0, .int .u8 0, .int .u8 9]
theorem sd1_at (w : World) : BytesAt (w.alloc (.cells sd1 5)) (some ⟨w.heap.size, 0, none⟩) 8 8 [7, 0, 0, 8, 0, 0, 0, 9] := by
  refine ⟨rfl, Nat.le_refl _, fun h => by simp at h, fun a ha i hi => ?_, fun i => ?_⟩
  · obtain rfl := Option.some.inj ha
    rw [show (⟨w.heap.size, 0, none⟩ : Addr).add i = ⟨w.heap.size, i, none⟩ from by unfold Addr.add; split <;> simp_all, cell_of_block (heap_new w _)]
    match i, hi with
    | 0, _ => rfl
    | 1, _ => rfl
    | 2, _ => rfl
    | 3, _ => rfl
    | 4, _ => rfl
    | 5, _ => rfl
    | 6, _ => rfl
    | 7, _ => rfl
  · match i with
    | 0 => decide
    | 1 => decide
    | 2 => decide
    | 3 => decide
    | 4 => decide
    | 5 => decide
    | 6 => decide
    | 7 => decide
    | i + 8 => simp

set_option maxHeartbeats 400000 in
theorem shut_great (w : World) (ao : Option Addr) (n c : Nat) (hs : ¬ (n : Int) ≤ 2147483647) : Calls Tryd.prog 4 #[.slice ao n c] w (IsTrue w) := by
  go_enter Tryd.func4, Tryd.ntmps4
  go_wp2_with fail
  go_ret
  exact ⟨rfl, Below.refl _ _⟩

set_option maxHeartbeats 400000 in
theorem shut_not {w : World} {ao : Option Addr} {n c : Nat} {l : List Int} (h : BytesAt w ao n c l) (hs : n ≤ 2147483647) (hw : isWholeB l = false) :
    Calls Tryd.prog 4 #[.slice ao n c] w (IsTrue w) := by
  have HC := lawIsWhole ao n c l w h hs
  rw [hw] at HC
  have HC := Lib.hid HC
  clear h hw
  go_enter Tryd.func4, Tryd.ntmps4
  go_wp2_with (go_at_call 9; refine HC.out.mono ?_; rintro e w1 ⟨rfl, rfl⟩)
  go_ret
  exact ⟨rfl, Below.refl _ _⟩

set_option maxHeartbeats 400000 in
theorem shut_no {w : World} {ao : Option Addr} {n c : Nat} {l : List Int} (h : BytesAt w ao n c l) (hc : c ≤ 9223372036854775807) (hs : n ≤ 2147483647) (hw : isWholeB l = true) (hg : SdGlobs w) (h7 : l.getD 0 0 ≠ 7 ∨ n ≠ 8) :
    Calls Tryd.prog 4 #[.slice ao n c] w (IsTrue w) := by
  have HC := lawIsWhole ao n c l w h hs
  rw [hw] at HC
  have HC := Lib.hid HC
  have hw2 : wholeB l = true := by unfold isWholeB at hw; simp only [Bool.and_eq_true] at hw; exact hw.2
  obtain ⟨w4, we⟩ := sort3_of_whole hw2
  have HD := Lib.hid (shutdownOf_sort h hs hg (.whole w4 we) (fun _ _ => h7))
  have hn : 4 ≤ n := by rw [← h.len]; exact w4
  obtain ⟨b, off, rfl, hCh⟩ := h.chunk hn hs hc
  obtain ⟨x, hx⟩ : ∃ x, x = l.getD 0 0 := ⟨_, rfl⟩
  rw [← hx] at h7
  have hb := hCh.lt
  have HX : Hid (w.cell? ⟨b, off, none⟩ = some (.int .u8 x)) := Lib.hid (by rw [hx]; exact hCh.cell 0 (by omega))
  have hn0 : (0 : Int) < n := by omega
  clear h hw hw2 we hx hCh hg
  have H7 := Lib.hid h7
  clear h7
  go_enter Tryd.func4, Tryd.ntmps4
  go_wp2_with (go_at_call 9; refine HC.out.mono ?_; rintro e w1 ⟨rfl, rfl⟩)
  refine HD.out.mono ?_
  rintro e w2 ⟨rfl, hL2⟩
  have HL2 := Lib.hid hL2
  have HE := Lib.hid (shutdownOf_yes (sd1_at w2) (by decide) (by decide))
  clear hL2
  go_wp2_with fail
  refine HE.out.mono ?_
  rintro e w3 ⟨rfl, hL3⟩
  have hL : Below w.heap.size w w3 := (HL2.out.alloc HL2.out.size _).trans (hL3.mono (by have := HL2.out.size; simp; omega))
  have g0 : w3.cell? ⟨b, off, none⟩ = some (.int .u8 x) := by rw [← HX.out]; exact hL.cell hb
  have HL := Lib.hid hL
  have e9 : be4 [7, 0, 0, 8, 0, 0, 0, 9] 4 = 9 := by decide
  rw [e9]
  clear hL3 hL e9
  by_cases h77 : x = 7
  · subst h77
    have hn8 : ((n : Int) == 8) = false := by
      rcases H7.out with h | h
      · exact absurd rfl h
      · simp; omega
    go_wp2_with fail
    go_ret
    exact ⟨rfl, HL.out⟩
  · have h7x : (x == 7) = false := by simpa using h77
    clear h77
    go_wp2_with fail
    go_ret
    exact ⟨rfl, HL.out⟩

theorem shut_num (x4 x5 x6 x7 : Int) (h4 : 0 ≤ x4 ∧ x4 < 256) (h5 : 0 ≤ x5 ∧ x5 < 256) (h6 : 0 ≤ x6 ∧ x6 < 256) (h7 : 0 ≤ x7 ∧ x7 < 256) :
    bits .or .u32 (bits .or .u32 (bits .or .u32 (x4 * 16777216) (x5 * 65536)) (x6 * 256)) x7 = x4 * 16777216 + x5 * 65536 + x6 * 256 + x7 := by
  rw [(u32_hi (x4 * 16777216) (x5 * 65536) (by omega) (by omega) (by omega)).1 (by omega) (by omega),
    (u32_hi _ (x6 * 256) (by omega) (by omega) (by omega)).2.1 (by omega) (by omega),
    (u32_hi _ x7 (by omega) (by omega) (by omega)).2.2 (by omega) (by omega)]

set_option maxHeartbeats 400000 in
theorem shut_yes {w : World} {ao : Option Addr} {c : Nat} {l : List Int} (h : BytesAt w ao 8 c l) (hc : c ≤ 9223372036854775807) (hw : isWholeB l = true) (h7 : l.getD 0 0 = 7) :
    Calls Tryd.prog 4 #[.slice ao 8 c] w (IsTrue w) := by
  have HC := lawIsWhole ao 8 c l w h (by omega)
  rw [hw] at HC
  have HC := Lib.hid HC
  have hw2 : wholeB l = true := by unfold isWholeB at hw; simp only [Bool.and_eq_true] at hw; exact hw.2
  obtain ⟨w4, we⟩ := sort3_of_whole hw2
  have HD := Lib.hid (shutdownOf_yes h (by rw [we, h.len]) h7)
  obtain ⟨b, off, rfl, hCh⟩ := h.chunk (by omega) (by omega) hc
  have hb := hCh.lt
  obtain ⟨x4, h4⟩ : ∃ x, x = l.getD 4 0 := ⟨_, rfl⟩
  obtain ⟨x5, h5⟩ : ∃ x, x = l.getD 5 0 := ⟨_, rfl⟩
  obtain ⟨x6, h6⟩ : ∃ x, x = l.getD 6 0 := ⟨_, rfl⟩
  obtain ⟨x8, h8⟩ : ∃ x, x = l.getD 7 0 := ⟨_, rfl⟩
  have X0 : Hid (w.cell? ⟨b, off, none⟩ = some (.int .u8 7)) := Lib.hid (by rw [← h7]; exact hCh.cell 0 (by omega))
  have X4 : Hid (w.cell? ⟨b, off + 4, none⟩ = some (.int .u8 x4)) := Lib.hid (by rw [h4]; exact hCh.cell 4 (by omega))
  have X5 : Hid (w.cell? ⟨b, off + 5, none⟩ = some (.int .u8 x5)) := Lib.hid (by rw [h5]; exact hCh.cell 5 (by omega))
  have X6 : Hid (w.cell? ⟨b, off + 6, none⟩ = some (.int .u8 x6)) := Lib.hid (by rw [h6]; exact hCh.cell 6 (by omega))
  have X7 : Hid (w.cell? ⟨b, off + 7, none⟩ = some (.int .u8 x8)) := Lib.hid (by rw [h8]; exact hCh.cell 7 (by omega))
  have b4 := hCh.byte 4; have b5 := hCh.byte 5; have b6 := hCh.byte 6; have b7 := hCh.byte 7
  rw [← h4] at b4; rw [← h5] at b5; rw [← h6] at b6; rw [← h8] at b7
  have hbe : be4 l 4 = x4 * 16777216 + x5 * 65536 + x6 * 256 + x8 := by rw [h4, h5, h6, h8]; rfl
  have HQ := Lib.hid (show (be4 l 4 == bits .or .u32 (bits .or .u32 (bits .or .u32 (x4 * 16777216) (x5 * 65536)) (x6 * 256)) x8) = true by rw [shut_num x4 x5 x6 x8 b4 b5 b6 b7, hbe]; simp)
  obtain ⟨b4l, b4r⟩ := b4; obtain ⟨b5l, b5r⟩ := b5; obtain ⟨b6l, b6r⟩ := b6; obtain ⟨b7l, b7r⟩ := b7
  clear h hw hw2 we h7 hCh h4 h5 h6 h8 hbe w4
  go_enter Tryd.func4, Tryd.ntmps4
  go_wp2_with (go_at_call 9; refine HC.out.mono ?_; rintro e w1 ⟨rfl, rfl⟩)
  refine HD.out.mono ?_
  rintro e w2 ⟨rfl, hL2⟩
  have HL2 := Lib.hid hL2
  have HE := Lib.hid (shutdownOf_yes (sd1_at w2) (by decide) (by decide))
  clear hL2
  go_wp2_with fail
  refine HE.out.mono ?_
  rintro e w3 ⟨rfl, hL3⟩
  have hL : Below w.heap.size w w3 := (HL2.out.alloc HL2.out.size _).trans (hL3.mono (by have := HL2.out.size; simp; omega))
  have g0 : w3.cell? ⟨b, off, none⟩ = some (.int .u8 7) := by rw [← X0.out]; exact hL.cell hb
  have g4 : w3.cell? ⟨b, off + 4, none⟩ = some (.int .u8 x4) := by rw [← X4.out]; exact hL.cell hb
  have g5 : w3.cell? ⟨b, off + 5, none⟩ = some (.int .u8 x5) := by rw [← X5.out]; exact hL.cell hb
  have g6 : w3.cell? ⟨b, off + 6, none⟩ = some (.int .u8 x6) := by rw [← X6.out]; exact hL.cell hb
  have g7 : w3.cell? ⟨b, off + 7, none⟩ = some (.int .u8 x8) := by rw [← X7.out]; exact hL.cell hb
  have HL := Lib.hid hL
  have e9 : be4 [7, 0, 0, 8, 0, 0, 0, 9] 4 = 9 := by decide
  rw [e9]
  generalize be4 l 4 = v at *
  clear hL3 hL e9
  go_wp2_with fail
  go_quiet (fail)
  go_wp2_with fail
  go_ret
  exact ⟨by simp only [Array.getD_eq_getD_getElem?]; exact congrArg (fun t => Ending.returned (.bool t)) HQ.out, below_drewN HL.out _⟩

/-- FnShutdownAny, for every input. -/
theorem shut_all {w : World} {ao : Option Addr} {n c : Nat} {l : List Int} (h : BytesAt w ao n c l) (hc : c ≤ 9223372036854775807) (hg : SdGlobs w) :
    Calls Tryd.prog 4 #[.slice ao n c] w (IsTrue w) := by
  by_cases hs : n ≤ 2147483647
  · cases hw : isWholeB l with
    | false => exact shut_not h hs hw
    | true =>
      by_cases h7 : l.getD 0 0 = 7
      · by_cases h8 : n = 8
        · subst h8; exact shut_yes h hc hw h7
        · exact shut_no h hc hs hw hg (.inr h8)
      · exact shut_no h hc hs hw hg (.inl h7)
  · exact shut_great w ao n c (by omega)
end Go.Proofs.YtnajpmdnadjipaaDoor
