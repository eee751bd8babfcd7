/- Proved here: laws.FnCookieAny returns true for every slice of bytes and leaves the memory that was there as it was; conditions: as each theorem states. -/
import Derived.Test.YtnajpmdnadjipaaDoorA8
namespace Go.Proofs.YtnajpmdnadjipaaDoor
open Go.RowKit
set_option linter.unusedVariables false

theorem sort3_of_whole {l : List Int} (h : wholeB l = true) : 4 ≤ l.length ∧ be2 l 2 = l.length := by
  unfold wholeB at h; simpa using h

/-- A part behind the first four. -/
theorem BytesAt.tail {w : World} {b off n c : Nat} {l : List Int} (h : ChunkAt w b off n c l) (k : Nat) (hk : k ≤ n) :
    BytesAt w (some ⟨b, off + k, none⟩) (n - k) (c - k) (l.drop k) := by
  have hc := h.cap
  refine ⟨by simp [h.len], by omega, fun h => by simp at h, fun a ha i hi => ?_, fun i => ?_⟩
  · obtain rfl := Option.some.inj ha
    have e := h.cell (k + i) (by omega)
    have ea : (⟨b, off + k, none⟩ : Addr).add i = ⟨b, off + (k + i), none⟩ := by unfold Addr.add; split <;> simp_all; omega
    rw [ea, e, show (l.drop k).getD i 0 = l.getD (k + i) 0 from by simp]
  · rw [show (l.drop k).getD i 0 = l.getD (k + i) 0 from by simp]; exact h.byte _
theorem BytesAt.tail0 {w : World} {b off n c : Nat} {l : List Int} (h : ChunkAt w b off n c l) (hn : n = 4) (k : Nat) :
    BytesAt w (some ⟨b, off, none⟩) 0 k (l.drop 4) := by
  refine ⟨by simp [h.len, hn], by omega, fun h => by simp at h, fun a ha i hi => by omega, fun i => ?_⟩
  rw [show (l.drop 4).getD i 0 = l.getD (4 + i) 0 from by simp]; exact h.byte _

def ck1 : Array Value := #[.int .u8 10, .int .u8 0, .int .u8 0, .int .u8 5, .int .u8 3]
theorem ck1_at (w : World) : BytesAt (w.alloc (.cells ck1 5)) (some ⟨w.heap.size, 0, none⟩) 5 5 [10, 0, 0, 5, 3] := by
  refine ⟨rfl, Nat.le_refl _, fun h => by simp at h, fun a ha i hi => ?_, fun i => ?_⟩
  · obtain rfl := Option.some.inj ha
    rw [show (⟨w.heap.size, 0, none⟩ : Addr).add i = ⟨w.heap.size, i, none⟩ from by unfold Addr.add; split <;> simp_all, cell_of_block (heap_new w _)]
    match i, hi with
    | 0, _ => rfl
    | 1, _ => rfl
    | 2, _ => rfl
    | 3, _ => rfl
    | 4, _ => rfl
  · match i with
    | 0 => decide
    | 1 => decide
    | 2 => decide
    | 3 => decide
    | 4 => decide
    | i + 5 => simp

def IsTrue (w : World) (e : Ending) (w' : World) : Prop := e = .returned (.bool true) ∧ Below w.heap.size w w'

set_option maxHeartbeats 400000 in
theorem cookie_great (w : World) (ao : Option Addr) (n c : Nat) (hs : ¬ (n : Int) ≤ 2147483647) : Calls Tryd.prog 3 #[.slice ao n c] w (IsTrue w) := by
  go_enter Tryd.func3, Tryd.ntmps3
  go_wp2_with fail
  go_ret
  exact ⟨rfl, Below.refl _ _⟩

set_option maxHeartbeats 400000 in
theorem cookie_not {w : World} {ao : Option Addr} {n c : Nat} {l : List Int} (h : BytesAt w ao n c l) (hs : n ≤ 2147483647) (hw : isWholeB l = false) :
    Calls Tryd.prog 3 #[.slice ao n c] w (IsTrue w) := by
  have HC := lawIsWhole ao n c l w h hs
  rw [hw] at HC
  have HC := Lib.hid HC
  clear h hw
  go_enter Tryd.func3, Tryd.ntmps3
  go_wp2_with (go_at_call 9; refine HC.out.mono ?_; rintro e w1 ⟨rfl, rfl⟩)
  go_ret
  exact ⟨rfl, Below.refl _ _⟩

set_option maxHeartbeats 400000 in
theorem cookie_no {w : World} {ao : Option Addr} {n c : Nat} {l : List Int} (h : BytesAt w ao n c l) (hc : c ≤ 9223372036854775807) (hs : n ≤ 2147483647) (hw : isWholeB l = true) (hg : CkGlobs w) (h10 : l.getD 0 0 ≠ 10) :
    Calls Tryd.prog 3 #[.slice ao n c] w (IsTrue w) := by
  have HC := lawIsWhole ao n c l w h hs
  rw [hw] at HC
  have HC := Lib.hid HC
  have hw2 : wholeB l = true := by unfold isWholeB at hw; simp only [Bool.and_eq_true] at hw; exact hw.2
  obtain ⟨w4, we⟩ := sort3_of_whole hw2
  have HD := Lib.hid (cookieOf_sort h hs hg (.whole w4 we) (fun _ _ => h10))
  have hn : 4 ≤ n := by rw [← h.len]; exact w4
  obtain ⟨b, off, rfl, hCh⟩ := h.chunk hn hs hc
  obtain ⟨x, hx⟩ : ∃ x, x = l.getD 0 0 := ⟨_, rfl⟩
  have hx10 : (x == 10) = false := by rw [hx]; simpa using h10
  have hb := hCh.lt
  have HX : Hid (w.cell? ⟨b, off, none⟩ = some (.int .u8 x)) := Lib.hid (by rw [hx]; exact hCh.cell 0 (by omega))
  have hn0 : (0 : Int) < n := by omega
  clear h hw hw2 we h10 hx hCh hg
  go_enter Tryd.func3, Tryd.ntmps3
  go_wp2_with (go_at_call 9; refine HC.out.mono ?_; rintro e w1 ⟨rfl, rfl⟩)
  refine HD.out.mono ?_
  rintro e w2 ⟨a2, n2, c2, rfl, hB2, hL2⟩
  have HL2 := Lib.hid hL2
  have HE := Lib.hid (cookieOf_yes (ck1_at w2) (by omega) (by omega) (by decide) (by decide))
  clear hB2 hL2
  go_wp2_with fail
  refine HE.out.mono ?_
  rintro e w3 ⟨a3, n3, c3, rfl, hB3, hL3⟩
  obtain rfl : 1 = n3 := hB3.len
  have hL : Below w.heap.size w w3 := (HL2.out.alloc HL2.out.size _).trans (hL3.mono (by have := HL2.out.size; simp; omega))
  have g0 : w3.cell? ⟨b, off, none⟩ = some (.int .u8 x) := by rw [← HX.out]; exact hL.cell hb
  have HL := Lib.hid hL
  clear hB3 hL3 hL
  go_wp2_with fail
  go_ret
  exact ⟨rfl, HL.out⟩

set_option maxHeartbeats 400000 in
theorem cookie_yes {w : World} {ao : Option Addr} {n c : Nat} {l : List Int} (h : BytesAt w ao n c l) (hc : c ≤ 9223372036854775807) (hs : n ≤ 2147483647) (hw : isWholeB l = true) (h10 : l.getD 0 0 = 10) :
    Calls Tryd.prog 3 #[.slice ao n c] w (IsTrue w) := by
  have HC := lawIsWhole ao n c l w h hs
  rw [hw] at HC
  have HC := Lib.hid HC
  have hw2 : wholeB l = true := by unfold isWholeB at hw; simp only [Bool.and_eq_true] at hw; exact hw.2
  obtain ⟨w4, we⟩ := sort3_of_whole hw2
  have hn : 4 ≤ n := by rw [← h.len]; exact w4
  have HD := Lib.hid (cookieOf_yes h hs hn (by rw [we, h.len]) h10)
  obtain ⟨b, off, rfl, hCh⟩ := h.chunk hn hs hc
  have hb := hCh.lt
  have HX : Hid (w.cell? ⟨b, off, none⟩ = some (.int .u8 10)) := Lib.hid (by rw [← h10]; exact hCh.cell 0 (by omega))
  have hn0 : (0 : Int) < n := by omega
  have hn4 : (4 : Int) ≤ n := by omega
  have HCh := Lib.hid hCh
  have hcn := hCh.cap
  clear h hw hw2 we h10 hCh
  go_enter Tryd.func3, Tryd.ntmps3
  go_wp2_with (go_at_call 9; refine HC.out.mono ?_; rintro e w1 ⟨rfl, rfl⟩)
  refine HD.out.mono ?_
  rintro e w2 ⟨a2, n2, c2, rfl, hB2, hL2⟩
  have HL2 := Lib.hid hL2
  have HB2 := Lib.hid hB2
  have HE := Lib.hid (cookieOf_yes (ck1_at w2) (by omega) (by omega) (by decide) (by decide))
  clear hB2 hL2
  go_wp2_with fail
  refine HE.out.mono ?_
  rintro e w3 ⟨a3, n3, c3, rfl, hB3, hL3⟩
  obtain rfl : 1 = n3 := hB3.len
  have hL : Below w.heap.size w w3 := (HL2.out.alloc HL2.out.size _).trans (hL3.mono (by have := HL2.out.size; simp; omega))
  have g0 : w3.cell? ⟨b, off, none⟩ = some (.int .u8 10) := by rw [← HX.out]; exact hL.cell hb
  have HL := Lib.hid hL
  have hM : Mod (fun _ => False) w2 w3 := ((Mod.refl _ _).alloc _).trans (Mod.of_below hL3)
  have HBg := Lib.hid (HB2.out.mod hM (fun _ _ h => h))
  have HCg := Lib.hid (HCh.out.mod (Mod.of_below (S := fun _ => False) HL.out) (fun h => h))
  clear hB3 hL3 hL hM
  by_cases hc4 : c = 4
  · subst hc4
    have HS := same_any _ _ _ _ _ 0 _ _ w3 HBg.out (BytesAt.tail0 HCg.out (by omega) 0)
    rw [decide_eq_true rfl] at HS
    have e4 : n = 4 := by omega
    subst e4
    have HS := Lib.hid HS
    go_wp2_with (go_at_call 11; refine HS.out.mono ?_; rintro e w1 ⟨rfl, rfl⟩)
    go_ret
    exact ⟨rfl, HL.out⟩
  · have HS := same_any _ _ _ _ _ _ _ _ w3 HBg.out (BytesAt.tail HCg.out 4 hn)
    rw [decide_eq_true rfl] at HS
    have HS := Lib.hid HS
    go_wp2_with (go_at_call 11; refine HS.out.mono ?_; rintro e w1 ⟨rfl, rfl⟩)
    go_ret
    exact ⟨rfl, HL.out⟩

/-- FnCookieAny, for every input. -/
theorem cookie_all {w : World} {ao : Option Addr} {n c : Nat} {l : List Int} (h : BytesAt w ao n c l) (hc : c ≤ 9223372036854775807) (hg : CkGlobs w) :
    Calls Tryd.prog 3 #[.slice ao n c] w (IsTrue w) := by
  by_cases hs : n ≤ 2147483647
  · cases hw : isWholeB l with
    | false => exact cookie_not h hs hw
    | true =>
      by_cases h10 : l.getD 0 0 = 10
      · exact cookie_yes h hc hs hw h10
      · exact cookie_no h hc hs hw hg h10
  · exact cookie_great w ao n c (by omega)
end Go.Proofs.YtnajpmdnadjipaaDoor
