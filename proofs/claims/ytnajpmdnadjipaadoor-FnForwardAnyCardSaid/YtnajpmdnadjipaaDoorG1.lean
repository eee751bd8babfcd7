/- laws.FnDataAny returns true for every slice of bytes and leaves the memory that was there as it was; conditions: the package's errors are there (PdGlobs). -/
import Derived.Test.YtnajpmdnadjipaaDoorF4
import Derived.Test.YtnajpmdnadjipaaDoorN4
namespace Go.Proofs.YtnajpmdnadjipaaDoor
open Go.RowKit
set_option linter.unusedVariables false

structure PdGlobs (w : World) : Prop where
  e0 : GlobErr w 0
  e5 : GlobErr w 5
  e11 : GlobErr w 11
  e12 : GlobErr w 12

theorem dataOf_sort {w : World} {ao : Option Addr} {n c : Nat} {l : List Int} (h : BytesAt w ao n c l) (hs : n ≤ 2147483647) (hg : PdGlobs w) (hl : Sort3 l) (h0 : 4 ≤ n → be2 l 2 = n → l.getD 0 0 ≠ 0 ∨ n < 16) :
    Calls Tryd.prog 14 #[.slice ao n c] w (DataNot w) := by
  refine dataOf_no h hs fun w1 a1 c1 hB hc1 hL => ?_
  have hM0 := Mod.of_below (S := fun _ => False) hL
  have hM : Mod (fun _ => False) w (zzW w1) := hM0.trans (zzW_mod w1)
  have l0 := hg.e0.lt; have l5 := hg.e5.lt; have l11 := hg.e11.lt; have l12 := hg.e12.lt
  have hz := hL.size
  cases hl with
  | small h4 =>
    exact zzpd_err (pd_err _ _ _ _ (hdr_small _ _ _ _ _ (by rw [← hB.len]; exact h4) (hg.e11.mod hM (fun h => h))))
  | more h4 hw =>
    obtain ⟨b, off, rfl, hCh⟩ := hB.chunk (by rw [← hB.len]; exact h4) hs hc1
    have hb := hCh.lt
    exact zzpd_err (pd_err _ _ _ _ (hdr_m (hCh.mod (zzW_mod w1) (fun h => h)) (by rw [← hB.len]; exact hw) _ _ 90 (zzW_q w1) (by simp [data0, dataC]) (by omega) (by omega) (hg.e12.mod hM (fun h => h))))
  | whole h4 hw =>
    obtain ⟨b, off, rfl, hCh⟩ := hB.chunk (by rw [← hB.len]; exact h4) hs hc1
    have hb := hCh.lt
    rw [hB.len] at hw h4
    have hC := hCh.mod (zzW_mod w1) (fun h => h)
    by_cases h00 : l.getD 0 0 = 0
    · rcases h0 h4 hw with h | h
      · exact absurd h00 h
      · exact zzpd_err (pd_short hC hw _ (zzW_q w1) (by omega) h00 h (hg.e5.mod hM (fun h => h)) (by omega))
    · by_cases h64 : l.getD 0 0 = 64
      · by_cases h20 : n < 20
        · exact zzpd_err (pd_ishort hC hw _ (zzW_q w1) (by omega) h64 h20 (hg.e5.mod hM (fun h => h)) (by omega))
        · refine zzpd_idata ?_ (hg.e0.mod hM0 (fun h => h))
          cases hbit : (bits .and .u8 (l.getD 1 0) 2 != 0)
          · exact pd_i0 hC hw _ (zzW_q w1) (by omega) h64 (by omega) hbit
          · exact pd_i1 hC hw _ (zzW_q w1) (by omega) h64 (by omega) hbit
      · exact zzpd_err (pd_other hC hw _ (zzW_q w1) (by omega) h00 h64 (hg.e0.mod hM (fun h => h)) (by omega))

set_option maxHeartbeats 400000 in
theorem data_great (w : World) (ao : Option Addr) (n c : Nat) (hs : ¬ (n : Int) ≤ 2147483647) : Calls Tryd.prog 5 #[.slice ao n c] w (IsTrue w) := by
  go_enter Tryd.func5, Tryd.ntmps5
  go_wp2_with fail
  go_ret
  exact ⟨rfl, Below.refl _ _⟩

set_option maxHeartbeats 400000 in
theorem data_not {w : World} {ao : Option Addr} {n c : Nat} {l : List Int} (h : BytesAt w ao n c l) (hs : n ≤ 2147483647) (hw : isWholeB l = false) :
    Calls Tryd.prog 5 #[.slice ao n c] w (IsTrue w) := by
  have HC := lawIsWhole ao n c l w h hs
  rw [hw] at HC
  have HC := Lib.hid HC
  clear h hw
  go_enter Tryd.func5, Tryd.ntmps5
  go_wp2_with (go_at_call 9; refine HC.out.mono ?_; rintro e w1 ⟨rfl, rfl⟩)
  go_ret
  exact ⟨rfl, Below.refl _ _⟩

theorem whole_of {l : List Int} (h : isWholeB l = true) : 4 ≤ l.length ∧ be2 l 2 = l.length := by
  unfold isWholeB at h; simp only [Bool.and_eq_true] at h; exact sort3_of_whole h.2

set_option maxHeartbeats 400000 in
theorem data_flags {w : World} {ao : Option Addr} {n c : Nat} {l : List Int} (h : BytesAt w ao n c l) (hc : c ≤ 9223372036854775807) (hs : n ≤ 2147483647) (hw : isWholeB l = true) (hf : 15 < l.getD 1 0) :
    Calls Tryd.prog 5 #[.slice ao n c] w (IsTrue w) := by
  have HC := lawIsWhole ao n c l w h hs
  rw [hw] at HC
  have HC := Lib.hid HC
  obtain ⟨w4, we⟩ := whole_of hw
  have hn : 4 ≤ n := by rw [← h.len]; exact w4
  obtain ⟨b, off, rfl, hCh⟩ := h.chunk hn hs hc
  obtain ⟨x0, h0⟩ : ∃ x, x = l.getD 0 0 := ⟨_, rfl⟩
  obtain ⟨x1, h1⟩ : ∃ x, x = l.getD 1 0 := ⟨_, rfl⟩
  have g0 : w.cell? ⟨b, off, none⟩ = some (.int .u8 x0) := by rw [h0]; exact hCh.cell 0 (by omega)
  have g1 : w.cell? ⟨b, off + 1, none⟩ = some (.int .u8 x1) := by rw [h1]; exact hCh.cell 1 (by omega)
  have hx1 : 15 < x1 := by rw [h1]; exact hf
  have hn0 : (1 : Int) < n := by omega
  have hn1 : (0 : Int) < n := by omega
  have hn2 : 0 < n := by omega
  clear h hw we h0 h1 hCh hf w4
  go_enter Tryd.func5, Tryd.ntmps5
  go_wp2_with (go_at_call 9; refine HC.out.mono ?_; rintro e w1 ⟨rfl, rfl⟩)
  go_ret
  exact ⟨rfl, Below.refl _ _⟩

set_option maxHeartbeats 400000 in
theorem data_bare {w : World} {ao : Option Addr} {n c : Nat} {l : List Int} (h : BytesAt w ao n c l) (hc : c ≤ 9223372036854775807) (hs : n ≤ 2147483647) (hw : isWholeB l = true) (hf : l.getD 1 0 ≤ 15) (h00 : l.getD 0 0 = 0) (h16 : n = 16) :
    Calls Tryd.prog 5 #[.slice ao n c] w (IsTrue w) := by
  have HC := lawIsWhole ao n c l w h hs
  rw [hw] at HC
  have HC := Lib.hid HC
  obtain ⟨w4, we⟩ := whole_of hw
  have hn : 4 ≤ n := by rw [← h.len]; exact w4
  obtain ⟨b, off, rfl, hCh⟩ := h.chunk hn hs hc
  obtain ⟨x0, h0⟩ : ∃ x, x = l.getD 0 0 := ⟨_, rfl⟩
  obtain ⟨x1, h1⟩ : ∃ x, x = l.getD 1 0 := ⟨_, rfl⟩
  have g0 : w.cell? ⟨b, off, none⟩ = some (.int .u8 x0) := by rw [h0]; exact hCh.cell 0 (by omega)
  have g1 : w.cell? ⟨b, off + 1, none⟩ = some (.int .u8 x1) := by rw [h1]; exact hCh.cell 1 (by omega)
  have hx1 : x1 ≤ 15 := by rw [h1]; exact hf
  obtain rfl : 0 = x0 := by rw [h0, h00]
  have hn16 : ((n : Int) == 16) = true := by simp [h16]
  clear h00 h16
  have hn0 : (1 : Int) < n := by omega
  have hn1 : (0 : Int) < n := by omega
  have hn2 : 0 < n := by omega
  clear h hw we h0 h1 hCh hf w4
  go_enter Tryd.func5, Tryd.ntmps5
  go_wp2_with (go_at_call 9; refine HC.out.mono ?_; rintro e w1 ⟨rfl, rfl⟩)
  go_ret
  exact ⟨rfl, Below.refl _ _⟩

end Go.Proofs.YtnajpmdnadjipaaDoor
