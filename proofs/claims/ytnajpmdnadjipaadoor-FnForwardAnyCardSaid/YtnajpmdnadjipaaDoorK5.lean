/- laws.FnForwardAny returns true for every slice of bytes and leaves the memory that was there as it was; conditions: the package's error is there (GlobErr 9). -/
import Derived.Test.YtnajpmdnadjipaaDoorK4
import Derived.Test.YtnajpmdnadjipaaDoorN4
namespace Go.Proofs.YtnajpmdnadjipaaDoor
open Go.RowKit
set_option linter.unusedVariables false

set_option maxHeartbeats 1000000 in
set_option maxRecDepth 20000 in
theorem fwd_one (w : World) : Calls Tryd.prog 21 #[.agg #[.int .u32 1, .slice none 0 0]] w (Copied w 8 [192, 0, 0, 8, 0, 0, 0, 1]) := by
  go_enter Tryd.func21, Tryd.ntmps21
  go_wp2_with fail
  generalize hW : World.alloc w _ = w0
  have hL0 : Below w.heap.size w w0 := by rw [← hW]; exact (Below.refl _ w).alloc (Nat.le_refl _) _
  have hb0 : w0.heap[w.heap.size]? = some (.cells #[.int .u32 1, .slice none 0 0] 45 (0, 0)) := by rw [← hW]; exact heap_new w _
  have hq0 : w.heap.size < w0.heap.size := (Array.getElem?_eq_some_iff.1 hb0).1
  clear hW
  refine (number4 1 _ (by decide) (by decide)).mono ?_
  rintro e w1 ⟨a1, c1, rfl, hB1, hf1, hc1, hx1⟩
  obtain ⟨p1, rfl⟩ := hB1.some (by omega)
  have hq1 : w.heap.size < w1.heap.size := Nat.lt_of_lt_of_le hq0 hx1.size
  have hb1 := (hx1.block _ hq0).trans hb0
  have d1 : w1.cell? ⟨w.heap.size, 1, none⟩ = some (.slice none 0 0) := by rw [cell_of_block hb1]; rfl
  have E1 := Lib.hid (hL0.trans (hx1.mono (Nat.le_of_lt hq0)))
  have HB1 := Lib.hid hB1
  clear hb0 hb1 hx1 hB1 hf1 hL0
  go_wp2_with fail
  refine wp_loop_rounds 1 ?_
  rw [rounds_succ]
  go_wp2_with fail
  refine (chunk_any 192 0 (by decide) (by decide) p1 4 c1 _ w1 HB1.out (by decide)).mono ?_
  rintro e w6 ⟨a6, c6, rfl, hB6, hf6, hc6, hx6⟩
  have E6 := Lib.hid (E1.out.trans (hx6.mono (Nat.le_of_lt hq1)))
  have HB6 := Lib.hid hB6
  have HX6 := Lib.hid hx6
  have HF6 := Lib.hid hf6
  clear hx6 hB6 hf6 d1
  go_wp2_with fail
  go_ret
  have hl : Copied w1 (4 + 4) ([192, 0, 0, 4 + ((4 : Nat) : Int)] ++ [0, 0, 0, 1]) (.returned (.slice a6 8 c6)) w6 := ⟨a6, c6, rfl, HB6.out, HF6.out, hc6, HX6.out⟩
  obtain ⟨a7, c7, e7, hB7, hf7, hc7, _⟩ := copied_cast hl (n' := 8) (l' := [192, 0, 0, 8, 0, 0, 0, 1]) rfl rfl
  exact ⟨a7, c7, e7, hB7, fun a ha => Nat.le_trans (Nat.le_of_lt hq1) (hf7 a ha), hc7, E6.out⟩

theorem forwardOf_one {w : World} {ao : Option Addr} {c : Nat} (h : BytesAt w ao 8 c [192, 0, 0, 8, 0, 0, 0, 1]) :
    Calls Tryd.prog 20 #[.slice ao 8 c] w (FwdIs w [192, 0, 0, 8, 0, 0, 0, 1] 0) :=
  forwardOf_yes h (by decide) (by decide) (by decide) (by decide)

theorem forwardOf_bad {w : World} {ao : Option Addr} {n c : Nat} {l : List Int} (h : BytesAt w ao n c l) (hs : n ≤ 2147483647) (hg : GlobErr w 9) (h4 : 4 ≤ n) (hw : be2 l 2 = n) (hn : n < 8) :
    Calls Tryd.prog 20 #[.slice ao n c] w (FwdNot w) := by
  refine forwardOf_no h hs fun w1 a1 c1 hB hc1 hL => ?_
  have hM : Mod (fun _ => False) w (zzfwW w1) := (Mod.of_below (S := fun _ => False) hL).trans (zzfwW_mod w1)
  have l9 := hg.lt
  have hz := hL.size
  obtain ⟨b, off, rfl, hCh⟩ := hB.chunk h4 hs hc1
  have hb1 := hCh.lt
  exact zzfw_err (fw_short (hCh.mod (zzfwW_mod w1) (fun h => h)) hw _ (zzfwW_q w1) (by omega) hn (hg.mod hM (fun h => h)) (by omega))

set_option maxHeartbeats 400000 in
theorem fwd_great (w : World) (ao : Option Addr) (n c : Nat) (hs : ¬ (n : Int) ≤ 2147483647) : Calls Tryd.prog 7 #[.slice ao n c] w (IsTrue w) := by
  go_enter Tryd.func7, Tryd.ntmps7
  go_wp2_with fail
  go_ret
  exact ⟨rfl, Below.refl _ _⟩

set_option maxHeartbeats 400000 in
theorem fwd_not {w : World} {ao : Option Addr} {n c : Nat} {l : List Int} (h : BytesAt w ao n c l) (hs : n ≤ 2147483647) (hw : isWholeB l = false) :
    Calls Tryd.prog 7 #[.slice ao n c] w (IsTrue w) := by
  have HC := lawIsWhole ao n c l w h hs
  rw [hw] at HC
  have HC := Lib.hid HC
  clear h hw
  go_enter Tryd.func7, Tryd.ntmps7
  go_wp2_with (go_at_call 9; refine HC.out.mono ?_; rintro e w1 ⟨rfl, rfl⟩)
  go_ret
  exact ⟨rfl, Below.refl _ _⟩

set_option maxHeartbeats 400000 in
theorem fwd_odd {w : World} {ao : Option Addr} {n c : Nat} {l : List Int} (h : BytesAt w ao n c l) (hs : n ≤ 2147483647) (hw : isWholeB l = true) (h4 : ¬ (n : Int) % 4 = 0) :
    Calls Tryd.prog 7 #[.slice ao n c] w (IsTrue w) := by
  have HC := lawIsWhole ao n c l w h hs
  rw [hw] at HC
  have HC := Lib.hid HC
  clear h hw
  have ht : ((n : Int) % 4 != 0) = true := by simpa using h4
  go_enter Tryd.func7, Tryd.ntmps7
  go_wp2_with (go_at_call 9; refine HC.out.mono ?_; rintro e w1 ⟨rfl, rfl⟩)
  go_ret
  exact ⟨rfl, Below.refl _ _⟩

set_option maxHeartbeats 400000 in
theorem fwd_other {w : World} {ao : Option Addr} {n c : Nat} {l : List Int} (h : BytesAt w ao n c l) (hc : c ≤ 9223372036854775807) (hs : n ≤ 2147483647) (hw : isWholeB l = true) (h4 : (n : Int) % 4 = 0) (h0 : l.getD 0 0 ≠ 192) :
    Calls Tryd.prog 7 #[.slice ao n c] w (IsTrue w) := by
  have HC := lawIsWhole ao n c l w h hs
  rw [hw] at HC
  have HC := Lib.hid HC
  obtain ⟨w4, we⟩ := whole_of hw
  have hn : 4 ≤ n := by rw [← h.len]; exact w4
  obtain ⟨b, off, rfl, hCh⟩ := h.chunk hn hs hc
  obtain ⟨x, hx⟩ : ∃ x, x = l.getD 0 0 := ⟨_, rfl⟩
  have g0 : w.cell? ⟨b, off, none⟩ = some (.int .u8 x) := by rw [hx]; exact hCh.cell 0 (by omega)
  have hx0 : (x == 192) = false := by rw [hx]; simpa using h0
  have hn1 : (0 : Int) < n := by omega
  have hn2 : 0 < n := by omega
  clear h hw we w4 hCh hx h0
  have ht : ((n : Int) % 4 != 0) = false := by simpa using h4
  have HH := Lib.hid h4
  clear h4
  go_enter Tryd.func7, Tryd.ntmps7
  go_wp2_with (go_at_call 9; refine HC.out.mono ?_; rintro e w1 ⟨rfl, rfl⟩)
  go_ret
  exact ⟨rfl, Below.refl _ _⟩

set_option maxHeartbeats 1000000 in
set_option maxRecDepth 20000 in
theorem fwd_bad {w : World} {ao : Option Addr} {n c : Nat} {l : List Int} (h : BytesAt w ao n c l) (hc : c ≤ 9223372036854775807) (hs : n ≤ 2147483647) (hw : isWholeB l = true) (h4 : (n : Int) % 4 = 0) (h0 : l.getD 0 0 = 192) (hg : GlobErr w 9) (hb : n < 8) :
    Calls Tryd.prog 7 #[.slice ao n c] w (IsTrue w) := by
  have HC := lawIsWhole ao n c l w h hs
  rw [hw] at HC
  have HC := Lib.hid HC
  obtain ⟨w4, we⟩ := whole_of hw
  have hn : 4 ≤ n := by rw [← h.len]; exact w4
  have HWE : Hid (be2 l 2 = n) := Lib.hid (by rw [we, h.len])
  have HB := Lib.hid h
  obtain ⟨b, off, rfl, hCh⟩ := h.chunk hn hs hc
  have HS := Lib.hid (specForward_no hCh h0 hb)
  have g0 : w.cell? ⟨b, off, none⟩ = some (.int .u8 192) := by rw [← h0]; exact hCh.cell 0 (by omega)
  have hn1 : (0 : Int) < n := by omega
  have hn2 : 0 < n := by omega
  have ht : ((n : Int) % 4 != 0) = false := by simpa using h4
  have HG := Lib.hid hg
  clear h hw we hCh w4 hg h4 h0
  go_enter Tryd.func7, Tryd.ntmps7
  go_wp2_with (go_at_call 9; refine HC.out.mono ?_; rintro e w1 ⟨rfl, rfl⟩)
  refine HS.out.mono ?_
  rintro e w1 ⟨rfl, hL1⟩
  simp only [imfw]
  have HL1 := Lib.hid hL1
  clear hL1 g0
  go_wp2_with fail
  generalize hW2 : World.alloc w1 _ = w2
  have L2 : Below w.heap.size w w2 := by rw [← hW2]; exact HL1.out.alloc HL1.out.size _
  have M2 := Mod.of_below (S := fun _ => False) L2
  have HD := Lib.hid (forwardOf_bad (HB.out.mod M2 (fun _ _ h => h)) hs (HG.out.mod M2 (fun h => h)) hn HWE.out hb)
  have HL2 := Lib.hid L2
  clear hW2 L2 M2 HL1
  refine HD.out.mono ?_
  rintro e w3 ⟨rfl, hL3⟩
  simp only [imfw]
  have HL3 := Lib.hid (HL2.out.trans (hL3.mono HL2.out.size))
  clear hL3 HL2
  go_wp2_with fail
  generalize hW4 : World.alloc w3 _ = w4
  have L4 : Below w.heap.size w w4 := by rw [← hW4]; exact HL3.out.alloc HL3.out.size _
  have HL4 := Lib.hid L4
  clear hW4 L4 HL3
  refine (fwd_one w4).mono ?_
  rintro e w5 ⟨a5, c5, rfl, hB5, hf5, hc5, hL5⟩
  have HE := Lib.hid (forwardOf_one hB5)
  have HL5 := Lib.hid (HL4.out.trans (hL5.mono HL4.out.size))
  clear hB5 hf5 hL5 HL4
  go_wp2_with fail
  refine HE.out.mono ?_
  rintro e w6 ⟨pa, pc, rfl, hrg, hL6⟩
  have HL6 := Lib.hid (HL5.out.trans (hL6.mono HL5.out.size))
  clear hrg hL6 HL5
  go_wp2_with fail
  go_ret
  exact ⟨rfl, HL6.out.alloc HL6.out.size _⟩



set_option maxHeartbeats 2000000 in
set_option maxRecDepth 20000 in
theorem fwd_yes {w : World} {ao : Option Addr} {n c S : Nat} {l : List Int} (h : BytesAt w ao n c l) (hc : c ≤ 9223372036854775807) (hs : n ≤ 2147483647) (hw : isWholeB l = true) (h0 : l.getD 0 0 = 192) (he : n = 8 + 4 * S) (hS : S < 65536) :
    Calls Tryd.prog 7 #[.slice ao n c] w (IsTrue w) := by
  have HC := lawIsWhole ao n c l w h hs
  rw [hw] at HC
  have HC := Lib.hid HC
  obtain ⟨w4, we⟩ := whole_of hw
  have hn : 4 ≤ n := by omega
  have HWE : Hid (be2 l 2 = n) := Lib.hid (by rw [we, h.len])
  have HB := Lib.hid h
  obtain ⟨b, off, rfl, hCh⟩ := h.chunk hn hs hc
  have HS := Lib.hid (specForward_yes hCh h0 he hS)
  have h4 : (n : Int) % 4 = 0 := by omega
  have g0 : w.cell? ⟨b, off, none⟩ = some (.int .u8 192) := by rw [← h0]; exact hCh.cell 0 (by omega)
  have hn1 : (0 : Int) < n := by omega
  have hn2 : 0 < n := by omega
  have ht : ((n : Int) % 4 != 0) = false := by simpa using h4
  have HE16 := Lib.hid he
  obtain ⟨t, htt⟩ : ∃ y, y = be4 l 4 := ⟨_, rfl⟩
  have HT := Lib.hid htt
  clear h hw we hCh w4 h0 he htt h4
  go_enter Tryd.func7, Tryd.ntmps7
  go_wp2_with (go_at_call 9; refine HC.out.mono ?_; rintro e w1 ⟨rfl, rfl⟩)
  refine HS.out.mono ?_
  rintro e w1 ⟨pa, pc, rfl, hpg, hL1⟩
  rw [← HT.out]
  have HPG := Lib.hid hpg
  have HL1 := Lib.hid hL1
  clear hL1 hpg g0
  go_wp2_with fail
  generalize hW2 : World.alloc w1 _ = w2
  have L2 : Below w.heap.size w w2 := by rw [← hW2]; exact HL1.out.alloc HL1.out.size _
  have bX : w2.heap[w1.heap.size]? = some (.cells #[.int .u32 t, .slice pa S pc] 45 (0, 0)) := by rw [← hW2]; exact heap_new w1 _
  have M12 : Mod (fun _ => False) w1 w2 := by rw [← hW2]; exact (Mod.refl _ w1).alloc _
  have M2 := Mod.of_below (S := fun _ => False) L2
  have HD2 := Lib.hid (forwardOf_yes (HB.out.mod M2 (fun _ _ h => h)) hs HWE.out HE16.out hS)
  have HL2 := Lib.hid L2
  have BX2 := Lib.hid bX
  have HX2 : Hid (w1.heap.size < w2.heap.size) := Lib.hid (Array.getElem?_eq_some_iff.1 bX).1
  have HPG2 := Lib.hid (HPG.out.mod M12 (fun _ h => h.elim))
  clear hW2 L2 M2 HL1 bX M12 HPG
  refine HD2.out.mono ?_
  rintro e w3 ⟨qa, qc, rfl, hqg, hL3⟩
  rw [← HT.out]
  have M23 := Mod.of_below (S := fun _ => False) hL3
  have HL3 := Lib.hid (HL2.out.trans (hL3.mono HL2.out.size))
  have BX3 := Lib.hid ((hL3.block _ HX2.out).trans BX2.out)
  have HX3 : Hid (w1.heap.size < w3.heap.size) := Lib.hid (Nat.lt_of_lt_of_le HX2.out hL3.size)
  have HPG3 := Lib.hid (HPG2.out.mod M23 (fun _ h => h.elim))
  have HQG3 := Lib.hid hqg
  clear hL3 HL2 hqg M23 HPG2
  go_wp2_with fail
  generalize hW4 : World.alloc w3 _ = w4
  have L4 : Below w.heap.size w w4 := by rw [← hW4]; exact HL3.out.alloc HL3.out.size _
  have l34 : Below w3.heap.size w3 w4 := by rw [← hW4]; exact (Below.refl _ w3).alloc (Nat.le_refl _) _
  have M34 := Mod.of_below (S := fun _ => False) l34
  have bY : w4.heap[w3.heap.size]? = some (.cells #[.int .u32 t, .slice qa S qc] 45 (0, 0)) := by rw [← hW4]; exact heap_new w3 _
  have HL4 := Lib.hid L4
  have BX4 := Lib.hid ((l34.block _ HX3.out).trans BX3.out)
  have HX4 : Hid (w1.heap.size < w4.heap.size) := Lib.hid (Nat.lt_of_lt_of_le HX3.out l34.size)
  have BY4 := Lib.hid bY
  have HY4 : Hid (w3.heap.size < w4.heap.size) := Lib.hid (Array.getElem?_eq_some_iff.1 bY).1
  have HPG4 := Lib.hid (HPG3.out.mod M34 (fun _ h => h.elim))
  have HQG4 := Lib.hid (HQG3.out.mod M34 (fun _ h => h.elim))
  clear hW4 L4 HL3 l34 bY M34 HPG3 HQG3
  refine (fwd_one w4).mono ?_
  rintro e w5 ⟨a5, c5, rfl, hB5, hf5, hc5, hL5⟩
  have HE := Lib.hid (forwardOf_one hB5)
  have M45 := Mod.of_below (S := fun _ => False) hL5
  have HL5 := Lib.hid (HL4.out.trans (hL5.mono HL4.out.size))
  have BX5 := Lib.hid ((hL5.block _ HX4.out).trans BX4.out)
  have BY5 := Lib.hid ((hL5.block _ HY4.out).trans BY4.out)
  have HX5 : Hid (w1.heap.size < w5.heap.size) := Lib.hid (Nat.lt_of_lt_of_le HX4.out hL5.size)
  have HY5 : Hid (w3.heap.size < w5.heap.size) := Lib.hid (Nat.lt_of_lt_of_le HY4.out hL5.size)
  clear hB5 hf5 hL5 HL4
  go_wp2_with fail
  refine HE.out.mono ?_
  rintro e w6 ⟨ra, rc, rfl, _, hL6⟩
  have M56 := Mod.of_below (S := fun _ => False) hL6
  have HL6 := Lib.hid (HL5.out.trans (hL6.mono HL5.out.size))
  have BX6 := Lib.hid ((hL6.block _ HX5.out).trans BX5.out)
  have BY6 := Lib.hid ((hL6.block _ HY5.out).trans BY5.out)
  have hX6 : w1.heap.size < w6.heap.size := Nat.lt_of_lt_of_le HX5.out hL6.size
  have hY6 : w3.heap.size < w6.heap.size := Nat.lt_of_lt_of_le HY5.out hL6.size
  have M46 := M45.trans M56
  have HPG6 := Lib.hid (HPG4.out.mod M46 (fun _ h => h.elim))
  have HQG6 := Lib.hid (HQG4.out.mod M46 (fun _ h => h.elim))
  clear hL6 HL5 M45 M56 M46 HPG4 HQG4
  have s0 : w6.cell? ⟨w1.heap.size, 0, none⟩ = some (.int .u32 t) := by rw [cell_of_block BX6.out]; rfl
  have s1 : w6.cell? ⟨w1.heap.size, 1, none⟩ = some (.slice pa S pc) := by rw [cell_of_block BX6.out]; rfl
  have t0 : w6.cell? ⟨w3.heap.size, 0, none⟩ = some (.int .u32 t) := by rw [cell_of_block BY6.out]; rfl
  have t1 : w6.cell? ⟨w3.heap.size, 1, none⟩ = some (.slice qa S qc) := by rw [cell_of_block BY6.out]; rfl
  go_wp2_with fail
  generalize hW7 : World.alloc w6 _ = w7
  have M67 : Mod (fun _ => False) w6 w7 := by rw [← hW7]; exact (Mod.refl _ w6).alloc _
  have HL7 : Hid (Below w.heap.size w w7) := Lib.hid (by rw [← hW7]; exact HL6.out.alloc HL6.out.size _)
  have S2 := Lib.hid ((M67.cell (p := ⟨w1.heap.size, 1, none⟩) hX6 (fun h => h)).trans s1)
  have T2 := Lib.hid ((M67.cell (p := ⟨w3.heap.size, 1, none⟩) hY6 (fun h => h)).trans t1)
  have HPG7 := Lib.hid (HPG6.out.mod M67 (fun _ h => h.elim))
  have HQG7 := Lib.hid (HQG6.out.mod M67 (fun _ h => h.elim))
  clear hW7 M67 HL6 s0 s1 t0 t1 HPG6 HQG6 hX6 hY6
  go_loopw [76] (fun i wr => CmpRel w7 S i wr) (fun i _ => S - (intOf i).toNat)
  case atStart => exact ⟨0, Nat.zero_le _, rfl, rfl, rfl, rfl, rfl⟩
  case round =>
    obtain ⟨j, hj, rfl, hsm⟩ := hrel
    by_cases hjk : j < S
    · have hjG : (j : Int) < S := by omega
      obtain ⟨g, rfl, hgc, hcg⟩ := HPG7.out.at (by omega)
      obtain ⟨g', rfl, hgc', hcg'⟩ := HQG7.out.at (by omega)
      obtain ⟨x, hx⟩ : ∃ x, x = be2 l (8 + 2 * (j * 2)) := ⟨_, rfl⟩
      obtain ⟨y, hy⟩ : ∃ y, y = be2 l (8 + 2 * (j * 2 + 1)) := ⟨_, rfl⟩
      have s2 := (hsm.cell _).trans S2.out
      have t2 := (hsm.cell _).trans T2.out
      have c0 : wr.cell? ⟨g, j * 2, none⟩ = some (.int .i64 x) := by rw [hsm.cell, hcg (j * 2) (by omega), hx]
      have c1 : wr.cell? ⟨g, j * 2 + 1, none⟩ = some (.int .i64 y) := by rw [hsm.cell, hcg (j * 2 + 1) (by omega), hy]
      have e0 : wr.cell? ⟨g', j * 2, none⟩ = some (.int .i64 x) := by rw [hsm.cell, hcg' (j * 2) (by omega), hx]
      have e1 : wr.cell? ⟨g', j * 2 + 1, none⟩ = some (.int .i64 y) := by rw [hsm.cell, hcg' (j * 2 + 1) (by omega), hy]
      have HSM := Lib.hid hsm
      have w1j := wraps_i64 ((j : Int) + 1) (by omega) (by omega)
      have hq43 := fun w => eq43 w x y
      clear hsm hcg hcg' hx hy
      go_wp2_with fail
      go_quiet (fail)
      go_wp2_with fail
      go_roundw
      case rel => exact ⟨j + 1, hjk, by go_num, HSM.out.drewN _⟩
      case measure => simp [intOf]; omega
    · obtain rfl : j = S := by omega
      have hjj : (j : Int) ≤ j := Int.le_refl _
      have HSM := Lib.hid hsm
      clear hsm
      go_wp2_with fail
      go_ret
      exact ⟨rfl, HSM.out.below HL7.out HL7.out.size⟩

/-- FnForwardAny, for every input. -/
theorem fwd_all {w : World} {ao : Option Addr} {n c : Nat} {l : List Int} (h : BytesAt w ao n c l) (hc : c ≤ 9223372036854775807) (hg : GlobErr w 9) :
    Calls Tryd.prog 7 #[.slice ao n c] w (IsTrue w) := by
  by_cases hs : n ≤ 2147483647
  · cases hw : isWholeB l with
    | false => exact fwd_not h hs hw
    | true =>
      by_cases h4 : (n : Int) % 4 = 0
      · by_cases h0 : l.getD 0 0 = 192
        · by_cases h8 : n < 8
          · exact fwd_bad h hc hs hw h4 h0 hg h8
          · have hb := be2_bound h.byte 2
            obtain ⟨_, we⟩ := whole_of hw
            have hlen := h.len
            exact fwd_yes (S := (n - 8) / 4) h hc hs hw h0 (by omega) (by omega)
        · exact fwd_other h hc hs hw h4 h0
      · exact fwd_odd h hs hw h4
  · exact fwd_great w ao n c (by omega)
end Go.Proofs.YtnajpmdnadjipaaDoor