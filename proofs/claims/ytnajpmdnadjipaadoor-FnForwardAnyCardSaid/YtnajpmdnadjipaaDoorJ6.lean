/- laws.FnSackAny returns true for every slice of bytes and leaves the memory that was there as it was; conditions: the package's errors are there (SkGlobs). -/
import Derived.Test.YtnajpmdnadjipaaDoorJ4
import Derived.Test.YtnajpmdnadjipaaDoorJ5
import Derived.Test.YtnajpmdnadjipaaDoorG1
import Derived.ChangeKeysEq
namespace Go.Proofs.YtnajpmdnadjipaaDoor
open Go.RowKit
set_option linter.unusedVariables false

structure SkGlobs (w : World) : Prop where
  e6 : GlobErr w 6
  e7 : GlobErr w 7
  e8 : GlobErr w 8
theorem SkGlobs.mod {w w' : World} (h : SkGlobs w) (hM : Mod (fun _ => False) w w') : SkGlobs w' := ⟨h.e6.mod hM (fun h => h), h.e7.mod hM (fun h => h), h.e8.mod hM (fun h => h)⟩
def SackBad (l : List Int) (n : Nat) : Prop := l.getD 0 0 ≠ 3 ∨ n < 16 ∨ (n : Int) ≠ 16 + 4 * be2 l 12 + 4 * be2 l 14

theorem sackOf_bad {w : World} {ao : Option Addr} {n c : Nat} {l : List Int} (h : BytesAt w ao n c l) (hs : n ≤ 2147483647) (hg : SkGlobs w) (h4 : 4 ≤ n) (hw : be2 l 2 = n) (hb : SackBad l n) :
    Calls Tryd.prog 17 #[.slice ao n c] w (SackNot w) := by
  refine sackOf_no h hs fun w1 a1 c1 hB hc1 hL => ?_
  have hM : Mod (fun _ => False) w (zzskW w1) := (Mod.of_below (S := fun _ => False) hL).trans (zzskW_mod w1)
  have l6 := hg.e6.lt; have l7 := hg.e7.lt; have l8 := hg.e8.lt
  have hz := hL.size
  obtain ⟨b, off, rfl, hCh⟩ := hB.chunk h4 hs hc1
  have hb1 := hCh.lt
  have hC := hCh.mod (zzskW_mod w1) (fun h => h)
  by_cases h3 : l.getD 0 0 = 3
  · by_cases h16 : n < 16
    · exact zzsk_err (sk_short hC hw _ (zzskW_q w1) (by omega) h3 h16 (hg.e7.mod hM (fun h => h)) (by omega))
    · rcases hb with h | h | h
      · exact absurd h3 h
      · exact absurd h h16
      · exact zzsk_err (sk_mis hC hw _ (zzskW_q w1) (by omega) h3 (by omega) h (hg.e8.mod hM (fun h => h)) (by omega))
  · exact zzsk_err (sk_no hC hw _ (zzskW_q w1) (by omega) h3 (hg.e6.mod hM (fun h => h)) (by omega))

theorem sackOf_one {w : World} {ao : Option Addr} {c : Nat} (h : BytesAt w ao 16 c [3, 0, 0, 16, 0, 0, 0, 1, 0, 0, 0, 0, 0, 0, 0, 0]) :
    Calls Tryd.prog 17 #[.slice ao 16 c] w (SackIs w [3, 0, 0, 16, 0, 0, 0, 1, 0, 0, 0, 0, 0, 0, 0, 0]) :=
  sackOf_yes h (by decide) (by decide) (by decide) (by decide) (by decide)

set_option maxHeartbeats 400000 in
theorem sack_great (w : World) (ao : Option Addr) (n c : Nat) (hs : ¬ (n : Int) ≤ 2147483647) : Calls Tryd.prog 6 #[.slice ao n c] w (IsTrue w) := by
  go_enter Tryd.func6, Tryd.ntmps6
  go_wp2_with fail
  go_ret
  exact ⟨rfl, Below.refl _ _⟩

set_option maxHeartbeats 400000 in
theorem sack_not {w : World} {ao : Option Addr} {n c : Nat} {l : List Int} (h : BytesAt w ao n c l) (hs : n ≤ 2147483647) (hw : isWholeB l = false) :
    Calls Tryd.prog 6 #[.slice ao n c] w (IsTrue w) := by
  have HC := lawIsWhole ao n c l w h hs
  rw [hw] at HC
  have HC := Lib.hid HC
  clear h hw
  go_enter Tryd.func6, Tryd.ntmps6
  go_wp2_with (go_at_call 9; refine HC.out.mono ?_; rintro e w1 ⟨rfl, rfl⟩)
  go_ret
  exact ⟨rfl, Below.refl _ _⟩

set_option maxHeartbeats 1000000 in
set_option maxRecDepth 20000 in
theorem sack_bad {w : World} {ao : Option Addr} {n c : Nat} {l : List Int} (h : BytesAt w ao n c l) (hc : c ≤ 9223372036854775807) (hs : n ≤ 2147483647) (hw : isWholeB l = true) (hg : SkGlobs w) (hb : SackBad l n) :
    Calls Tryd.prog 6 #[.slice ao n c] w (IsTrue w) := by
  have HC := lawIsWhole ao n c l w h hs
  rw [hw] at HC
  have HC := Lib.hid HC
  obtain ⟨w4, we⟩ := whole_of hw
  have hn : 4 ≤ n := by rw [← h.len]; exact w4
  have HWE : Hid (be2 l 2 = n) := Lib.hid (by rw [we, h.len])
  have HB := Lib.hid h
  obtain ⟨b, off, rfl, hCh⟩ := h.chunk hn hs hc
  have HS := Lib.hid (specSack_no hCh hb)
  have HNO := Lib.hid hb
  have HG := Lib.hid hg
  clear h hw we hCh w4 hg hb
  go_enter Tryd.func6, Tryd.ntmps6
  go_wp2_with (go_at_call 9; refine HC.out.mono ?_; rintro e w1 ⟨rfl, rfl⟩)
  refine HS.out.mono ?_
  rintro e w1 ⟨rfl, hL1⟩
  simp only [imsk]
  have HL1 := Lib.hid hL1
  clear hL1
  go_wp2_with fail
  generalize hW2 : World.alloc w1 _ = w2
  have L2 : Below w.heap.size w w2 := by rw [← hW2]; exact HL1.out.alloc HL1.out.size _
  have M2 := Mod.of_below (S := fun _ => False) L2
  have HD := Lib.hid (sackOf_bad (HB.out.mod M2 (fun _ _ h => h)) hs (HG.out.mod M2) hn HWE.out HNO.out)
  have HL2 := Lib.hid L2
  clear hW2 L2 M2 HL1
  refine HD.out.mono ?_
  rintro e w3 ⟨rfl, hL3⟩
  simp only [imsk]
  have HL3 := Lib.hid (HL2.out.trans (hL3.mono HL2.out.size))
  clear hL3 HL2
  go_wp2_with fail
  generalize hW4 : World.alloc w3 _ = w4
  have L4 : Below w.heap.size w w4 := by rw [← hW4]; exact HL3.out.alloc HL3.out.size _
  have HL4 := Lib.hid L4
  clear hW4 L4 HL3
  refine (sack_one w4).mono ?_
  rintro e w5 ⟨a5, c5, rfl, hB5, hf5, hc5, hL5⟩
  have HE := Lib.hid (sackOf_one hB5)
  have HL5 := Lib.hid (HL4.out.trans (hL5.mono HL4.out.size))
  clear hB5 hf5 hL5 HL4
  go_wp2_with fail
  refine HE.out.mono ?_
  rintro e w6 ⟨pa, pc, da, dc, G, D, rfl, hG, hD, hrg, hrd, hL6⟩
  have HL6 := Lib.hid (HL5.out.trans (hL6.mono HL5.out.size))
  clear hG hD hrg hrd hL6 HL5
  go_wp2_with fail
  go_ret
  exact ⟨rfl, HL6.out.alloc HL6.out.size _⟩


theorem eq43 (w : World) (x y : Int) : (Op.equalIn 10000 43 (.agg #[.int .i64 x, .int .i64 y]) (.agg #[.int .i64 x, .int .i64 y])).run Tryd.prog w = .ok true w := by
  obtain ⟨i0, hi, hz0, hz1, hz2⟩ := info_parts (show (Tryd.prog.info? 3).map (fun i => (i.zero, i.size, i.bytes)) = some (some (.int .i64 0), 1, 8) by kernel_rfl)
  have hc : Tryd.prog.cellsOf 3 = 1 := by kernel_rfl
  rw [run_equalIn_array w 9999 _ _ Tryd.underlying43 hi, hc]
  simp only [List.range, List.range.loop, Op.eqItems]
  have hu := Tryd.underlying3
  simp [go_sem, part, run_equalIn_int _ _ _ _ _ _ _ hu]

/-- The memory is as it was: only the tape was asked. -/
def Same (w w' : World) : Prop := w'.heap = w.heap ∧ w'.os = w.os ∧ w'.tape = w.tape ∧ w'.output = w.output
theorem Same.cell {w w' : World} (h : Same w w') (p : Addr) : w'.cell? p = w.cell? p := World.cell?_of_block (by rw [h.1])
theorem Same.drewN {w w' : World} (h : Same w w') (n : Nat) : Same w (w'.drewN n) := h
theorem Same.below {w w' : World} {B : Nat} {a : World} (h : Same w w') (hb : Below B a w) (hB : B ≤ w.heap.size) : Below B a w' :=
  hb.trans ((show Mod (fun _ => False) w w' from ⟨h.2.1, h.2.2.1, h.2.2.2, by rw [h.1]; exact Nat.le_refl _, fun _ _ _ => by rw [h.1]⟩).below hB (fun _ h => h.elim))
def CmpRel (w7 : World) (G : Nat) (i : Value) (wr : World) : Prop := ∃ j : Nat, j ≤ G ∧ i = .int .i64 j ∧ Same w7 wr
theorem RowAt.at {B : Nat} {w : World} {ao : Option Addr} {n c size : Nat} {f : Nat → Value} (h : RowAt B w ao n c size f) (hn : 0 < n) : ∃ g, ao = some ⟨g, 0, none⟩ ∧ n ≤ c ∧ ∀ k, k < n * size → w.cell? ⟨g, k, none⟩ = some (f k) := by
  rcases h with ⟨_, h, _⟩ | ⟨g, rfl, _, _, hc, hk⟩
  · omega
  · exact ⟨g, rfl, hc, hk⟩

set_option maxHeartbeats 2000000 in
set_option maxRecDepth 20000 in
theorem sack_yes {w : World} {ao : Option Addr} {n c : Nat} {l : List Int} (h : BytesAt w ao n c l) (hc : c ≤ 9223372036854775807) (hs : n ≤ 2147483647) (hw : isWholeB l = true) (h3 : l.getD 0 0 = 3) (h16 : 16 ≤ n) (he : (n : Int) = 16 + 4 * be2 l 12 + 4 * be2 l 14) :
    Calls Tryd.prog 6 #[.slice ao n c] w (IsTrue w) := by
  have HC := lawIsWhole ao n c l w h hs
  rw [hw] at HC
  have HC := Lib.hid HC
  obtain ⟨w4, we⟩ := whole_of hw
  have hn : 4 ≤ n := by omega
  have HWE : Hid (be2 l 2 = n) := Lib.hid (by rw [we, h.len])
  have HB := Lib.hid h
  obtain ⟨b, off, rfl, hCh⟩ := h.chunk hn hs hc
  have HS := Lib.hid (specSack_yes hCh h3 h16 he)
  have H3 := Lib.hid h3; have HE16 := Lib.hid he
  have b12 := (be2_bound h.byte 12).2; have b14 := (be2_bound h.byte 14).2
  have HB12 := Lib.hid b12; have HB14 := Lib.hid b14
  obtain ⟨t, ht⟩ : ∃ y, y = be4 l 4 := ⟨_, rfl⟩
  obtain ⟨u, hu⟩ : ∃ y, y = be4 l 8 := ⟨_, rfl⟩
  have HT := Lib.hid ht; have HU := Lib.hid hu
  clear h hw we hCh w4 h3 he ht hu b12 b14
  go_enter Tryd.func6, Tryd.ntmps6
  go_wp2_with (go_at_call 9; refine HC.out.mono ?_; rintro e w1 ⟨rfl, rfl⟩)
  refine HS.out.mono ?_
  rintro e w1 ⟨pa, pc, da, dc, G, D, rfl, hG, hD, hpg, hpd, hL1⟩
  rw [← HT.out, ← HU.out]
  have HG := Lib.hid hG; have HD := Lib.hid hD; have HPG := Lib.hid hpg; have HPD := Lib.hid hpd
  have HL1 := Lib.hid hL1
  clear hL1 hG hD hpg hpd
  go_wp2_with fail
  generalize hW2 : World.alloc w1 _ = w2
  have L2 : Below w.heap.size w w2 := by rw [← hW2]; exact HL1.out.alloc HL1.out.size _
  have bX : w2.heap[w1.heap.size]? = some (.cells #[.int .u32 t, .int .u32 u, .slice pa G pc, .slice da D dc] 39 (0, 0)) := by rw [← hW2]; exact heap_new w1 _
  have M12 : Mod (fun _ => False) w1 w2 := by rw [← hW2]; exact (Mod.refl _ w1).alloc _
  have M2 := Mod.of_below (S := fun _ => False) L2
  have HD2 := Lib.hid (sackOf_yes (HB.out.mod M2 (fun _ _ h => h)) hs HWE.out H3.out h16 HE16.out)
  have HL2 := Lib.hid L2
  have BX2 := Lib.hid bX
  have HX2 : Hid (w1.heap.size < w2.heap.size) := Lib.hid (Array.getElem?_eq_some_iff.1 bX).1
  have HPG2 := Lib.hid (HPG.out.mod M12 (fun _ h => h.elim)); have HPD2 := Lib.hid (HPD.out.mod M12 (fun _ h => h.elim))
  clear hW2 L2 M2 HL1 bX M12 HPG HPD
  refine HD2.out.mono ?_
  rintro e w3 ⟨qa, qc, ea, ec, G', D', rfl, hG, hD, hqg, hqd, hL3⟩
  rw [← HT.out, ← HU.out]
  obtain rfl : G' = G := by have := HG.out; omega
  obtain rfl : D' = D := by have := HD.out; omega
  have M23 := Mod.of_below (S := fun _ => False) hL3
  have HL3 := Lib.hid (HL2.out.trans (hL3.mono HL2.out.size))
  have BX3 := Lib.hid ((hL3.block _ HX2.out).trans BX2.out)
  have HX3 : Hid (w1.heap.size < w3.heap.size) := Lib.hid (Nat.lt_of_lt_of_le HX2.out hL3.size)
  have HPG3 := Lib.hid (HPG2.out.mod M23 (fun _ h => h.elim)); have HPD3 := Lib.hid (HPD2.out.mod M23 (fun _ h => h.elim))
  have HQG3 := Lib.hid hqg; have HQD3 := Lib.hid hqd
  clear hL3 HL2 hG hD hqg hqd M23 HPG2 HPD2
  go_wp2_with fail
  generalize hW4 : World.alloc w3 _ = w4
  have L4 : Below w.heap.size w w4 := by rw [← hW4]; exact HL3.out.alloc HL3.out.size _
  have l34 : Below w3.heap.size w3 w4 := by rw [← hW4]; exact (Below.refl _ w3).alloc (Nat.le_refl _) _
  have M34 := Mod.of_below (S := fun _ => False) l34
  have bY : w4.heap[w3.heap.size]? = some (.cells #[.int .u32 t, .int .u32 u, .slice qa G' qc, .slice ea D' ec] 39 (0, 0)) := by rw [← hW4]; exact heap_new w3 _
  have HL4 := Lib.hid L4
  have BX4 := Lib.hid ((l34.block _ HX3.out).trans BX3.out)
  have HX4 : Hid (w1.heap.size < w4.heap.size) := Lib.hid (Nat.lt_of_lt_of_le HX3.out l34.size)
  have BY4 := Lib.hid bY
  have HY4 : Hid (w3.heap.size < w4.heap.size) := Lib.hid (Array.getElem?_eq_some_iff.1 bY).1
  have HPG4 := Lib.hid (HPG3.out.mod M34 (fun _ h => h.elim)); have HPD4 := Lib.hid (HPD3.out.mod M34 (fun _ h => h.elim))
  have HQG4 := Lib.hid (HQG3.out.mod M34 (fun _ h => h.elim)); have HQD4 := Lib.hid (HQD3.out.mod M34 (fun _ h => h.elim))
  clear hW4 L4 HL3 l34 bY M34 HPG3 HPD3 HQG3 HQD3
  refine (sack_one w4).mono ?_
  rintro e w5 ⟨a5, c5, rfl, hB5, hf5, hc5, hL5⟩
  have HE := Lib.hid (sackOf_one hB5)
  have M45 := Mod.of_below (S := fun _ => False) hL5
  have HL5 := Lib.hid (HL4.out.trans (hL5.mono HL4.out.size))
  have BX5 := Lib.hid ((hL5.block _ HX4.out).trans BX4.out)
  have BY5 := Lib.hid ((hL5.block _ HY4.out).trans BY4.out)
  have HX5 : Hid (w1.heap.size < w5.heap.size) := Lib.hid (Nat.lt_of_lt_of_le HX4.out hL5.size)
  have HY5 : Hid (w3.heap.size < w5.heap.size) := Lib.hid (Nat.lt_of_lt_of_le HY4.out hL5.size)
  clear hB5 hf5 hL5 HL4
  go_wp2_with fail
  refine HE.out.mono ?_
  rintro e w6 ⟨ra, rc, sa, sc, G6, D6, rfl, _, _, _, _, hL6⟩
  have M56 := Mod.of_below (S := fun _ => False) hL6
  have HL6 := Lib.hid (HL5.out.trans (hL6.mono HL5.out.size))
  have BX6 := Lib.hid ((hL6.block _ HX5.out).trans BX5.out)
  have BY6 := Lib.hid ((hL6.block _ HY5.out).trans BY5.out)
  have hX6 : w1.heap.size < w6.heap.size := Nat.lt_of_lt_of_le HX5.out hL6.size
  have hY6 : w3.heap.size < w6.heap.size := Nat.lt_of_lt_of_le HY5.out hL6.size
  have M46 := M45.trans M56
  have HPG6 := Lib.hid (HPG4.out.mod M46 (fun _ h => h.elim)); have HPD6 := Lib.hid (HPD4.out.mod M46 (fun _ h => h.elim))
  have HQG6 := Lib.hid (HQG4.out.mod M46 (fun _ h => h.elim)); have HQD6 := Lib.hid (HQD4.out.mod M46 (fun _ h => h.elim))
  have hG1 : G' < 65536 := by have := HG.out; have := HB12.out; omega
  have hD1 : D' < 65536 := by have := HD.out; have := HB14.out; omega
  clear hL6 HL5 M45 M56 M46 HPG4 HPD4 HQG4 HQD4
  have s0 : w6.cell? ⟨w1.heap.size, 0, none⟩ = some (.int .u32 t) := by rw [cell_of_block BX6.out]; rfl
  have s1 : w6.cell? ⟨w1.heap.size, 1, none⟩ = some (.int .u32 u) := by rw [cell_of_block BX6.out]; rfl
  have s2 : w6.cell? ⟨w1.heap.size, 2, none⟩ = some (.slice pa G' pc) := by rw [cell_of_block BX6.out]; rfl
  have s3 : w6.cell? ⟨w1.heap.size, 3, none⟩ = some (.slice da D' dc) := by rw [cell_of_block BX6.out]; rfl
  have t0 : w6.cell? ⟨w3.heap.size, 0, none⟩ = some (.int .u32 t) := by rw [cell_of_block BY6.out]; rfl
  have t1 : w6.cell? ⟨w3.heap.size, 1, none⟩ = some (.int .u32 u) := by rw [cell_of_block BY6.out]; rfl
  have t2 : w6.cell? ⟨w3.heap.size, 2, none⟩ = some (.slice qa G' qc) := by rw [cell_of_block BY6.out]; rfl
  have t3 : w6.cell? ⟨w3.heap.size, 3, none⟩ = some (.slice ea D' ec) := by rw [cell_of_block BY6.out]; rfl
  go_wp2_with fail
  generalize hW7 : World.alloc w6 _ = w7
  have M67 : Mod (fun _ => False) w6 w7 := by rw [← hW7]; exact (Mod.refl _ w6).alloc _
  have HL7 : Hid (Below w.heap.size w w7) := Lib.hid (by rw [← hW7]; exact HL6.out.alloc HL6.out.size _)
  have S2 := Lib.hid ((M67.cell (p := ⟨w1.heap.size, 2, none⟩) hX6 (fun h => h)).trans s2)
  have S3 := Lib.hid ((M67.cell (p := ⟨w1.heap.size, 3, none⟩) hX6 (fun h => h)).trans s3)
  have T2 := Lib.hid ((M67.cell (p := ⟨w3.heap.size, 2, none⟩) hY6 (fun h => h)).trans t2)
  have T3 := Lib.hid ((M67.cell (p := ⟨w3.heap.size, 3, none⟩) hY6 (fun h => h)).trans t3)
  have HPG7 := Lib.hid (HPG6.out.mod M67 (fun _ h => h.elim)); have HPD7 := Lib.hid (HPD6.out.mod M67 (fun _ h => h.elim))
  have HQG7 := Lib.hid (HQG6.out.mod M67 (fun _ h => h.elim)); have HQD7 := Lib.hid (HQD6.out.mod M67 (fun _ h => h.elim))
  clear hW7 M67 HL6 s0 s1 s2 s3 t0 t1 t2 t3 HPG6 HPD6 HQG6 HQD6 hX6 hY6
  go_loopw [81] (fun i wr => CmpRel w7 G' i wr) (fun i _ => G' - (intOf i).toNat)
  case atStart => exact ⟨0, Nat.zero_le _, rfl, rfl, rfl, rfl, rfl⟩
  case round =>
    obtain ⟨j, hj, rfl, hsm⟩ := hrel
    by_cases hjk : j < G'
    · have hjG : (j : Int) < G' := by omega
      obtain ⟨g, rfl, hgc, hcg⟩ := HPG7.out.at (by omega)
      obtain ⟨g', rfl, hgc', hcg'⟩ := HQG7.out.at (by omega)
      obtain ⟨x, hx⟩ : ∃ x, x = be2 l (16 + 2 * (j * 2)) := ⟨_, rfl⟩
      obtain ⟨y, hy⟩ : ∃ y, y = be2 l (16 + 2 * (j * 2 + 1)) := ⟨_, rfl⟩
      have s2 := (hsm.cell _).trans S2.out
      have t2 := (hsm.cell _).trans T2.out
      have c0 : wr.cell? ⟨g, j * 2, none⟩ = some (.int .i64 x) := by rw [hsm.cell, hcg (j * 2) (by omega), hx]
      have c1 : wr.cell? ⟨g, j * 2 + 1, none⟩ = some (.int .i64 y) := by rw [hsm.cell, hcg (j * 2 + 1) (by omega), hy]
      have e0 : wr.cell? ⟨g', j * 2, none⟩ = some (.int .i64 x) := by rw [hsm.cell, hcg' (j * 2) (by omega), hx]
      have e1 : wr.cell? ⟨g', j * 2 + 1, none⟩ = some (.int .i64 y) := by rw [hsm.cell, hcg' (j * 2 + 1) (by omega), hy]
      have HSM := Lib.hid hsm
      have w1j := wraps_i64 ((j : Int) + 1) (by omega) (by omega)
      have hq43 := fun w => eq43 w x y
      clear hsm hcg hcg' hx hy
      go_wp2_with fail
      go_quiet (fail)
      go_wp2_with fail
      go_roundw
      case rel => exact ⟨j + 1, hjk, by go_num, HSM.out.drewN _⟩
      case measure => simp [intOf]; omega
    · obtain rfl : j = G' := by omega
      have hjj : (j : Int) ≤ j := Int.le_refl _
      have s3 := (hsm.cell _).trans S3.out
      have HSM := Lib.hid hsm
      clear hsm
      go_wp2_with fail
      go_loopw [99] (fun i wr => CmpRel w7 D' i wr) (fun i _ => D' - (intOf i).toNat)
      case atStart => exact ⟨0, Nat.zero_le _, rfl, HSM.out⟩
      case round =>
        clear HSM s3
        obtain ⟨k, hk, rfl, hsm⟩ := hrel
        by_cases hkd : k < D'
        · have hkD : (k : Int) < D' := by omega
          obtain ⟨g, rfl, hgc, hcg⟩ := HPD7.out.at (by omega)
          obtain ⟨g', rfl, hgc', hcg'⟩ := HQD7.out.at (by omega)
          obtain ⟨x, hx⟩ : ∃ x, x = be4 l (16 + 4 * j + 4 * k) := ⟨_, rfl⟩
          have s3 := (hsm.cell _).trans S3.out
          have t3 := (hsm.cell _).trans T3.out
          have c0 : wr.cell? ⟨g, k, none⟩ = some (.int .u32 x) := by rw [hsm.cell, hcg k (by omega), hx]
          have e0 : wr.cell? ⟨g', k, none⟩ = some (.int .u32 x) := by rw [hsm.cell, hcg' k (by omega), hx]
          have HSM := Lib.hid hsm
          have w1k := wraps_i64 ((k : Int) + 1) (by omega) (by omega)
          clear hsm hcg hcg' hx
          go_wp2_with fail
          go_quiet (fail)
          go_wp2_with fail
          go_roundw
          case rel => exact ⟨k + 1, hkd, by go_num, HSM.out.drewN _⟩
          case measure => simp [intOf]; omega
        · obtain rfl : k = D' := by omega
          have hkk : (k : Int) ≤ k := Int.le_refl _
          have HSM := Lib.hid hsm
          clear hsm
          go_wp2_with fail
          go_ret
          exact ⟨rfl, HSM.out.below HL7.out HL7.out.size⟩

/-- FnSackAny, for every input. -/
theorem sack_all {w : World} {ao : Option Addr} {n c : Nat} {l : List Int} (h : BytesAt w ao n c l) (hc : c ≤ 9223372036854775807) (hg : SkGlobs w) :
    Calls Tryd.prog 6 #[.slice ao n c] w (IsTrue w) := by
  by_cases hs : n ≤ 2147483647
  · cases hw : isWholeB l with
    | false => exact sack_not h hs hw
    | true =>
      by_cases h3 : l.getD 0 0 = 3
      · by_cases h16 : n < 16
        · exact sack_bad h hc hs hw hg (.inr (.inl h16))
        · by_cases he : (n : Int) = 16 + 4 * be2 l 12 + 4 * be2 l 14
          · exact sack_yes h hc hs hw h3 (by omega) he
          · exact sack_bad h hc hs hw hg (.inr (.inr he))
      · exact sack_bad h hc hs hw hg (.inl h3)
  · exact sack_great w ao n c (by omega)
end Go.Proofs.YtnajpmdnadjipaaDoor
