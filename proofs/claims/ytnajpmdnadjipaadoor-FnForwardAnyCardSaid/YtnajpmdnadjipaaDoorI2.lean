import Derived.Test.YtnajpmdnadjipaaDoorI1
namespace Go.Proofs.YtnajpmdnadjipaaDoor
open Go.RowKit
set_option linter.unusedVariables false

theorem info110 : (Tryd.prog.info? 110).map (fun i => (i.zero, i.size, i.bytes)) = some (some (.agg #[.int .u16 0, .int .u16 0]), 2, 4) := by kernel_rfl
theorem info27 : (Tryd.prog.info? 27).map (fun i => (i.zero, i.size, i.bytes)) = some (some (.int .u32 0), 1, 4) := by kernel_rfl
theorem mk93 (g : Nat) (h : g < 65536) (w : World) : (Instr.makeSlice 93 (.int .u16 (g : Int)) (.int .u16 (g : Int))).run Tryd.prog w = .ok (.slice (some ⟨w.heap.size, 0, none⟩) g g) (w.alloc (.cells (madeCells #[.int .u16 0, .int .u16 0] (g * 2)) 110)) := by
  obtain ⟨i, hi, hzz⟩ := Option.map_eq_some_iff.1 info110
  simp only [Prod.mk.injEq] at hzz
  obtain ⟨hz, hs, hb⟩ := hzz
  have := run_make (P := Tryd.prog) w 93 110 i _ (by kernel_rfl) hi hz .u16 .u16 g g (by omega) (Int.le_refl _) (by rw [hb]; omega) (by omega)
  rw [hs] at this
  exact this
theorem mk37 (g : Nat) (h : g < 65536) (w : World) : (Instr.makeSlice 37 (.int .u16 (g : Int)) (.int .u16 (g : Int))).run Tryd.prog w = .ok (.slice (some ⟨w.heap.size, 0, none⟩) g g) (w.alloc (.cells (madeCells #[.int .u32 0] g) 27)) := by
  obtain ⟨i, hi, hzz⟩ := Option.map_eq_some_iff.1 info27
  simp only [Prod.mk.injEq] at hzz
  obtain ⟨hz, hs, hb⟩ := hzz
  have := run_make (P := Tryd.prog) w 37 27 i _ (by kernel_rfl) hi hz .u16 .u16 g g (by omega) (Int.le_refl _) (by rw [hb]; omega) (by omega)
  rw [hs, Nat.mul_one] at this
  exact this
theorem cell_alloc {w : World} {p : Addr} {v : Value} (h : w.cell? p = some v) (o : Obj) : (w.alloc o).cell? p = some v := by
  have hp : p.block < w.heap.size := lt_of_cell h
  exact (((Below.refl w.heap.size w).alloc (Nat.le_refl _) o).cell (p := p) hp).trans h
theorem frozen_alloc {w : World} {p : Addr} (hp : p.block < w.heap.size) (o : Obj) : (w.alloc o).frozen? p = w.frozen? p :=
  ((Below.refl w.heap.size w).alloc (Nat.le_refl _) o).frozen (p := p) hp

set_option maxHeartbeats 1000000 in
set_option maxRecDepth 20000 in
theorem sk_mis {w : World} {b off n c : Nat} {l : List Int} (h : ChunkAt w b off n c l) (hw : be2 l 2 = n) (q : Nat)
    (hq : w.heap[q]? = some (.cells sk0 95 (0, 0))) (hqb : q ≠ b) (h3 : l.getD 0 0 = 3) (hn : 16 ≤ n) (hne16 : (n : Int) ≠ 16 + 4 * be2 l 12 + 4 * be2 l 14) (e8 : GlobErr w 8) (hqg : q ≠ 8) :
    Calls Tryd.prog 39 #[.pointer (some ⟨q, 0, none⟩), .slice (some ⟨b, off, none⟩) n c] w (ErrPost (· = q) w) := by
  have HC := Lib.hid (hdr_w h hw q sk0 95 hq (by simp [sk0]) hqb)
  have H3 := Lib.hid h3
  have HL := Lib.hid h.len
  have hs := h.small
  obtain ⟨f, hf⟩ : ∃ x, x = l.getD 1 0 := ⟨_, rfl⟩
  have HF := Lib.hid hf
  have E := Lib.hid e8
  have HNE := Lib.hid hne16
  have bg := be2_bound h.byte 12
  have bd := be2_bound h.byte 14
  clear h hw hq h3 hf e8 hne16
  go_enter Tryd.func39, Tryd.ntmps39
  go_wp2_with fail
  refine HC.out.mono ?_
  rintro e w1 ⟨rfl, hM, ao, c1, hB, hne, hb1⟩
  rw [H3.out, HL.out, ← HF.out] at hb1
  rw [HL.out] at hB
  obtain ⟨m, hm⟩ : ∃ m, m = n - 4 := ⟨_, rfl⟩
  rw [← hm] at hb1 hB
  have hm12 : 12 ≤ m := by omega
  have HMN := Lib.hid hm
  clear hm
  obtain ⟨b2, off2, rfl, hb2, _⟩ := hB.open (by omega)
  have hq1 : q < w1.heap.size := (Array.getElem?_eq_some_iff.1 hb1).1
  replace hb1 : w1.heap[q]? = some (.cells (sackH 3 f (.slice (some ⟨b2, off2, none⟩) m c1)) 95 (0, 0)) := hb1
  have B1 := Lib.hid hb1
  have g0 : w1.cell? ⟨q, 0, none⟩ = some (.int .u8 3) := by rw [cell_of_block hb1]; rfl
  have g2 : w1.cell? ⟨q, 2, none⟩ = some (.slice (some ⟨b2, off2, none⟩) m c1) := by rw [cell_of_block hb1]; rfl
  have g3 : w1.cell? ⟨q, 3, none⟩ = some (.int .u32 0) := by rw [cell_of_block hb1]; rfl
  have f3 : w1.frozen? ⟨q, 3, none⟩ = false := frozen_of_block hb1
  have hc1 := hB.cap
  have HB := Lib.hid hB
  have HN := Lib.hid hne
  have HM := Lib.hid hM
  clear hB hne hb1 hM
  have d0 : ¬ c1 = 0 := by omega
  have d4 : ¬ c1 = 4 := by omega
  have d8 : ¬ c1 = 8 := by omega
  have d10 : ¬ c1 = 10 := by omega
  have i0 : (0 : Int) ≤ m := by omega
  have i4 : (4 : Int) ≤ m := by omega
  have i8 : (8 : Int) ≤ m := by omega
  have i10 : (10 : Int) ≤ m := by omega
  go_wp2_with fail
  go_region_held3 (fun w' => w'.cell? ⟨q, 2, none⟩ = some (.slice (some ⟨b2, off2, none⟩) m c1)) (first | exact g2 | exact k2 | exact cell_set_ne k2 (by decide) _) (first | (go_at_call 43; refine (u32_at HB.out.drewN 0 (m - 0) (c1 - 0) (by omega) (by omega)).mono ?_; rintro e x2 ⟨rfl, hx⟩; have k2 := (hx.cell (p := ⟨q, 2, none⟩) hq1).trans g2; have k3 := (hx.cell (p := ⟨q, 3, none⟩) hq1).trans g3; have j3 := (hx.frozen (p := ⟨q, 3, none⟩) hq1).trans f3))
  have MX : Mod (· = q) w1 x2 := (Mod.refl (· = q) w1).drew.trans (Mod.of_below hx)
  have BX : x2.heap[q]? = w1.heap[q]? := hx.block q hq1
  clear k2 k3 j3 g2 g3 f3 hx g0
  generalize hW : x2.setCell ⟨q, 3, none⟩ _ = w3
  have hb : w3.heap[q]? = some (.cells (sackC (.int .u8 3) (.int .u8 f) (.slice (some ⟨b2, off2, none⟩) m c1) (.int .u32 (be4 (l.drop 4) 0)) (.int .u32 0) (.slice none 0 0) (.slice none 0 0)) 95 (0, 0)) := by rw [← hW]; exact heap_setCell_same (BX.trans B1.out) _
  have MN : Mod (· = q) w1 w3 := by rw [← hW]; exact MX.set1 _
  have B3 := Lib.hid hb
  have HM3 := Lib.hid (HM.out.trans MN)
  have HB3 := Lib.hid (HB.out.mod MN (fun a ha => (HN.out a ha).1))
  clear hW hb MX BX MN B1 HM HB hq1
  go_wp2_with fail
  have g2 : w3.cell? ⟨q, 2, none⟩ = some (.slice (some ⟨b2, off2, none⟩) m c1) := by rw [cell_of_block B3.out]; rfl
  have gd : w3.cell? ⟨q, 4, none⟩ = some (.int .u32 0) := by rw [cell_of_block B3.out]; rfl
  have fd : w3.frozen? ⟨q, 4, none⟩ = false := frozen_of_block B3.out
  have hq3 : q < w3.heap.size := lt_of_cell g2
  go_region_held3 (fun w' => w'.cell? ⟨q, 2, none⟩ = some (.slice (some ⟨b2, off2, none⟩) m c1)) (first | exact g2 | exact k2 | exact cell_set_ne k2 (by decide) _) (first | (go_at_call 43; refine (u32_at HB3.out.drewN 4 (m - 4) (c1 - 4) (by omega) (by omega)).mono ?_; rintro e x3 ⟨rfl, hx⟩; have k2 := (hx.cell (p := ⟨q, 2, none⟩) hq3).trans g2; have k3 := (hx.cell (p := ⟨q, 4, none⟩) hq3).trans gd; have j3 := (hx.frozen (p := ⟨q, 4, none⟩) hq3).trans fd))
  have MX : Mod (· = q) w3 x3 := (Mod.refl (· = q) w3).drew.trans (Mod.of_below hx)
  have BX : x3.heap[q]? = w3.heap[q]? := hx.block q hq3
  clear k2 k3 j3 g2 gd fd hx
  generalize hW : x3.setCell ⟨q, 4, none⟩ _ = w4
  have hb : w4.heap[q]? = some (.cells (sackC (.int .u8 3) (.int .u8 f) (.slice (some ⟨b2, off2, none⟩) m c1) (.int .u32 (be4 (l.drop 4) 0)) (.int .u32 (be4 (l.drop 4) 4)) (.slice none 0 0) (.slice none 0 0)) 95 (0, 0)) := by rw [← hW]; exact heap_setCell_same (BX.trans B3.out) _
  have MN : Mod (· = q) w3 w4 := by rw [← hW]; exact MX.set1 _
  have B4 := Lib.hid hb
  have HM4 := Lib.hid (HM3.out.trans MN)
  have HB4 := Lib.hid (HB3.out.mod MN (fun a ha => (HN.out a ha).1))
  clear hW hb MX BX MN B3 HM3 HB3 hq3
  go_wp2_with fail
  have g2 : w4.cell? ⟨q, 2, none⟩ = some (.slice (some ⟨b2, off2, none⟩) m c1) := by rw [cell_of_block B4.out]; rfl
  have gd : w4.cell? ⟨q, 5, none⟩ = some (.slice none 0 0) := by rw [cell_of_block B4.out]; rfl
  have fd : w4.frozen? ⟨q, 5, none⟩ = false := frozen_of_block B4.out
  have hq4 : q < w4.heap.size := lt_of_cell g2
  obtain ⟨G, hG⟩ : ∃ G : Nat, (G : Int) = be2 (l.drop 4) 8 := ⟨(be2 (l.drop 4) 8).toNat, by rw [be2_drop]; exact Int.toNat_of_nonneg bg.1⟩
  have HG := Lib.hid hG
  simp only [be2_drop, Nat.reduceAdd] at hG
  have G1 : G < 65536 := by have := bg.2; omega
  have HK := mk93 G G1
  have HG1 := Lib.hid hG
  clear hG
  go_region_held3 (fun w' => w'.cell? ⟨q, 2, none⟩ = some (.slice (some ⟨b2, off2, none⟩) m c1)) (first | exact g2 | exact k2 | exact cell_alloc k2 _ | exact cell_set_ne k2 (by decide) _ | exact cell_set_ne (cell_alloc k2 _) (by decide) _ | exact cell_alloc (cell_set_ne k2 (by decide) _) _) (first | (go_at_call 44; refine (u16_at HB4.out.drewN 8 (m - 8) (c1 - 8) (by omega) (by omega)).mono ?_; rw [← HG.out]; rintro e x4 ⟨rfl, hx⟩; have k2 := (hx.cell (p := ⟨q, 2, none⟩) hq4).trans g2; have k3 := (hx.cell (p := ⟨q, 5, none⟩) hq4).trans gd; have j3 := (hx.frozen (p := ⟨q, 5, none⟩) hq4).trans fd; have k4 := cell_alloc k3 (.cells (madeCells #[.int .u16 0, .int .u16 0] (G * 2)) 110); have j4 := (frozen_alloc (p := ⟨q, 5, none⟩) (lt_of_cell k3) (.cells (madeCells #[.int .u16 0, .int .u16 0] (G * 2)) 110)).trans j3))
  have HX4 := Lib.hid hx
  have M4 : Mod (· = q) w4 (x4.alloc (.cells (madeCells #[.int .u16 0, .int .u16 0] (G * 2)) 110)) := ((Mod.refl (· = q) w4).drew.trans (Mod.of_below hx)).alloc _
  have BX : (x4.alloc (.cells (madeCells #[.int .u16 0, .int .u16 0] (G * 2)) 110)).heap[q]? = w4.heap[q]? := (((Below.refl x4.heap.size x4).alloc (Nat.le_refl _) _).block q (lt_of_cell k3)).trans (hx.block q hq4)
  have hgq : q < x4.heap.size := lt_of_cell k3
  clear k2 k3 j3 k4 j4 g2 gd fd hx
  obtain ⟨gb, hgb⟩ : ∃ gb, gb = x4.heap.size := ⟨_, rfl⟩
  have BG : (x4.alloc (.cells (madeCells #[.int .u16 0, .int .u16 0] (G * 2)) 110)).heap[gb]? = some (.cells (madeCells #[.int .u16 0, .int .u16 0] (G * 2)) 110 (0, 0)) := by rw [hgb]; exact heap_new x4 _
  have hxg : w4.heap.size ≤ gb := by rw [hgb]; exact HX4.out.size
  rw [← hgb] at hgq ⊢
  generalize hW : (x4.alloc _).setCell ⟨q, 5, none⟩ _ = w5
  have hb : w5.heap[q]? = some (.cells (sackC (.int .u8 3) (.int .u8 f) (.slice (some ⟨b2, off2, none⟩) m c1) (.int .u32 (be4 (l.drop 4) 0)) (.int .u32 (be4 (l.drop 4) 4)) (.slice (some ⟨gb, 0, none⟩) G G) (.slice none 0 0)) 95 (0, 0)) := by rw [← hW]; exact heap_setCell_same (BX.trans B4.out) _
  have bg5 : w5.heap[gb]? = some (.cells (madeCells #[.int .u16 0, .int .u16 0] (G * 2)) 110 (0, 0)) := by rw [← hW]; exact (heap_setCell_other (show gb ≠ q by omega) _).trans BG
  have MN : Mod (· = q) w4 w5 := by rw [← hW]; exact M4.set1 _
  have B5 := Lib.hid hb
  have BG5 := Lib.hid bg5
  have HM5 := Lib.hid (HM4.out.trans MN)
  have HB5 := Lib.hid (HB4.out.mod MN (fun a ha => (HN.out a ha).1))
  have HS4 : Hid (w.heap.size ≤ gb) := Lib.hid (Nat.le_trans HM4.out.size hxg)
  clear hW hb bg5 BX BG M4 MN B4 HM4 HB4 hq4 HX4 hxg hgb HK
  go_wp2_with fail
  have g2 : w5.cell? ⟨q, 2, none⟩ = some (.slice (some ⟨b2, off2, none⟩) m c1) := by rw [cell_of_block B5.out]; rfl
  have gd : w5.cell? ⟨q, 6, none⟩ = some (.slice none 0 0) := by rw [cell_of_block B5.out]; rfl
  have fd : w5.frozen? ⟨q, 6, none⟩ = false := frozen_of_block B5.out
  have hq5 : q < w5.heap.size := lt_of_cell g2
  obtain ⟨D, hD⟩ : ∃ D : Nat, (D : Int) = be2 (l.drop 4) 10 := ⟨(be2 (l.drop 4) 10).toNat, by rw [be2_drop]; exact Int.toNat_of_nonneg bd.1⟩
  have HD := Lib.hid hD
  simp only [be2_drop, Nat.reduceAdd] at hD
  have D1 : D < 65536 := by have := bd.2; omega
  have HK := mk37 D D1
  have HD1 := Lib.hid hD
  clear hD
  go_region_held3 (fun w' => w'.cell? ⟨q, 2, none⟩ = some (.slice (some ⟨b2, off2, none⟩) m c1)) (first | exact g2 | exact k2 | exact cell_alloc k2 _ | exact cell_set_ne k2 (by decide) _ | exact cell_set_ne (cell_alloc k2 _) (by decide) _ | exact cell_alloc (cell_set_ne k2 (by decide) _) _) (first | (go_at_call 44; refine (u16_at HB5.out.drewN 10 (m - 10) (c1 - 10) (by omega) (by omega)).mono ?_; rw [← HD.out]; rintro e x5 ⟨rfl, hx⟩; have k2 := (hx.cell (p := ⟨q, 2, none⟩) hq5).trans g2; have k3 := (hx.cell (p := ⟨q, 6, none⟩) hq5).trans gd; have j3 := (hx.frozen (p := ⟨q, 6, none⟩) hq5).trans fd; have k4 := cell_alloc k3 (.cells (madeCells #[.int .u32 0] D) 27); have j4 := (frozen_alloc (p := ⟨q, 6, none⟩) (lt_of_cell k3) (.cells (madeCells #[.int .u32 0] D) 27)).trans j3))
  have HX5 := Lib.hid hx
  have M5 : Mod (· = q) w5 (x5.alloc (.cells (madeCells #[.int .u32 0] D) 27)) := ((Mod.refl (· = q) w5).drew.trans (Mod.of_below hx)).alloc _
  have BX : (x5.alloc (.cells (madeCells #[.int .u32 0] D) 27)).heap[q]? = w5.heap[q]? := (((Below.refl x5.heap.size x5).alloc (Nat.le_refl _) _).block q (lt_of_cell k3)).trans (hx.block q hq5)
  have hgb5 : gb < w5.heap.size := (Array.getElem?_eq_some_iff.1 BG5.out).1
  have BGX : (x5.alloc (.cells (madeCells #[.int .u32 0] D) 27)).heap[gb]? = w5.heap[gb]? := (((Below.refl x5.heap.size x5).alloc (Nat.le_refl _) _).block gb (Nat.lt_of_lt_of_le hgb5 hx.size)).trans (hx.block gb hgb5)
  have hdq : q < x5.heap.size := lt_of_cell k3
  clear k2 k3 j3 k4 j4 g2 gd fd hx
  obtain ⟨db, hdb⟩ : ∃ db, db = x5.heap.size := ⟨_, rfl⟩
  have BD : (x5.alloc (.cells (madeCells #[.int .u32 0] D) 27)).heap[db]? = some (.cells (madeCells #[.int .u32 0] D) 27 (0, 0)) := by rw [hdb]; exact heap_new x5 _
  have hxd : w5.heap.size ≤ db := by rw [hdb]; exact HX5.out.size
  rw [← hdb] at hdq ⊢
  generalize hW : (x5.alloc _).setCell ⟨q, 6, none⟩ _ = w6
  have hb : w6.heap[q]? = some (.cells (sackC (.int .u8 3) (.int .u8 f) (.slice (some ⟨b2, off2, none⟩) m c1) (.int .u32 (be4 (l.drop 4) 0)) (.int .u32 (be4 (l.drop 4) 4)) (.slice (some ⟨gb, 0, none⟩) G G) (.slice (some ⟨db, 0, none⟩) D D)) 95 (0, 0)) := by rw [← hW]; exact heap_setCell_same (BX.trans B5.out) _
  have bd6 : w6.heap[db]? = some (.cells (madeCells #[.int .u32 0] D) 27 (0, 0)) := by rw [← hW]; exact (heap_setCell_other (show db ≠ q by omega) _).trans BD
  have bg6 : w6.heap[gb]? = some (.cells (madeCells #[.int .u16 0, .int .u16 0] (G * 2)) 110 (0, 0)) := by rw [← hW]; exact (heap_setCell_other (show gb ≠ q by omega) _).trans (BGX.trans BG5.out)
  have MN : Mod (· = q) w5 w6 := by rw [← hW]; exact M5.set1 _
  have B6 := Lib.hid hb
  have BG6 := Lib.hid bg6
  have BD6 := Lib.hid bd6
  have HM6 := Lib.hid (HM5.out.trans MN)
  have HB6 := Lib.hid (HB5.out.mod MN (fun a ha => (HN.out a ha).1))
  have hgd : gb ≠ db := by omega
  have HS5 : Hid (w.heap.size ≤ db) := Lib.hid (Nat.le_trans HM5.out.size hxd)
  have g2 : w6.cell? ⟨q, 2, none⟩ = some (.slice (some ⟨b2, off2, none⟩) m c1) := by rw [cell_of_block hb]; rfl
  have g5 : w6.cell? ⟨q, 5, none⟩ = some (.slice (some ⟨gb, 0, none⟩) G G) := by rw [cell_of_block hb]; rfl
  have g6 : w6.cell? ⟨q, 6, none⟩ = some (.slice (some ⟨db, 0, none⟩) D D) := by rw [cell_of_block hb]; rfl
  clear hW hb bg6 bd6 BX BG5 BGX BD M5 MN B5 HM5 HB5 hq5 HX5 hxd hdb HK hgb5
  have wg := wraps_i64 (4 * (G : Int)) (by omega) (by omega)
  have wd := wraps_i64 (4 * (D : Int)) (by omega) (by omega)
  have ws := wraps_i64 (4 * (G : Int) + 4 * (D : Int)) (by omega) (by omega)
  have wt := wraps_i64 (12 + (4 * (G : Int) + 4 * (D : Int))) (by omega) (by omega)
  have hmis : ((m : Int) == 12 + (4 * (G : Int) + 4 * (D : Int))) = false := by
    have h1 := HNE.out; have h2 := HG1.out; have h3 := HD1.out; have h4 := HMN.out
    simp; omega
  obtain ⟨u, v, hg⟩ := E.out.mod HM6.out (fun h => hqg h.symm)
  go_wp2_with fail
  go_quiet (fail)
  go_wp2_with fail
  go_ret
  exact ⟨u, v, rfl, HM6.out.trans (Mod.drewN (Mod.refl _ _) _)⟩
end Go.Proofs.YtnajpmdnadjipaaDoor
