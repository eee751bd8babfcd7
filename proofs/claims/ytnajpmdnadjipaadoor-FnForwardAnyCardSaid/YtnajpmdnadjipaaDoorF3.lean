/- Part of the proof of laws.FnDataAny: what impl.DataOf returns, for every slice of bytes; conditions: the package's errors are there (PdGlobs). -/
import Derived.Test.YtnajpmdnadjipaaDoorF2
namespace Go.Proofs.YtnajpmdnadjipaaDoor
open Go.RowKit
set_option linter.unusedVariables false

def im0 : Array Value := #[.bool false, .bool false, .bool false, .bool false, .int .u32 0, .int .i64 0, .int .i64 0, .int .u32 0, .slice none 0 0]

/-- A chunk of user data as plain data. -/
def dataV (l : List Int) (ud : Value) : Value := .agg #[.bool (bits .and .u8 (l.getD 1 0) 4 != 0), .bool (bits .and .u8 (l.getD 1 0) 2 != 0), .bool (bits .and .u8 (l.getD 1 0) 1 != 0), .bool (bits .and .u8 (l.getD 1 0) 8 != 0),
      .int .u32 (be4 l 4), .int .i64 (be2 l 8), .int .i64 (be2 l 10), .int .u32 (be4 l 12), ud]
def DataIs (w : World) (l : List Int) (e : Ending) (w' : World) : Prop :=
  ∃ ao n c, e = .returned (.tuple #[dataV l (.slice ao n c), .bool true]) ∧ BytesAt w' ao n c (l.drop 16) ∧ Below w.heap.size w w'
def DataNot (w : World) (e : Ending) (w' : World) : Prop := e = .returned (.tuple #[.agg im0, .bool false]) ∧ Below w.heap.size w w'

theorem nine_below {w w' : World} {s : Nat} {v0 v1 v2 v3 : Bool} {v4 v5 v6 v7 : Int} {v8 : Value} (hb : Below w.heap.size w w') (hs : s < w.heap.size)
    (h : w.cell? ⟨s, 0, none⟩ = some (.bool v0) ∧ w.cell? ⟨s, 1, none⟩ = some (.bool v1) ∧ w.cell? ⟨s, 2, none⟩ = some (.bool v2) ∧ w.cell? ⟨s, 3, none⟩ = some (.bool v3) ∧ w.cell? ⟨s, 4, none⟩ = some (.int .u32 v4) ∧ w.cell? ⟨s, 5, none⟩ = some (.int .u16 v5) ∧ w.cell? ⟨s, 6, none⟩ = some (.int .u16 v6) ∧ w.cell? ⟨s, 7, none⟩ = some (.int .u32 v7) ∧ w.cell? ⟨s, 8, none⟩ = some (v8)) :
    w'.cell? ⟨s, 0, none⟩ = some (.bool v0) ∧ w'.cell? ⟨s, 1, none⟩ = some (.bool v1) ∧ w'.cell? ⟨s, 2, none⟩ = some (.bool v2) ∧ w'.cell? ⟨s, 3, none⟩ = some (.bool v3) ∧ w'.cell? ⟨s, 4, none⟩ = some (.int .u32 v4) ∧ w'.cell? ⟨s, 5, none⟩ = some (.int .u16 v5) ∧ w'.cell? ⟨s, 6, none⟩ = some (.int .u16 v6) ∧ w'.cell? ⟨s, 7, none⟩ = some (.int .u32 v7) ∧ w'.cell? ⟨s, 8, none⟩ = some (v8) :=
  ⟨(hb.cell (p := ⟨s, 0, none⟩) hs).trans h.1, (hb.cell (p := ⟨s, 1, none⟩) hs).trans h.2.1, (hb.cell (p := ⟨s, 2, none⟩) hs).trans h.2.2.1, (hb.cell (p := ⟨s, 3, none⟩) hs).trans h.2.2.2.1, (hb.cell (p := ⟨s, 4, none⟩) hs).trans h.2.2.2.2.1, (hb.cell (p := ⟨s, 5, none⟩) hs).trans h.2.2.2.2.2.1, (hb.cell (p := ⟨s, 6, none⟩) hs).trans h.2.2.2.2.2.2.1, (hb.cell (p := ⟨s, 7, none⟩) hs).trans h.2.2.2.2.2.2.2.1, (hb.cell (p := ⟨s, 8, none⟩) hs).trans h.2.2.2.2.2.2.2.2⟩
theorem nine_set {w : World} {s g : Nat} {v0 v1 v2 v3 : Bool} {v4 v5 v6 v7 : Int} {v8 : Value} (x0 x1 x2 x3 x4 x5 x6 x7 x8 : Value) (hne : s ≠ g)
    (h : w.cell? ⟨s, 0, none⟩ = some (.bool v0) ∧ w.cell? ⟨s, 1, none⟩ = some (.bool v1) ∧ w.cell? ⟨s, 2, none⟩ = some (.bool v2) ∧ w.cell? ⟨s, 3, none⟩ = some (.bool v3) ∧ w.cell? ⟨s, 4, none⟩ = some (.int .u32 v4) ∧ w.cell? ⟨s, 5, none⟩ = some (.int .u16 v5) ∧ w.cell? ⟨s, 6, none⟩ = some (.int .u16 v6) ∧ w.cell? ⟨s, 7, none⟩ = some (.int .u32 v7) ∧ w.cell? ⟨s, 8, none⟩ = some (v8)) :
    let w' := ((((((((w.setCell ⟨g, 0, none⟩ x0).setCell ⟨g, 1, none⟩ x1).setCell ⟨g, 2, none⟩ x2).setCell ⟨g, 3, none⟩ x3).setCell ⟨g, 4, none⟩ x4).setCell ⟨g, 5, none⟩ x5).setCell ⟨g, 6, none⟩ x6).setCell ⟨g, 7, none⟩ x7).setCell ⟨g, 8, none⟩ x8
    w'.cell? ⟨s, 0, none⟩ = some (.bool v0) ∧ w'.cell? ⟨s, 1, none⟩ = some (.bool v1) ∧ w'.cell? ⟨s, 2, none⟩ = some (.bool v2) ∧ w'.cell? ⟨s, 3, none⟩ = some (.bool v3) ∧ w'.cell? ⟨s, 4, none⟩ = some (.int .u32 v4) ∧ w'.cell? ⟨s, 5, none⟩ = some (.int .u16 v5) ∧ w'.cell? ⟨s, 6, none⟩ = some (.int .u16 v6) ∧ w'.cell? ⟨s, 7, none⟩ = some (.int .u32 v7) ∧ w'.cell? ⟨s, 8, none⟩ = some (v8) :=
  ⟨(cell_set_blk (cell_set_blk (cell_set_blk (cell_set_blk (cell_set_blk (cell_set_blk (cell_set_blk (cell_set_blk (cell_set_blk h.1 hne _) hne _) hne _) hne _) hne _) hne _) hne _) hne _) hne _), (cell_set_blk (cell_set_blk (cell_set_blk (cell_set_blk (cell_set_blk (cell_set_blk (cell_set_blk (cell_set_blk (cell_set_blk h.2.1 hne _) hne _) hne _) hne _) hne _) hne _) hne _) hne _) hne _), (cell_set_blk (cell_set_blk (cell_set_blk (cell_set_blk (cell_set_blk (cell_set_blk (cell_set_blk (cell_set_blk (cell_set_blk h.2.2.1 hne _) hne _) hne _) hne _) hne _) hne _) hne _) hne _) hne _), (cell_set_blk (cell_set_blk (cell_set_blk (cell_set_blk (cell_set_blk (cell_set_blk (cell_set_blk (cell_set_blk (cell_set_blk h.2.2.2.1 hne _) hne _) hne _) hne _) hne _) hne _) hne _) hne _) hne _), (cell_set_blk (cell_set_blk (cell_set_blk (cell_set_blk (cell_set_blk (cell_set_blk (cell_set_blk (cell_set_blk (cell_set_blk h.2.2.2.2.1 hne _) hne _) hne _) hne _) hne _) hne _) hne _) hne _) hne _), (cell_set_blk (cell_set_blk (cell_set_blk (cell_set_blk (cell_set_blk (cell_set_blk (cell_set_blk (cell_set_blk (cell_set_blk h.2.2.2.2.2.1 hne _) hne _) hne _) hne _) hne _) hne _) hne _) hne _) hne _), (cell_set_blk (cell_set_blk (cell_set_blk (cell_set_blk (cell_set_blk (cell_set_blk (cell_set_blk (cell_set_blk (cell_set_blk h.2.2.2.2.2.2.1 hne _) hne _) hne _) hne _) hne _) hne _) hne _) hne _) hne _), (cell_set_blk (cell_set_blk (cell_set_blk (cell_set_blk (cell_set_blk (cell_set_blk (cell_set_blk (cell_set_blk (cell_set_blk h.2.2.2.2.2.2.2.1 hne _) hne _) hne _) hne _) hne _) hne _) hne _) hne _) hne _), (cell_set_blk (cell_set_blk (cell_set_blk (cell_set_blk (cell_set_blk (cell_set_blk (cell_set_blk (cell_set_blk (cell_set_blk h.2.2.2.2.2.2.2.2 hne _) hne _) hne _) hne _) hne _) hne _) hne _) hne _) hne _)⟩

set_option maxHeartbeats 1000000 in
set_option maxRecDepth 20000 in
theorem dataOf_yes {w : World} {ao : Option Addr} {n c : Nat} {l : List Int} (h : BytesAt w ao n c l) (hs : n ≤ 2147483647) (hn : 17 ≤ n) (hw : be2 l 2 = n) (h0 : l.getD 0 0 = 0) :
    Calls Tryd.prog 14 #[.slice ao n c] w (DataIs w l) := by
  have hA : Mod (fun _ => False) w (w.alloc (.cells im0 32)) := (Mod.refl _ w).alloc _
  have HC := Lib.hid (copied_any ao n c l _ (h.mod hA (fun _ _ h => h)) hs)
  have HW := Lib.hid hw; have H0 := Lib.hid h0; have HLn := Lib.hid h.len
  have HbA := Lib.hid (heap_new w (.cells im0 32))
  have by2 := be2_bound h.byte 8
  have by3 := be2_bound h.byte 10
  clear h hw h0 hA
  obtain ⟨by2l, by2r⟩ := by2
  obtain ⟨by3l, by3r⟩ := by3
  go_enter Tryd.func14, Tryd.ntmps14
  go_wp2_with fail
  refine HC.out.mono ?_
  rintro e w1 ⟨a1, c1, rfl, hB, hf, hc1, hL1⟩
  obtain ⟨b, off, rfl, hCh⟩ := hB.chunk (by omega) hs hc1
  have HC2 := Lib.hid (zzpd_yes hCh HW.out H0.out hn)
  have HbA1 : Hid (w1.heap[w.heap.size]? = some (.cells im0 32 (0, 0))) := Lib.hid ((hL1.block _ (by simp)).trans HbA.out)
  have hz1 : w.heap.size < w1.heap.size := by have := hL1.size; simp at this; omega
  have HL1 := Lib.hid (((Below.refl w.heap.size w).alloc (Nat.le_refl _) (.cells im0 32)).trans (hL1.mono (by simp)))
  clear hB hCh hf hL1
  go_wp2_with fail
  refine HC2.out.mono ?_
  rintro e w2 ⟨a2, n2, c2, rfl, hB2, hL2⟩
  have hn2 : n2 ≤ 2147483647 := by have := hB2.len; simp [HLn.out] at this; omega
  have HL2 := Lib.hid (HL1.out.trans (hL2.mono (by omega)))
  have HbA2 : Hid (w2.heap[w.heap.size]? = some (.cells im0 32 (0, 0))) := Lib.hid ((hL2.block _ hz1).trans HbA1.out)
  have hz2 : w.heap.size < w2.heap.size := by have := hL2.size; omega
  have HB2 := Lib.hid hB2
  obtain ⟨y0, e0⟩ : ∃ y, y = (bits .and .u8 (l.getD 1 0) 4 != 0) := ⟨_, rfl⟩
  obtain ⟨y1, e1⟩ : ∃ y, y = (bits .and .u8 (l.getD 1 0) 2 != 0) := ⟨_, rfl⟩
  obtain ⟨y2, e2⟩ : ∃ y, y = (bits .and .u8 (l.getD 1 0) 1 != 0) := ⟨_, rfl⟩
  obtain ⟨y3, e3⟩ : ∃ y, y = (bits .and .u8 (l.getD 1 0) 8 != 0) := ⟨_, rfl⟩
  obtain ⟨y4, e4⟩ : ∃ y, y = be4 l 4 := ⟨_, rfl⟩
  obtain ⟨y5, e5⟩ : ∃ y, y = be2 l 8 := ⟨_, rfl⟩
  obtain ⟨y6, e6⟩ : ∃ y, y = be2 l 10 := ⟨_, rfl⟩
  obtain ⟨y7, e7⟩ : ∃ y, y = be4 l 12 := ⟨_, rfl⟩
  rw [← e5] at by2l by2r
  rw [← e6] at by3l by3r
  rw [← e0, ← e1, ← e2, ← e3, ← e4, ← e5, ← e6, ← e7]
  have EQ := Lib.hid (And.intro e0 (And.intro e1 (And.intro e2 (And.intro e3 (And.intro e4 (And.intro e5 (And.intro e6 e7)))))))
  clear hB2 hL2 e0 e1 e2 e3 e4 e5 e6 e7
  go_wp2_with fail
  have HB3 := Lib.hid (HB2.out.mod ((Mod.refl (fun _ => False) w2).alloc (.cells #[.bool y0, .bool y1, .bool y2, .bool y3, .int .u32 y4, .int .u16 y5, .int .u16 y6, .int .u32 y7, .slice a2 n2 c2] 59)) (fun _ _ h => h))
  have HbA3 : Hid ((w2.alloc (.cells #[.bool y0, .bool y1, .bool y2, .bool y3, .int .u32 y4, .int .u16 y5, .int .u16 y6, .int .u32 y7, .slice a2 n2 c2] 59)).heap[w.heap.size]? = some (.cells im0 32 (0, 0))) := Lib.hid ((heap_alloc_old w2 _ hz2).trans HbA2.out)
  have HbS : Hid ((w2.alloc (.cells #[.bool y0, .bool y1, .bool y2, .bool y3, .int .u32 y4, .int .u16 y5, .int .u16 y6, .int .u32 y7, .slice a2 n2 c2] 59)).heap[w2.heap.size]? = some (.cells #[.bool y0, .bool y1, .bool y2, .bool y3, .int .u32 y4, .int .u16 y5, .int .u16 y6, .int .u32 y7, .slice a2 n2 c2] 59 (0, 0))) := Lib.hid (heap_new w2 _)
  have HL3 : Hid (Below w.heap.size w (w2.alloc (.cells #[.bool y0, .bool y1, .bool y2, .bool y3, .int .u32 y4, .int .u16 y5, .int .u16 y6, .int .u32 y7, .slice a2 n2 c2] 59))) := Lib.hid (HL2.out.alloc (by omega) _)
  have hz3 : w2.heap.size < (w2.alloc (.cells #[.bool y0, .bool y1, .bool y2, .bool y3, .int .u32 y4, .int .u16 y5, .int .u16 y6, .int .u32 y7, .slice a2 n2 c2] 59)).heap.size := by simp
  have HB3 := Lib.hid (HB2.out.mod ((Mod.refl (fun _ => False) w2).alloc (.cells #[.bool y0, .bool y1, .bool y2, .bool y3, .int .u32 y4, .int .u16 y5, .int .u16 y6, .int .u32 y7, .slice a2 n2 c2] 59)) (fun _ _ h => h))
  have HbA3 : Hid ((w2.alloc (.cells #[.bool y0, .bool y1, .bool y2, .bool y3, .int .u32 y4, .int .u16 y5, .int .u16 y6, .int .u32 y7, .slice a2 n2 c2] 59)).heap[w.heap.size]? = some (.cells im0 32 (0, 0))) := Lib.hid ((heap_alloc_old w2 _ hz2).trans HbA2.out)
  have HbS : Hid ((w2.alloc (.cells #[.bool y0, .bool y1, .bool y2, .bool y3, .int .u32 y4, .int .u16 y5, .int .u16 y6, .int .u32 y7, .slice a2 n2 c2] 59)).heap[w2.heap.size]? = some (.cells #[.bool y0, .bool y1, .bool y2, .bool y3, .int .u32 y4, .int .u16 y5, .int .u16 y6, .int .u32 y7, .slice a2 n2 c2] 59 (0, 0))) := Lib.hid (heap_new w2 _)
  have HL3 : Hid (Below w.heap.size w (w2.alloc (.cells #[.bool y0, .bool y1, .bool y2, .bool y3, .int .u32 y4, .int .u16 y5, .int .u16 y6, .int .u32 y7, .slice a2 n2 c2] 59))) := Lib.hid (HL2.out.alloc (by omega) _)
  have hz3 : w2.heap.size < (w2.alloc (.cells #[.bool y0, .bool y1, .bool y2, .bool y3, .int .u32 y4, .int .u16 y5, .int .u16 y6, .int .u32 y7, .slice a2 n2 c2] 59)).heap.size := by simp
  have HB3 := Lib.hid (HB2.out.mod ((Mod.refl (fun _ => False) w2).alloc (.cells #[.bool y0, .bool y1, .bool y2, .bool y3, .int .u32 y4, .int .u16 y5, .int .u16 y6, .int .u32 y7, .slice a2 n2 c2] 59)) (fun _ _ h => h))
  have HbA3 : Hid ((w2.alloc (.cells #[.bool y0, .bool y1, .bool y2, .bool y3, .int .u32 y4, .int .u16 y5, .int .u16 y6, .int .u32 y7, .slice a2 n2 c2] 59)).heap[w.heap.size]? = some (.cells im0 32 (0, 0))) := Lib.hid ((heap_alloc_old w2 _ hz2).trans HbA2.out)
  have HbS : Hid ((w2.alloc (.cells #[.bool y0, .bool y1, .bool y2, .bool y3, .int .u32 y4, .int .u16 y5, .int .u16 y6, .int .u32 y7, .slice a2 n2 c2] 59)).heap[w2.heap.size]? = some (.cells #[.bool y0, .bool y1, .bool y2, .bool y3, .int .u32 y4, .int .u16 y5, .int .u16 y6, .int .u32 y7, .slice a2 n2 c2] 59 (0, 0))) := Lib.hid (heap_new w2 _)
  have HL3 : Hid (Below w.heap.size w (w2.alloc (.cells #[.bool y0, .bool y1, .bool y2, .bool y3, .int .u32 y4, .int .u16 y5, .int .u16 y6, .int .u32 y7, .slice a2 n2 c2] 59))) := Lib.hid (HL2.out.alloc (by omega) _)
  have hz3 : w2.heap.size < (w2.alloc (.cells #[.bool y0, .bool y1, .bool y2, .bool y3, .int .u32 y4, .int .u16 y5, .int .u16 y6, .int .u32 y7, .slice a2 n2 c2] 59)).heap.size := by simp
  have HB3 := Lib.hid (HB2.out.mod ((Mod.refl (fun _ => False) w2).alloc (.cells #[.bool y0, .bool y1, .bool y2, .bool y3, .int .u32 y4, .int .u16 y5, .int .u16 y6, .int .u32 y7, .slice a2 n2 c2] 59)) (fun _ _ h => h))
  have HbA3 : Hid ((w2.alloc (.cells #[.bool y0, .bool y1, .bool y2, .bool y3, .int .u32 y4, .int .u16 y5, .int .u16 y6, .int .u32 y7, .slice a2 n2 c2] 59)).heap[w.heap.size]? = some (.cells im0 32 (0, 0))) := Lib.hid ((heap_alloc_old w2 _ hz2).trans HbA2.out)
  have HbS : Hid ((w2.alloc (.cells #[.bool y0, .bool y1, .bool y2, .bool y3, .int .u32 y4, .int .u16 y5, .int .u16 y6, .int .u32 y7, .slice a2 n2 c2] 59)).heap[w2.heap.size]? = some (.cells #[.bool y0, .bool y1, .bool y2, .bool y3, .int .u32 y4, .int .u16 y5, .int .u16 y6, .int .u32 y7, .slice a2 n2 c2] 59 (0, 0))) := Lib.hid (heap_new w2 _)
  have HL3 : Hid (Below w.heap.size w (w2.alloc (.cells #[.bool y0, .bool y1, .bool y2, .bool y3, .int .u32 y4, .int .u16 y5, .int .u16 y6, .int .u32 y7, .slice a2 n2 c2] 59))) := Lib.hid (HL2.out.alloc (by omega) _)
  have hz3 : w2.heap.size < (w2.alloc (.cells #[.bool y0, .bool y1, .bool y2, .bool y3, .int .u32 y4, .int .u16 y5, .int .u16 y6, .int .u32 y7, .slice a2 n2 c2] 59)).heap.size := by simp
  have HB3 := Lib.hid (HB2.out.mod ((Mod.refl (fun _ => False) w2).alloc (.cells #[.bool y0, .bool y1, .bool y2, .bool y3, .int .u32 y4, .int .u16 y5, .int .u16 y6, .int .u32 y7, .slice a2 n2 c2] 59)) (fun _ _ h => h))
  have HbA3 : Hid ((w2.alloc (.cells #[.bool y0, .bool y1, .bool y2, .bool y3, .int .u32 y4, .int .u16 y5, .int .u16 y6, .int .u32 y7, .slice a2 n2 c2] 59)).heap[w.heap.size]? = some (.cells im0 32 (0, 0))) := Lib.hid ((heap_alloc_old w2 _ hz2).trans HbA2.out)
  have HbS : Hid ((w2.alloc (.cells #[.bool y0, .bool y1, .bool y2, .bool y3, .int .u32 y4, .int .u16 y5, .int .u16 y6, .int .u32 y7, .slice a2 n2 c2] 59)).heap[w2.heap.size]? = some (.cells #[.bool y0, .bool y1, .bool y2, .bool y3, .int .u32 y4, .int .u16 y5, .int .u16 y6, .int .u32 y7, .slice a2 n2 c2] 59 (0, 0))) := Lib.hid (heap_new w2 _)
  have HL3 : Hid (Below w.heap.size w (w2.alloc (.cells #[.bool y0, .bool y1, .bool y2, .bool y3, .int .u32 y4, .int .u16 y5, .int .u16 y6, .int .u32 y7, .slice a2 n2 c2] 59))) := Lib.hid (HL2.out.alloc (by omega) _)
  have hz3 : w2.heap.size < (w2.alloc (.cells #[.bool y0, .bool y1, .bool y2, .bool y3, .int .u32 y4, .int .u16 y5, .int .u16 y6, .int .u32 y7, .slice a2 n2 c2] 59)).heap.size := by simp
  generalize hW3 : World.alloc w2 _ = w3 at *
  have hs43 : w2.heap.size ≠ w.heap.size := by omega
  have hz3w : w.heap.size < w3.heap.size := by omega
  clear hW3
  have d0 : w3.cell? ⟨w2.heap.size, 0, none⟩ = some (.bool y0) := by rw [cell_of_block HbS.out]; rfl
  have d1 : w3.cell? ⟨w2.heap.size, 1, none⟩ = some (.bool y1) := by rw [cell_of_block HbS.out]; rfl
  have d2 : w3.cell? ⟨w2.heap.size, 2, none⟩ = some (.bool y2) := by rw [cell_of_block HbS.out]; rfl
  have d3 : w3.cell? ⟨w2.heap.size, 3, none⟩ = some (.bool y3) := by rw [cell_of_block HbS.out]; rfl
  have d4 : w3.cell? ⟨w2.heap.size, 4, none⟩ = some (.int .u32 y4) := by rw [cell_of_block HbS.out]; rfl
  have d5 : w3.cell? ⟨w2.heap.size, 5, none⟩ = some (.int .u16 y5) := by rw [cell_of_block HbS.out]; rfl
  have d6 : w3.cell? ⟨w2.heap.size, 6, none⟩ = some (.int .u16 y6) := by rw [cell_of_block HbS.out]; rfl
  have d7 : w3.cell? ⟨w2.heap.size, 7, none⟩ = some (.int .u32 y7) := by rw [cell_of_block HbS.out]; rfl
  have d8 : w3.cell? ⟨w2.heap.size, 8, none⟩ = some (.slice a2 n2 c2) := by rw [cell_of_block HbS.out]; rfl
  have SD : w3.drew.cell? ⟨w2.heap.size, 0, none⟩ = some (.bool y0) ∧ w3.drew.cell? ⟨w2.heap.size, 1, none⟩ = some (.bool y1) ∧ w3.drew.cell? ⟨w2.heap.size, 2, none⟩ = some (.bool y2) ∧ w3.drew.cell? ⟨w2.heap.size, 3, none⟩ = some (.bool y3) ∧ w3.drew.cell? ⟨w2.heap.size, 4, none⟩ = some (.int .u32 y4) ∧ w3.drew.cell? ⟨w2.heap.size, 5, none⟩ = some (.int .u16 y5) ∧ w3.drew.cell? ⟨w2.heap.size, 6, none⟩ = some (.int .u16 y6) ∧ w3.drew.cell? ⟨w2.heap.size, 7, none⟩ = some (.int .u32 y7) ∧ w3.drew.cell? ⟨w2.heap.size, 8, none⟩ = some (.slice a2 n2 c2) := ⟨d0, d1, d2, d3, d4, d5, d6, d7, d8⟩
  have SD := Lib.hid SD
  have W5 : IntKind.i64.wrap y5 = y5 := wraps_i64 y5 (by omega) (by omega)
  have W6 : IntKind.i64.wrap y6 = y6 := wraps_i64 y6 (by omega) (by omega)
  go_region_held3 (fun w' => w'.cell? ⟨w2.heap.size, 0, none⟩ = some (.bool y0) ∧ w'.cell? ⟨w2.heap.size, 1, none⟩ = some (.bool y1) ∧ w'.cell? ⟨w2.heap.size, 2, none⟩ = some (.bool y2) ∧ w'.cell? ⟨w2.heap.size, 3, none⟩ = some (.bool y3) ∧ w'.cell? ⟨w2.heap.size, 4, none⟩ = some (.int .u32 y4) ∧ w'.cell? ⟨w2.heap.size, 5, none⟩ = some (.int .u16 y5) ∧ w'.cell? ⟨w2.heap.size, 6, none⟩ = some (.int .u16 y6) ∧ w'.cell? ⟨w2.heap.size, 7, none⟩ = some (.int .u32 y7) ∧ w'.cell? ⟨w2.heap.size, 8, none⟩ = some (.slice a2 n2 c2)) (first | with_reducible exact SD.out | with_reducible exact S4 | with_reducible exact nine_set _ _ _ _ _ _ _ _ _ hs43 S4) (first | (go_at_call 24; refine (copied_any a2 n2 c2 (l.drop 16) _ HB3.out.drewN hn2).mono ?_; rintro e w4 ⟨a3, c3, rfl, hB4, hf4, hc4, hx⟩; have S4 := nine_below hx hz3 SD.out; have HbA4 := (hx.block _ hz3w).trans HbA3.out; have s0 : w4.cell? ⟨w.heap.size, 0, none⟩ = some (.bool false) := (by rw [cell_of_block HbA4]; rfl); have z0 : w4.frozen? ⟨w.heap.size, 0, none⟩ = false := frozen_of_block HbA4; have s1 : w4.cell? ⟨w.heap.size, 1, none⟩ = some (.bool false) := (by rw [cell_of_block HbA4]; rfl); have z1 : w4.frozen? ⟨w.heap.size, 1, none⟩ = false := frozen_of_block HbA4; have s2 : w4.cell? ⟨w.heap.size, 2, none⟩ = some (.bool false) := (by rw [cell_of_block HbA4]; rfl); have z2 : w4.frozen? ⟨w.heap.size, 2, none⟩ = false := frozen_of_block HbA4; have s3 : w4.cell? ⟨w.heap.size, 3, none⟩ = some (.bool false) := (by rw [cell_of_block HbA4]; rfl); have z3 : w4.frozen? ⟨w.heap.size, 3, none⟩ = false := frozen_of_block HbA4; have s4 : w4.cell? ⟨w.heap.size, 4, none⟩ = some (.int .u32 0) := (by rw [cell_of_block HbA4]; rfl); have z4 : w4.frozen? ⟨w.heap.size, 4, none⟩ = false := frozen_of_block HbA4; have s5 : w4.cell? ⟨w.heap.size, 5, none⟩ = some (.int .i64 0) := (by rw [cell_of_block HbA4]; rfl); have z5 : w4.frozen? ⟨w.heap.size, 5, none⟩ = false := frozen_of_block HbA4; have s6 : w4.cell? ⟨w.heap.size, 6, none⟩ = some (.int .i64 0) := (by rw [cell_of_block HbA4]; rfl); have z6 : w4.frozen? ⟨w.heap.size, 6, none⟩ = false := frozen_of_block HbA4; have s7 : w4.cell? ⟨w.heap.size, 7, none⟩ = some (.int .u32 0) := (by rw [cell_of_block HbA4]; rfl); have z7 : w4.frozen? ⟨w.heap.size, 7, none⟩ = false := frozen_of_block HbA4; have s8 : w4.cell? ⟨w.heap.size, 8, none⟩ = some (.slice none 0 0) := (by rw [cell_of_block HbA4]; rfl); have z8 : w4.frozen? ⟨w.heap.size, 8, none⟩ = false := frozen_of_block HbA4))
  have HB4 := Lib.hid hB4
  have HL4 := Lib.hid (HL3.out.drew.trans (hx.mono (by exact Nat.le_of_lt hz3w)))
  have HA4 := Lib.hid HbA4
  have HF4 := Lib.hid hf4
  clear S4 hB4 hx HbA4 hf4 s0 z0 d0 s1 z1 d1 s2 z2 d2 s3 z3 d3 s4 z4 d4 s5 z5 d5 s6 z6 d6 s7 z7 d7 s8 z8 d8
  go_wp2_with fail
  generalize hW : World.setCell _ _ _ = w5
  have hch := (heap_setCell_same (i := 8) (heap_setCell_same (i := 7) (heap_setCell_same (i := 6) (heap_setCell_same (i := 5) (heap_setCell_same (i := 4) (heap_setCell_same (i := 3) (heap_setCell_same (i := 2) (heap_setCell_same (i := 1) (heap_setCell_same (i := 0) HA4.out (.bool y0)) (.bool y1)) (.bool y2)) (.bool y3)) (.int .u32 y4)) (.int .i64 y5)) (.int .i64 y6)) (.int .u32 y7)) (.slice a3 n2 c3))
  simp only [im0, List.setIfInBounds_toArray, List.set_cons_zero, List.set_cons_succ] at hch
  have hb : w5.heap[w.heap.size]? = some (.cells #[.bool y0, .bool y1, .bool y2, .bool y3, .int .u32 y4, .int .i64 y5, .int .i64 y6, .int .u32 y7, .slice a3 n2 c3] 32 (0, 0)) := by rw [← hW]; exact hch
  have M : Mod (· = w.heap.size) w4 w5 := by rw [← hW]; exact ((((((((((Mod.refl (· = w.heap.size) w4).set1 _).set1 _).set1 _).set1 _).set1 _).set1 _).set1 _).set1 _).set1 _)
  clear hch hW
  have k0 : w5.cell? ⟨w.heap.size, 0, none⟩ = some (.bool y0) := by rw [cell_of_block hb]; rfl
  have k1 : w5.cell? ⟨w.heap.size, 1, none⟩ = some (.bool y1) := by rw [cell_of_block hb]; rfl
  have k2 : w5.cell? ⟨w.heap.size, 2, none⟩ = some (.bool y2) := by rw [cell_of_block hb]; rfl
  have k3 : w5.cell? ⟨w.heap.size, 3, none⟩ = some (.bool y3) := by rw [cell_of_block hb]; rfl
  have k4 : w5.cell? ⟨w.heap.size, 4, none⟩ = some (.int .u32 y4) := by rw [cell_of_block hb]; rfl
  have k5 : w5.cell? ⟨w.heap.size, 5, none⟩ = some (.int .i64 y5) := by rw [cell_of_block hb]; rfl
  have k6 : w5.cell? ⟨w.heap.size, 6, none⟩ = some (.int .i64 y6) := by rw [cell_of_block hb]; rfl
  have k7 : w5.cell? ⟨w.heap.size, 7, none⟩ = some (.int .u32 y7) := by rw [cell_of_block hb]; rfl
  have k8 : w5.cell? ⟨w.heap.size, 8, none⟩ = some (.slice a3 n2 c3) := by rw [cell_of_block hb]; rfl
  refine bodyPost_ret (v := .tuple #[.agg #[.bool y0, .bool y1, .bool y2, .bool y3, .int .u32 y4, .int .i64 y5, .int .i64 y6, .int .u32 y7, .slice a3 n2 c3], .bool true]) (by simp [results, Tryd.results14, go_sem, k0, k1, k2, k3, k4, k5, k6, k7, k8]) rfl ?_
  obtain ⟨rfl, rfl, rfl, rfl, rfl, rfl, rfl, rfl⟩ := EQ.out
  have hlt : ∀ a, a3 = some a → ¬ (a.block = w.heap.size) := fun a ha => by have := HF4.out a ha; have : w3.heap.size ≤ a.block := this; omega
  exact ⟨a3, n2, c3, rfl, HB4.out.mod M hlt, HL4.out.trans (M.below (by have := HL4.out.size; exact this) (fun k hk => by omega))⟩

set_option maxHeartbeats 1000000 in
set_option maxRecDepth 20000 in
theorem dataOf_no {w : World} {ao : Option Addr} {n c : Nat} {l : List Int} (h : BytesAt w ao n c l) (hs : n ≤ 2147483647)
    (hz : ∀ (w1 : World) (a1 : Option Addr) (c1 : Nat), BytesAt w1 a1 n c1 l → c1 ≤ 9223372036854775807 → Below w.heap.size w w1 → Calls Tryd.prog 27 #[.slice a1 n c1] w1 (DataErr w1)) :
    Calls Tryd.prog 14 #[.slice ao n c] w (DataNot w) := by
  have hA : Mod (fun _ => False) w (w.alloc (.cells im0 32)) := (Mod.refl _ w).alloc _
  have HC := Lib.hid (copied_any ao n c l _ (h.mod hA (fun _ _ h => h)) hs)
  have HZ := Lib.hid hz
  have HbA := Lib.hid (heap_new w (.cells im0 32))
  clear h hA hz
  go_enter Tryd.func14, Tryd.ntmps14
  go_wp2_with fail
  refine HC.out.mono ?_
  rintro e w1 ⟨a1, c1, rfl, hB, hf, hc1, hL1⟩
  have hLw := ((Below.refl w.heap.size w).alloc (Nat.le_refl _) (.cells im0 32)).trans (hL1.mono (by simp))
  have HC2 := Lib.hid (HZ.out w1 a1 c1 hB hc1 hLw)
  have HbA1 : Hid (w1.heap[w.heap.size]? = some (.cells im0 32 (0, 0))) := Lib.hid ((hL1.block _ (by simp)).trans HbA.out)
  have hz1 : w.heap.size < w1.heap.size := by have := hL1.size; simp at this; omega
  have HL1 := Lib.hid hLw
  clear hB hf hL1 hLw
  go_wp2_with fail
  refine HC2.out.mono ?_
  rintro e w2 ⟨u, v, rfl, hL2⟩
  have HL2 := Lib.hid (HL1.out.trans (hL2.mono (by omega)))
  have hbA2 := (hL2.block _ hz1).trans HbA1.out
  have hz2 : w.heap.size < w2.heap.size := by have := hL2.size; omega
  clear hL2
  have s0 : w2.cell? ⟨w.heap.size, 0, none⟩ = some (.bool false) := by rw [cell_of_block hbA2]; rfl
  have z0 : w2.frozen? ⟨w.heap.size, 0, none⟩ = false := frozen_of_block hbA2
  have s1 : w2.cell? ⟨w.heap.size, 1, none⟩ = some (.bool false) := by rw [cell_of_block hbA2]; rfl
  have z1 : w2.frozen? ⟨w.heap.size, 1, none⟩ = false := frozen_of_block hbA2
  have s2 : w2.cell? ⟨w.heap.size, 2, none⟩ = some (.bool false) := by rw [cell_of_block hbA2]; rfl
  have z2 : w2.frozen? ⟨w.heap.size, 2, none⟩ = false := frozen_of_block hbA2
  have s3 : w2.cell? ⟨w.heap.size, 3, none⟩ = some (.bool false) := by rw [cell_of_block hbA2]; rfl
  have z3 : w2.frozen? ⟨w.heap.size, 3, none⟩ = false := frozen_of_block hbA2
  have s4 : w2.cell? ⟨w.heap.size, 4, none⟩ = some (.int .u32 0) := by rw [cell_of_block hbA2]; rfl
  have z4 : w2.frozen? ⟨w.heap.size, 4, none⟩ = false := frozen_of_block hbA2
  have s5 : w2.cell? ⟨w.heap.size, 5, none⟩ = some (.int .i64 0) := by rw [cell_of_block hbA2]; rfl
  have z5 : w2.frozen? ⟨w.heap.size, 5, none⟩ = false := frozen_of_block hbA2
  have s6 : w2.cell? ⟨w.heap.size, 6, none⟩ = some (.int .i64 0) := by rw [cell_of_block hbA2]; rfl
  have z6 : w2.frozen? ⟨w.heap.size, 6, none⟩ = false := frozen_of_block hbA2
  have s7 : w2.cell? ⟨w.heap.size, 7, none⟩ = some (.int .u32 0) := by rw [cell_of_block hbA2]; rfl
  have z7 : w2.frozen? ⟨w.heap.size, 7, none⟩ = false := frozen_of_block hbA2
  have s8 : w2.cell? ⟨w.heap.size, 8, none⟩ = some (.slice none 0 0) := by rw [cell_of_block hbA2]; rfl
  have z8 : w2.frozen? ⟨w.heap.size, 8, none⟩ = false := frozen_of_block hbA2
  have A2 := Lib.hid hbA2
  clear hbA2
  go_wp2_with fail
  clear s0 z0 s1 z1 s2 z2 s3 z3 s4 z4 s5 z5 s6 z6 s7 z7 s8 z8
  generalize hW : World.setCell _ _ _ = w5
  have hch := (heap_setCell_same (i := 8) (heap_setCell_same (i := 7) (heap_setCell_same (i := 6) (heap_setCell_same (i := 5) (heap_setCell_same (i := 4) (heap_setCell_same (i := 3) (heap_setCell_same (i := 2) (heap_setCell_same (i := 1) (heap_setCell_same (i := 0) A2.out (.bool false)) (.bool false)) (.bool false)) (.bool false)) (.int .u32 0)) (.int .i64 0)) (.int .i64 0)) (.int .u32 0)) (.slice none 0 0))
  simp only [im0, List.setIfInBounds_toArray, List.set_cons_zero, List.set_cons_succ] at hch
  have hb : w5.heap[w.heap.size]? = some (.cells #[.bool false, .bool false, .bool false, .bool false, .int .u32 0, .int .i64 0, .int .i64 0, .int .u32 0, .slice none 0 0] 32 (0, 0)) := by rw [← hW]; exact hch
  have M : Mod (· = w.heap.size) w2 w5 := by rw [← hW]; exact ((((((((((Mod.refl (· = w.heap.size) w2).set1 _).set1 _).set1 _).set1 _).set1 _).set1 _).set1 _).set1 _).set1 _)
  clear hch hW
  have k0 : w5.cell? ⟨w.heap.size, 0, none⟩ = some (.bool false) := by rw [cell_of_block hb]; rfl
  have k1 : w5.cell? ⟨w.heap.size, 1, none⟩ = some (.bool false) := by rw [cell_of_block hb]; rfl
  have k2 : w5.cell? ⟨w.heap.size, 2, none⟩ = some (.bool false) := by rw [cell_of_block hb]; rfl
  have k3 : w5.cell? ⟨w.heap.size, 3, none⟩ = some (.bool false) := by rw [cell_of_block hb]; rfl
  have k4 : w5.cell? ⟨w.heap.size, 4, none⟩ = some (.int .u32 0) := by rw [cell_of_block hb]; rfl
  have k5 : w5.cell? ⟨w.heap.size, 5, none⟩ = some (.int .i64 0) := by rw [cell_of_block hb]; rfl
  have k6 : w5.cell? ⟨w.heap.size, 6, none⟩ = some (.int .i64 0) := by rw [cell_of_block hb]; rfl
  have k7 : w5.cell? ⟨w.heap.size, 7, none⟩ = some (.int .u32 0) := by rw [cell_of_block hb]; rfl
  have k8 : w5.cell? ⟨w.heap.size, 8, none⟩ = some (.slice none 0 0) := by rw [cell_of_block hb]; rfl
  have hz5 : w.heap.size < w5.heap.size := by have := M.size; omega
  refine bodyPost_ret (v := .tuple #[.agg im0, .bool false]) (by simp [results, Tryd.results14, go_sem, im0, k0, k1, k2, k3, k4, k5, k6, k7, k8, hz5]) rfl ?_
  exact ⟨rfl, (HL2.out.trans (M.below (by have := HL2.out.size; exact this) (fun k hk => by omega))).alloc (by omega) _⟩
end Go.Proofs.YtnajpmdnadjipaaDoor
