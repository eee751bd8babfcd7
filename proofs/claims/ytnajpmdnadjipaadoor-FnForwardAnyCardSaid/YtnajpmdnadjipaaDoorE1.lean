/- Part of the proof of laws.FnDataAny. -/
import Derived.Test.YtnajpmdnadjipaaDoorD1
namespace Go.Proofs.YtnajpmdnadjipaaDoor
open Go.RowKit
set_option linter.unusedVariables false

/-- The fields of a new chunk of user data. -/
def dataC (t f raw un be en im tsn si ssn mid fsn pt ud idt : Value) : Array Value :=
  #[t, f, raw, .int .u64 0, un, be, en, im, tsn, si, ssn, mid, fsn, pt, ud, idt, .bool false, .int .u32 0, .int .u32 0, .bool false, .bool false, .bool false, .pointer none, .pointer none, .pointer none, .bool false]
def data0 : Array Value := dataC (.int .u8 0) (.int .u8 0) (.slice none 0 0) (.bool false) (.bool false) (.bool false) (.bool false) (.int .u32 0) (.int .u16 0) (.int .u16 0) (.int .u32 0) (.int .u32 0) (.int .u32 0) (.slice none 0 0) (.bool false)
def dataH (x f : Int) (raw : Value) : Array Value := dataC (.int .u8 x) (.int .u8 f) raw (.bool false) (.bool false) (.bool false) (.bool false) (.int .u32 0) (.int .u16 0) (.int .u16 0) (.int .u32 0) (.int .u32 0) (.int .u32 0) (.slice none 0 0) (.bool false)

/-- What stands in the fields where the chunk is one of user data. -/
def dataY (l : List Int) (raw ud : Value) : Array Value :=
  dataC (.int .u8 0) (.int .u8 (l.getD 1 0)) raw (.bool (bits .and .u8 (l.getD 1 0) 4 != 0)) (.bool (bits .and .u8 (l.getD 1 0) 2 != 0)) (.bool (bits .and .u8 (l.getD 1 0) 1 != 0)) (.bool (bits .and .u8 (l.getD 1 0) 8 != 0))
    (.int .u32 (be4 l 4)) (.int .u16 (be2 l 8)) (.int .u16 (be2 l 10)) (.int .u32 0) (.int .u32 0) (.int .u32 (be4 l 12)) ud (.bool false)
def PdYes (q b : Nat) (l : List Int) (w : World) (e : Ending) (w' : World) : Prop :=
  e = .returned .nilIface ∧ Mod (· = q) w w' ∧ ∃ raw ao c, BytesAt w' ao (l.length - 16) c (l.drop 16) ∧ (∀ a, ao = some a → a.block ≠ q ∧ a.block = b) ∧ w'.heap[q]? = some (.cells (dataY l raw (.slice ao (l.length - 16) c)) 90 (0, 0))

theorem BytesAt.part {w : World} {b off n c : Nat} {l : List Int} (h : BytesAt w (some ⟨b, off, none⟩) n c l) (k : Nat) (hk : k ≤ n) :
    BytesAt w (some ⟨b, off + k, none⟩) (n - k) (c - k) (l.drop k) := by
  have hc := h.cap
  refine ⟨by simp [h.len], by omega, (fun h => by simp at h), fun a ha i hi => ?_, fun i => ?_⟩
  · obtain rfl := Option.some.inj ha
    have e := h.cell _ rfl (k + i) (by omega)
    have ea : (⟨b, off + k, none⟩ : Addr).add i = (⟨b, off, none⟩ : Addr).add (k + i) := by unfold Addr.add; split <;> split <;> simp_all <;> omega
    rw [ea, e, getD_drop]
  · rw [getD_drop]; exact h.byte _

set_option maxHeartbeats 2000000 in
set_option maxRecDepth 20000 in
theorem pd_yes {w : World} {b off n c : Nat} {l : List Int} (h : ChunkAt w b off n c l) (hw : be2 l 2 = n) (q : Nat)
    (hq : w.heap[q]? = some (.cells data0 90 (0, 0))) (hqb : q ≠ b) (h0 : l.getD 0 0 = 0) (hn : 17 ≤ n) :
    Calls Tryd.prog 37 #[.pointer (some ⟨q, 0, none⟩), .slice (some ⟨b, off, none⟩) n c] w (PdYes q b l w) := by
  have HC := Lib.hid (hdr_w h hw q data0 90 hq (by simp [data0, dataC]) hqb)
  have H0 := Lib.hid h0
  have HL := Lib.hid h.len
  have hs := h.small
  obtain ⟨f, hf⟩ : ∃ x, x = l.getD 1 0 := ⟨_, rfl⟩
  have HF := Lib.hid hf
  have hfb := h.byte 1
  rw [← hf] at hfb
  obtain ⟨hf0, hf1⟩ := hfb
  clear h hw hq h0 hf
  go_enter Tryd.func37, Tryd.ntmps37
  go_wp2_with fail
  refine HC.out.mono ?_
  rintro e w1 ⟨rfl, hM, ao, c1, hB, hne, hb1⟩
  rw [H0.out, HL.out, ← HF.out] at hb1
  rw [HL.out] at hB
  obtain ⟨m, hm⟩ : ∃ m, m = n - 4 := ⟨_, rfl⟩
  rw [← hm] at hb1 hB
  have hm13 : 13 ≤ m := by omega
  have HMN := Lib.hid hm
  clear hm
  obtain ⟨b2, off2, rfl, hb2, _⟩ := hB.open (by omega)
  have hq1 : q < w1.heap.size := (Array.getElem?_eq_some_iff.1 hb1).1
  replace hb1 : w1.heap[q]? = some (.cells (dataH 0 f (.slice (some ⟨b2, off2, none⟩) m c1)) 90 (0, 0)) := hb1
  have B1 := Lib.hid hb1
  have g0 : w1.cell? ⟨q, 0, none⟩ = some (.int .u8 0) := by rw [cell_of_block hb1]; rfl
  have g1 : w1.cell? ⟨q, 1, none⟩ = some (.int .u8 f) := by rw [cell_of_block hb1]; rfl
  have g2 : w1.cell? ⟨q, 2, none⟩ = some (.slice (some ⟨b2, off2, none⟩) m c1) := by rw [cell_of_block hb1]; rfl
  have g4 : w1.cell? ⟨q, 4, none⟩ = some (.bool false) := by rw [cell_of_block hb1]; rfl
  have g5 : w1.cell? ⟨q, 5, none⟩ = some (.bool false) := by rw [cell_of_block hb1]; rfl
  have g6 : w1.cell? ⟨q, 6, none⟩ = some (.bool false) := by rw [cell_of_block hb1]; rfl
  have g7 : w1.cell? ⟨q, 7, none⟩ = some (.bool false) := by rw [cell_of_block hb1]; rfl
  have f4 : w1.frozen? ⟨q, 4, none⟩ = false := frozen_of_block hb1
  have f5 : w1.frozen? ⟨q, 5, none⟩ = false := frozen_of_block hb1
  have f6 : w1.frozen? ⟨q, 6, none⟩ = false := frozen_of_block hb1
  have f7 : w1.frozen? ⟨q, 7, none⟩ = false := frozen_of_block hb1
  have hc1 := hB.cap
  have HB := Lib.hid hB
  have HN := Lib.hid hne
  have HM := Lib.hid hM
  clear hB hne hb1 hM
  have d0 : ¬ c1 = 0 := by omega
  have d4 : ¬ c1 = 4 := by omega
  have d6 : ¬ c1 = 6 := by omega
  have d8 : ¬ c1 = 8 := by omega
  have d12 : ¬ c1 = 12 := by omega
  have i0 : (0 : Int) ≤ m := by omega
  have i4 : (4 : Int) ≤ m := by omega
  have i6 : (6 : Int) ≤ m := by omega
  have i8 : (8 : Int) ≤ m := by omega
  have i12 : (12 : Int) ≤ m := by omega
  go_wp2_with fail
  clear g0 g1 g2 g4 g5 g6 g7 f4 f5 f6 f7
  generalize hW2 : (((w1.setCell ⟨q, 7, none⟩ _).setCell ⟨q, 4, none⟩ _).setCell ⟨q, 5, none⟩ _).setCell ⟨q, 6, none⟩ _ = w2
  have hb2 : w2.heap[q]? = some (.cells (dataC (.int .u8 0) (.int .u8 f) (.slice (some ⟨b2, off2, none⟩) m c1) (.bool (bits .and .u8 f 4 != 0)) (.bool (bits .and .u8 f 2 != 0)) (.bool (bits .and .u8 f 1 != 0)) (.bool (bits .and .u8 f 8 != 0)) (.int .u32 0) (.int .u16 0) (.int .u16 0) (.int .u32 0) (.int .u32 0) (.int .u32 0) (.slice none 0 0) (.bool false)) 90 (0, 0)) := by rw [← hW2]; exact heap_setCell_same (heap_setCell_same (heap_setCell_same (heap_setCell_same B1.out _) _) _) _
  have M2 : Mod (· = q) w1 w2 := by rw [← hW2]; exact ((((Mod.refl _ w1).set1 _).set1 _).set1 _).set1 _
  have B2 := Lib.hid hb2
  have HM2 := Lib.hid (HM.out.trans M2)
  have HB2 := Lib.hid (HB.out.mod M2 (fun a ha => (HN.out a ha).1))
  clear hW2 hb2 M2 B1 HM HB
  have g2 : w2.cell? ⟨q, 2, none⟩ = some (.slice (some ⟨b2, off2, none⟩) m c1) := by rw [cell_of_block B2.out]; rfl
  have gd : w2.cell? ⟨q, 8, none⟩ = some (.int .u32 0) := by rw [cell_of_block B2.out]; rfl
  have fd : w2.frozen? ⟨q, 8, none⟩ = false := frozen_of_block B2.out
  have hq2 : q < w2.heap.size := lt_of_cell g2
  go_region_held3 (fun w' => w'.cell? ⟨q, 2, none⟩ = some (.slice (some ⟨b2, off2, none⟩) m c1)) (first | exact g2 | exact k2 | exact cell_set_ne k2 (by decide) _) (first | (go_at_call 43; refine (u32_at HB2.out.drewN 0 (m - 0) (c1 - 0) (by omega) (by omega)).mono ?_; rintro e x2 ⟨rfl, hx⟩; have k2 := (hx.cell (p := ⟨q, 2, none⟩) hq2).trans g2; have k3 := (hx.cell (p := ⟨q, 8, none⟩) hq2).trans gd; have j3 := (hx.frozen (p := ⟨q, 8, none⟩) hq2).trans fd))
  have MX : Mod (· = q) w2 x2 := (Mod.refl (· = q) w2).drew.trans (Mod.of_below hx)
  have BX : x2.heap[q]? = w2.heap[q]? := hx.block q hq2
  clear k2 k3 j3 g2 gd fd hx
  generalize hW : x2.setCell ⟨q, 8, none⟩ _ = w3
  have hb : w3.heap[q]? = some (.cells (dataC (.int .u8 0) (.int .u8 f) (.slice (some ⟨b2, off2, none⟩) m c1) (.bool (bits .and .u8 f 4 != 0)) (.bool (bits .and .u8 f 2 != 0)) (.bool (bits .and .u8 f 1 != 0)) (.bool (bits .and .u8 f 8 != 0)) (.int .u32 (be4 (l.drop 4) 0)) (.int .u16 0) (.int .u16 0) (.int .u32 0) (.int .u32 0) (.int .u32 0) (.slice none 0 0) (.bool false)) 90 (0, 0)) := by rw [← hW]; exact heap_setCell_same (BX.trans B2.out) _
  have MN : Mod (· = q) w2 w3 := by rw [← hW]; exact MX.set1 _
  have B3 := Lib.hid hb
  have HM3 := Lib.hid (HM2.out.trans MN)
  have HB3 := Lib.hid (HB2.out.mod MN (fun a ha => (HN.out a ha).1))
  clear hW hb MX BX MN B2 HM2 HB2 hq2
  go_wp2_with fail
  have g2 : w3.cell? ⟨q, 2, none⟩ = some (.slice (some ⟨b2, off2, none⟩) m c1) := by rw [cell_of_block B3.out]; rfl
  have gd : w3.cell? ⟨q, 9, none⟩ = some (.int .u16 0) := by rw [cell_of_block B3.out]; rfl
  have fd : w3.frozen? ⟨q, 9, none⟩ = false := frozen_of_block B3.out
  have hq3 : q < w3.heap.size := lt_of_cell g2
  go_region_held3 (fun w' => w'.cell? ⟨q, 2, none⟩ = some (.slice (some ⟨b2, off2, none⟩) m c1)) (first | exact g2 | exact k2 | exact cell_set_ne k2 (by decide) _) (first | (go_at_call 44; refine (u16_at HB3.out.drewN 4 (m - 4) (c1 - 4) (by omega) (by omega)).mono ?_; rintro e x3 ⟨rfl, hx⟩; have k2 := (hx.cell (p := ⟨q, 2, none⟩) hq3).trans g2; have k3 := (hx.cell (p := ⟨q, 9, none⟩) hq3).trans gd; have j3 := (hx.frozen (p := ⟨q, 9, none⟩) hq3).trans fd))
  have MX : Mod (· = q) w3 x3 := (Mod.refl (· = q) w3).drew.trans (Mod.of_below hx)
  have BX : x3.heap[q]? = w3.heap[q]? := hx.block q hq3
  clear k2 k3 j3 g2 gd fd hx
  generalize hW : x3.setCell ⟨q, 9, none⟩ _ = w4
  have hb : w4.heap[q]? = some (.cells (dataC (.int .u8 0) (.int .u8 f) (.slice (some ⟨b2, off2, none⟩) m c1) (.bool (bits .and .u8 f 4 != 0)) (.bool (bits .and .u8 f 2 != 0)) (.bool (bits .and .u8 f 1 != 0)) (.bool (bits .and .u8 f 8 != 0)) (.int .u32 (be4 (l.drop 4) 0)) (.int .u16 (be2 (l.drop 4) 4)) (.int .u16 0) (.int .u32 0) (.int .u32 0) (.int .u32 0) (.slice none 0 0) (.bool false)) 90 (0, 0)) := by rw [← hW]; exact heap_setCell_same (BX.trans B3.out) _
  have MN : Mod (· = q) w3 w4 := by rw [← hW]; exact MX.set1 _
  have B4 := Lib.hid hb
  have HM4 := Lib.hid (HM3.out.trans MN)
  have HB4 := Lib.hid (HB3.out.mod MN (fun a ha => (HN.out a ha).1))
  clear hW hb MX BX MN B3 HM3 HB3 hq3
  go_wp2_with fail
  have g2 : w4.cell? ⟨q, 2, none⟩ = some (.slice (some ⟨b2, off2, none⟩) m c1) := by rw [cell_of_block B4.out]; rfl
  have gd : w4.cell? ⟨q, 10, none⟩ = some (.int .u16 0) := by rw [cell_of_block B4.out]; rfl
  have fd : w4.frozen? ⟨q, 10, none⟩ = false := frozen_of_block B4.out
  have hq4 : q < w4.heap.size := lt_of_cell g2
  go_region_held3 (fun w' => w'.cell? ⟨q, 2, none⟩ = some (.slice (some ⟨b2, off2, none⟩) m c1)) (first | exact g2 | exact k2 | exact cell_set_ne k2 (by decide) _) (first | (go_at_call 44; refine (u16_at HB4.out.drewN 6 (m - 6) (c1 - 6) (by omega) (by omega)).mono ?_; rintro e x4 ⟨rfl, hx⟩; have k2 := (hx.cell (p := ⟨q, 2, none⟩) hq4).trans g2; have k3 := (hx.cell (p := ⟨q, 10, none⟩) hq4).trans gd; have j3 := (hx.frozen (p := ⟨q, 10, none⟩) hq4).trans fd))
  have MX : Mod (· = q) w4 x4 := (Mod.refl (· = q) w4).drew.trans (Mod.of_below hx)
  have BX : x4.heap[q]? = w4.heap[q]? := hx.block q hq4
  clear k2 k3 j3 g2 gd fd hx
  generalize hW : x4.setCell ⟨q, 10, none⟩ _ = w5
  have hb : w5.heap[q]? = some (.cells (dataC (.int .u8 0) (.int .u8 f) (.slice (some ⟨b2, off2, none⟩) m c1) (.bool (bits .and .u8 f 4 != 0)) (.bool (bits .and .u8 f 2 != 0)) (.bool (bits .and .u8 f 1 != 0)) (.bool (bits .and .u8 f 8 != 0)) (.int .u32 (be4 (l.drop 4) 0)) (.int .u16 (be2 (l.drop 4) 4)) (.int .u16 (be2 (l.drop 4) 6)) (.int .u32 0) (.int .u32 0) (.int .u32 0) (.slice none 0 0) (.bool false)) 90 (0, 0)) := by rw [← hW]; exact heap_setCell_same (BX.trans B4.out) _
  have MN : Mod (· = q) w4 w5 := by rw [← hW]; exact MX.set1 _
  have B5 := Lib.hid hb
  have HM5 := Lib.hid (HM4.out.trans MN)
  have HB5 := Lib.hid (HB4.out.mod MN (fun a ha => (HN.out a ha).1))
  clear hW hb MX BX MN B4 HM4 HB4 hq4
  go_wp2_with fail
  have g2 : w5.cell? ⟨q, 2, none⟩ = some (.slice (some ⟨b2, off2, none⟩) m c1) := by rw [cell_of_block B5.out]; rfl
  have gd : w5.cell? ⟨q, 13, none⟩ = some (.int .u32 0) := by rw [cell_of_block B5.out]; rfl
  have fd : w5.frozen? ⟨q, 13, none⟩ = false := frozen_of_block B5.out
  have hq5 : q < w5.heap.size := lt_of_cell g2
  go_region_held3 (fun w' => w'.cell? ⟨q, 2, none⟩ = some (.slice (some ⟨b2, off2, none⟩) m c1)) (first | exact g2 | exact k2 | exact cell_set_ne k2 (by decide) _) (first | (go_at_call 43; refine (u32_at HB5.out.drewN 8 (m - 8) (c1 - 8) (by omega) (by omega)).mono ?_; rintro e x5 ⟨rfl, hx⟩; have k2 := (hx.cell (p := ⟨q, 2, none⟩) hq5).trans g2; have k3 := (hx.cell (p := ⟨q, 13, none⟩) hq5).trans gd; have j3 := (hx.frozen (p := ⟨q, 13, none⟩) hq5).trans fd))
  have MX : Mod (· = q) w5 x5 := (Mod.refl (· = q) w5).drew.trans (Mod.of_below hx)
  have BX : x5.heap[q]? = w5.heap[q]? := hx.block q hq5
  clear k2 k3 j3 g2 gd fd hx
  generalize hW : x5.setCell ⟨q, 13, none⟩ _ = w6
  have hb : w6.heap[q]? = some (.cells (dataC (.int .u8 0) (.int .u8 f) (.slice (some ⟨b2, off2, none⟩) m c1) (.bool (bits .and .u8 f 4 != 0)) (.bool (bits .and .u8 f 2 != 0)) (.bool (bits .and .u8 f 1 != 0)) (.bool (bits .and .u8 f 8 != 0)) (.int .u32 (be4 (l.drop 4) 0)) (.int .u16 (be2 (l.drop 4) 4)) (.int .u16 (be2 (l.drop 4) 6)) (.int .u32 0) (.int .u32 0) (.int .u32 (be4 (l.drop 4) 8)) (.slice none 0 0) (.bool false)) 90 (0, 0)) := by rw [← hW]; exact heap_setCell_same (BX.trans B5.out) _
  have MN : Mod (· = q) w5 w6 := by rw [← hW]; exact MX.set1 _
  have B6 := Lib.hid hb
  have HM6 := Lib.hid (HM5.out.trans MN)
  have HB6 := Lib.hid (HB5.out.mod MN (fun a ha => (HN.out a ha).1))
  clear hW hb MX BX MN B5 HM5 HB5 hq5
  have g2 : w6.cell? ⟨q, 2, none⟩ = some (.slice (some ⟨b2, off2, none⟩) m c1) := by rw [cell_of_block B6.out]; rfl
  have g14 : w6.cell? ⟨q, 14, none⟩ = some (.slice none 0 0) := by rw [cell_of_block B6.out]; rfl
  have g15 : w6.cell? ⟨q, 15, none⟩ = some (.bool false) := by rw [cell_of_block B6.out]; rfl
  have f14 : w6.frozen? ⟨q, 14, none⟩ = false := frozen_of_block B6.out
  have f15 : w6.frozen? ⟨q, 15, none⟩ = false := frozen_of_block B6.out
  go_wp2_with fail
  go_ret
  have e16 : l.length - 16 = m - 12 := by rw [HL.out, HMN.out]; omega
  have hM7 := (HM6.out.set1 (i := 14) (.slice (some ⟨b2, off2 + 12, none⟩) (m - 12) (c1 - 12))).set1 (i := 15) (.bool false)
  have hN7 := ((Mod.refl (· = q) w6).set1 (i := 14) (.slice (some ⟨b2, off2 + 12, none⟩) (m - 12) (c1 - 12))).set1 (i := 15) (.bool false)
  refine ⟨rfl, hM7, (.slice (some ⟨b2, off2, none⟩) m c1), some ⟨b2, off2 + 12, none⟩, c1 - 12, ?_, ?_, ?_⟩
  · have := (BytesAt.part HB6.out 12 (by omega)).mod hN7 (fun a ha => by obtain rfl := Option.some.inj ha; exact (HN.out ⟨b2, off2, none⟩ rfl).1)
    rw [e16]; rwa [List.drop_drop] at this
  · intro a ha; obtain rfl := Option.some.inj ha; exact HN.out ⟨b2, off2, none⟩ rfl
  · have hb7 := heap_setCell_same (i := 15) (heap_setCell_same (i := 14) B6.out (.slice (some ⟨b2, off2 + 12, none⟩) (m - 12) (c1 - 12))) (.bool false)
    rw [e16]; simp only [dataY, ← HF.out]
    rw [← be4_drop l 4 0, ← be2_drop l 4 4, ← be2_drop l 4 6, ← be4_drop l 4 8]
    exact hb7
end Go.Proofs.YtnajpmdnadjipaaDoor
