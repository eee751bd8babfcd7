/- Part of the proof of laws.FnSackAny: what the reader of a SACK chunk leaves where all is well; conditions: as each theorem states. -/
import Derived.Test.YtnajpmdnadjipaaDoorI2
namespace Go.Proofs.YtnajpmdnadjipaaDoor
open Go.RowKit
set_option linter.unusedVariables false

/-- The gaps that were read so far. -/
def GapsTo (w : World) (gb G : Nat) (l : List Int) (j : Nat) : Prop :=
  ∃ cs, w.heap[gb]? = some (.cells cs 110 (0, 0)) ∧ cs.size = 2 * G ∧ ∀ k, k < 2 * G → cs[k]? = some (.int .u16 (if k < j then be2 l (16 + 2 * k) else 0))
/-- The doubles that were read so far. -/
def TwiceTo (w : World) (db D : Nat) (l : List Int) (s : Nat) (j : Nat) : Prop :=
  ∃ cs, w.heap[db]? = some (.cells cs 27 (0, 0)) ∧ cs.size = D ∧ ∀ k, k < D → cs[k]? = some (.int .u32 (if k < j then be4 l (s + 4 * k) else 0))

theorem gaps0 {w : World} {gb G : Nat} (l : List Int) (h : w.heap[gb]? = some (.cells (madeCells #[.int .u16 0, .int .u16 0] (G * 2)) 110 (0, 0))) : GapsTo w gb G l 0 := by
  refine ⟨_, h, by rw [size_madeCells]; omega, fun k hk => ?_⟩
  have hk2 : k % 2 = 0 ∨ k % 2 = 1 := by omega
  rcases hk2 with h2 | h2 <;> simp [madeCells, h2, show k < G * 2 by omega]
theorem twice0 {w : World} {db D : Nat} (l : List Int) (s : Nat) (h : w.heap[db]? = some (.cells (madeCells #[.int .u32 0] D) 27 (0, 0))) : TwiceTo w db D l s 0 := by
  refine ⟨_, h, by rw [size_madeCells], fun k hk => ?_⟩
  simp [madeCells, hk, Nat.mod_one]

theorem GapsTo.cell {w : World} {gb G : Nat} {l : List Int} {n : Nat} (h : GapsTo w gb G l n) (k : Nat) (hk : k < 2 * G) : w.cell? ⟨gb, k, none⟩ = some (.int .u16 (if k < n then be2 l (16 + 2 * k) else 0)) := by
  obtain ⟨cs, hb, hs, hc⟩ := h
  rw [cell_of_block hb]; exact hc k hk
theorem GapsTo.frozen {w : World} {gb G : Nat} {l : List Int} {n : Nat} (h : GapsTo w gb G l n) (k : Nat) : w.frozen? ⟨gb, k, none⟩ = false := by
  obtain ⟨cs, hb, hs, hc⟩ := h
  exact frozen_of_block hb
theorem GapsTo.of {w w' : World} {gb G : Nat} {l : List Int} {n : Nat} (h : GapsTo w gb G l n) (e : w'.heap[gb]? = w.heap[gb]?) : GapsTo w' gb G l n := by
  obtain ⟨cs, hb, hs, hc⟩ := h
  exact ⟨cs, e.trans hb, hs, hc⟩
theorem GapsTo.step {w : World} {gb G : Nat} {l : List Int} {n : Nat} (h : GapsTo w gb G l n) (x : Int) (hx : x = be2 l (16 + 2 * n)) : GapsTo (w.setCell ⟨gb, n, none⟩ (.int .u16 x)) gb G l (n + 1) := by
  obtain ⟨cs, hb, hs, hc⟩ := h
  refine ⟨_, heap_setCell_same hb _, by simpa using hs, fun k hk => ?_⟩
  rw [Array.getElem?_setIfInBounds]
  by_cases hkn : n = k
  · subst hkn; rw [if_pos rfl, if_pos (by omega), hx, if_pos (by omega)]
  · rw [if_neg hkn, hc k hk]
    by_cases h1 : k < n
    · rw [if_pos h1, if_pos (by omega)]
    · rw [if_neg h1, if_neg (by omega)]
theorem TwiceTo.cell {w : World} {db D : Nat} {l : List Int} {s n : Nat} (h : TwiceTo w db D l s n) (k : Nat) (hk : k < D) : w.cell? ⟨db, k, none⟩ = some (.int .u32 (if k < n then be4 l (s + 4 * k) else 0)) := by
  obtain ⟨cs, hb, hs, hc⟩ := h
  rw [cell_of_block hb]; exact hc k hk
theorem TwiceTo.frozen {w : World} {db D : Nat} {l : List Int} {s n : Nat} (h : TwiceTo w db D l s n) (k : Nat) : w.frozen? ⟨db, k, none⟩ = false := by
  obtain ⟨cs, hb, hs, hc⟩ := h
  exact frozen_of_block hb
theorem TwiceTo.of {w w' : World} {db D : Nat} {l : List Int} {s n : Nat} (h : TwiceTo w db D l s n) (e : w'.heap[db]? = w.heap[db]?) : TwiceTo w' db D l s n := by
  obtain ⟨cs, hb, hs, hc⟩ := h
  exact ⟨cs, e.trans hb, hs, hc⟩
theorem TwiceTo.step {w : World} {db D : Nat} {l : List Int} {s n : Nat} (h : TwiceTo w db D l s n) (x : Int) (hx : x = be4 l (s + 4 * n)) : TwiceTo (w.setCell ⟨db, n, none⟩ (.int .u32 x)) db D l s (n + 1) := by
  obtain ⟨cs, hb, hs, hc⟩ := h
  refine ⟨_, heap_setCell_same hb _, by simpa using hs, fun k hk => ?_⟩
  rw [Array.getElem?_setIfInBounds]
  by_cases hkn : n = k
  · subst hkn; rw [if_pos rfl, if_pos (by omega), hx, if_pos (by omega)]
  · rw [if_neg hkn, hc k hk]
    by_cases h1 : k < n
    · rw [if_pos h1, if_pos (by omega)]
    · rw [if_neg h1, if_neg (by omega)]

/-- What the reader's loops leave alone. -/
structure SkSt (w wr : World) (q : Nat) (qc : Array Value) (b2 off2 m c1 : Nat) (l : List Int) : Prop where
  mod : Mod (· = q) w wr
  q : wr.heap[q]? = some (.cells qc 95 (0, 0))
  bytes : BytesAt wr (some ⟨b2, off2, none⟩) m c1 (l.drop 4)

theorem SkSt.next {w wr x : World} {q : Nat} {qc : Array Value} {b2 off2 m c1 : Nat} {l : List Int} (h : SkSt w wr q qc b2 off2 m c1 l) (hx : Below wr.heap.size wr.drew x) {g : Nat} (hg : w.heap.size ≤ g) (hgq : g ≠ q) (hgb : g ≠ b2) (k : Nat) (v : Value) :
    SkSt w (x.setCell ⟨g, k, none⟩ v) q qc b2 off2 m c1 l := by
  have hM : Mod (fun _ => False) wr x := (Mod.refl _ wr).drew.trans (Mod.of_below hx)
  have hM2 : Mod (· = g) wr (x.setCell ⟨g, k, none⟩ v) := (hM.mono (fun _ h => h.elim)).set1 v
  refine ⟨(h.mod.trans (hM.mono (fun _ h => h.elim))).setCell (Or.inl hg) v, (hM2.block q (Array.getElem?_eq_some_iff.1 h.q).1 (fun e => hgq e.symm)).trans h.q, h.bytes.mod hM2 (fun a ha => ?_)⟩
  obtain rfl := Option.some.inj ha
  exact fun e => hgb e.symm
theorem GapsTo.lt {w : World} {gb G : Nat} {l : List Int} {n : Nat} (h : GapsTo w gb G l n) : gb < w.heap.size := by
  obtain ⟨cs, hb, _⟩ := h; exact (Array.getElem?_eq_some_iff.1 hb).1
theorem TwiceTo.lt {w : World} {db D : Nat} {l : List Int} {s n : Nat} (h : TwiceTo w db D l s n) : db < w.heap.size := by
  obtain ⟨cs, hb, _⟩ := h; exact (Array.getElem?_eq_some_iff.1 hb).1

def SkRel2 (w : World) (q : Nat) (qc : Array Value) (b2 off2 m c1 : Nat) (l : List Int) (gb G db D s : Nat) (v i : Value) (wr : World) : Prop :=
  ∃ j : Nat, j ≤ D ∧ i = .int .i64 j ∧ v = .int .i64 ((12 + 4 * G + 4 * j : Nat) : Int) ∧ SkSt w wr q qc b2 off2 m c1 l ∧ GapsTo wr gb G l (2 * G) ∧ TwiceTo wr db D l s j

/-- A SACK chunk that was read. -/
def SkYes (q : Nat) (l : List Int) (w : World) (e : Ending) (w' : World) : Prop :=
  e = .returned .nilIface ∧ Mod (· = q) w w' ∧ ∃ f raw gb db G D, w'.heap[q]? = some (.cells (sackC (.int .u8 3) (.int .u8 f) raw (.int .u32 (be4 l 4)) (.int .u32 (be4 l 8)) (.slice (some ⟨gb, 0, none⟩) G G) (.slice (some ⟨db, 0, none⟩) D D)) 95 (0, 0)) ∧
    ((G : Nat) : Int) = be2 l 12 ∧ ((D : Nat) : Int) = be2 l 14 ∧ w.heap.size ≤ gb ∧ w.heap.size ≤ db ∧ q < gb ∧ q < db ∧ GapsTo w' gb G l (2 * G) ∧ TwiceTo w' db D l (16 + 4 * G) D

def SkRel1 (w : World) (q : Nat) (qc : Array Value) (b2 off2 m c1 : Nat) (l : List Int) (gb G db D s : Nat) (v i : Value) (wr : World) : Prop :=
  ∃ j : Nat, j ≤ G ∧ i = .int .i64 j ∧ v = .int .i64 ((12 + 4 * j : Nat) : Int) ∧ SkSt w wr q qc b2 off2 m c1 l ∧ GapsTo wr gb G l (2 * j) ∧ TwiceTo wr db D l s 0

set_option maxHeartbeats 1000000 in
set_option maxRecDepth 20000 in
theorem sk_yes {w : World} {b off n c : Nat} {l : List Int} (h : ChunkAt w b off n c l) (hw : be2 l 2 = n) (q : Nat)
    (hq : w.heap[q]? = some (.cells sk0 95 (0, 0))) (hqb : q ≠ b) (h3 : l.getD 0 0 = 3) (hn : 16 ≤ n) (he16 : (n : Int) = 16 + 4 * be2 l 12 + 4 * be2 l 14) :
    Calls Tryd.prog 39 #[.pointer (some ⟨q, 0, none⟩), .slice (some ⟨b, off, none⟩) n c] w (SkYes q l w) := by
  have HC := Lib.hid (hdr_w h hw q sk0 95 hq (by simp [sk0]) hqb)
  have H3 := Lib.hid h3
  have HL := Lib.hid h.len
  have hs := h.small
  have hbw := h.lt
  obtain ⟨f, hf⟩ : ∃ x, x = l.getD 1 0 := ⟨_, rfl⟩
  have HF := Lib.hid hf
  have HEQ := Lib.hid he16
  have bg := be2_bound h.byte 12
  have bd := be2_bound h.byte 14
  clear h hw hq h3 hf he16
  go_enter Tryd.func39, Tryd.ntmps39
  go_wp2_with fail
  refine HC.out.mono ?_
  rintro e w1 ⟨rfl, hM, ao, c1, hB, hne, hb1⟩
  rw [H3.out, HL.out, ← HF.out] at hb1
  rw [HL.out] at hB
  obtain ⟨m, hm⟩ : ∃ m, m = n - 4 := ⟨_, rfl⟩
  rw [← hm] at hb1 hB
  have hm12 : 12 ≤ m := by omega
  have HMN := Lib.hid hm
  clear hm
  obtain ⟨b2, off2, rfl, hb2, _⟩ := hB.open (by omega)
  have hq1 : q < w1.heap.size := (Array.getElem?_eq_some_iff.1 hb1).1
  replace hb1 : w1.heap[q]? = some (.cells (sackH 3 f (.slice (some ⟨b2, off2, none⟩) m c1)) 95 (0, 0)) := hb1
  have B1 := Lib.hid hb1
  have g0 : w1.cell? ⟨q, 0, none⟩ = some (.int .u8 3) := by rw [cell_of_block hb1]; rfl
  have g2 : w1.cell? ⟨q, 2, none⟩ = some (.slice (some ⟨b2, off2, none⟩) m c1) := by rw [cell_of_block hb1]; rfl
  have g3 : w1.cell? ⟨q, 3, none⟩ = some (.int .u32 0) := by rw [cell_of_block hb1]; rfl
  have f3 : w1.frozen? ⟨q, 3, none⟩ = false := frozen_of_block hb1
  have hc1 := hB.cap
  have HB := Lib.hid hB
  have HN := Lib.hid hne
  have HM := Lib.hid hM
  clear hB hne hb1 hM
  have d0 : ¬ c1 = 0 := by omega
  have d4 : ¬ c1 = 4 := by omega
  have d8 : ¬ c1 = 8 := by omega
  have d10 : ¬ c1 = 10 := by omega
  have i0 : (0 : Int) ≤ m := by omega
  have i4 : (4 : Int) ≤ m := by omega
  have i8 : (8 : Int) ≤ m := by omega
  have i10 : (10 : Int) ≤ m := by omega
  go_wp2_with fail
  go_region_held3 (fun w' => w'.cell? ⟨q, 2, none⟩ = some (.slice (some ⟨b2, off2, none⟩) m c1)) (first | exact g2 | exact k2 | exact cell_set_ne k2 (by decide) _) (first | (go_at_call 43; refine (u32_at HB.out.drewN 0 (m - 0) (c1 - 0) (by omega) (by omega)).mono ?_; rintro e x2 ⟨rfl, hx⟩; have k2 := (hx.cell (p := ⟨q, 2, none⟩) hq1).trans g2; have k3 := (hx.cell (p := ⟨q, 3, none⟩) hq1).trans g3; have j3 := (hx.frozen (p := ⟨q, 3, none⟩) hq1).trans f3))
  have MX : Mod (· = q) w1 x2 := (Mod.refl (· = q) w1).drew.trans (Mod.of_below hx)
  have BX : x2.heap[q]? = w1.heap[q]? := hx.block q hq1
  clear k2 k3 j3 g2 g3 f3 hx g0
  generalize hW : x2.setCell ⟨q, 3, none⟩ _ = w3
  have hb : w3.heap[q]? = some (.cells (sackC (.int .u8 3) (.int .u8 f) (.slice (some ⟨b2, off2, none⟩) m c1) (.int .u32 (be4 (l.drop 4) 0)) (.int .u32 0) (.slice none 0 0) (.slice none 0 0)) 95 (0, 0)) := by rw [← hW]; exact heap_setCell_same (BX.trans B1.out) _
  have MN : Mod (· = q) w1 w3 := by rw [← hW]; exact MX.set1 _
  have B3 := Lib.hid hb
  have HM3 := Lib.hid (HM.out.trans MN)
  have HB3 := Lib.hid (HB.out.mod MN (fun a ha => (HN.out a ha).1))
  clear hW hb MX BX MN B1 HM HB hq1
  go_wp2_with fail
  have g2 : w3.cell? ⟨q, 2, none⟩ = some (.slice (some ⟨b2, off2, none⟩) m c1) := by rw [cell_of_block B3.out]; rfl
  have gd : w3.cell? ⟨q, 4, none⟩ = some (.int .u32 0) := by rw [cell_of_block B3.out]; rfl
  have fd : w3.frozen? ⟨q, 4, none⟩ = false := frozen_of_block B3.out
  have hq3 : q < w3.heap.size := lt_of_cell g2
  go_region_held3 (fun w' => w'.cell? ⟨q, 2, none⟩ = some (.slice (some ⟨b2, off2, none⟩) m c1)) (first | exact g2 | exact k2 | exact cell_set_ne k2 (by decide) _) (first | (go_at_call 43; refine (u32_at HB3.out.drewN 4 (m - 4) (c1 - 4) (by omega) (by omega)).mono ?_; rintro e x3 ⟨rfl, hx⟩; have k2 := (hx.cell (p := ⟨q, 2, none⟩) hq3).trans g2; have k3 := (hx.cell (p := ⟨q, 4, none⟩) hq3).trans gd; have j3 := (hx.frozen (p := ⟨q, 4, none⟩) hq3).trans fd))
  have MX : Mod (· = q) w3 x3 := (Mod.refl (· = q) w3).drew.trans (Mod.of_below hx)
  have BX : x3.heap[q]? = w3.heap[q]? := hx.block q hq3
  clear k2 k3 j3 g2 gd fd hx
  generalize hW : x3.setCell ⟨q, 4, none⟩ _ = w4
  have hb : w4.heap[q]? = some (.cells (sackC (.int .u8 3) (.int .u8 f) (.slice (some ⟨b2, off2, none⟩) m c1) (.int .u32 (be4 (l.drop 4) 0)) (.int .u32 (be4 (l.drop 4) 4)) (.slice none 0 0) (.slice none 0 0)) 95 (0, 0)) := by rw [← hW]; exact heap_setCell_same (BX.trans B3.out) _
  have MN : Mod (· = q) w3 w4 := by rw [← hW]; exact MX.set1 _
  have B4 := Lib.hid hb
  have HM4 := Lib.hid (HM3.out.trans MN)
  have HB4 := Lib.hid (HB3.out.mod MN (fun a ha => (HN.out a ha).1))
  clear hW hb MX BX MN B3 HM3 HB3 hq3
  go_wp2_with fail
  have g2 : w4.cell? ⟨q, 2, none⟩ = some (.slice (some ⟨b2, off2, none⟩) m c1) := by rw [cell_of_block B4.out]; rfl
  have gd : w4.cell? ⟨q, 5, none⟩ = some (.slice none 0 0) := by rw [cell_of_block B4.out]; rfl
  have fd : w4.frozen? ⟨q, 5, none⟩ = false := frozen_of_block B4.out
  have hq4 : q < w4.heap.size := lt_of_cell g2
  obtain ⟨G, hG⟩ : ∃ G : Nat, (G : Int) = be2 (l.drop 4) 8 := ⟨(be2 (l.drop 4) 8).toNat, by rw [be2_drop]; exact Int.toNat_of_nonneg bg.1⟩
  have HG := Lib.hid hG
  simp only [be2_drop, Nat.reduceAdd] at hG
  have G1 : G < 65536 := by have := bg.2; omega
  have HK := mk93 G G1
  have HG1 := Lib.hid hG
  clear hG
  go_region_held3 (fun w' => w'.cell? ⟨q, 2, none⟩ = some (.slice (some ⟨b2, off2, none⟩) m c1)) (first | exact g2 | exact k2 | exact cell_alloc k2 _ | exact cell_set_ne k2 (by decide) _ | exact cell_set_ne (cell_alloc k2 _) (by decide) _ | exact cell_alloc (cell_set_ne k2 (by decide) _) _) (first | (go_at_call 44; refine (u16_at HB4.out.drewN 8 (m - 8) (c1 - 8) (by omega) (by omega)).mono ?_; rw [← HG.out]; rintro e x4 ⟨rfl, hx⟩; have k2 := (hx.cell (p := ⟨q, 2, none⟩) hq4).trans g2; have k3 := (hx.cell (p := ⟨q, 5, none⟩) hq4).trans gd; have j3 := (hx.frozen (p := ⟨q, 5, none⟩) hq4).trans fd; have k4 := cell_alloc k3 (.cells (madeCells #[.int .u16 0, .int .u16 0] (G * 2)) 110); have j4 := (frozen_alloc (p := ⟨q, 5, none⟩) (lt_of_cell k3) (.cells (madeCells #[.int .u16 0, .int .u16 0] (G * 2)) 110)).trans j3))
  have HX4 := Lib.hid hx
  have M4 : Mod (· = q) w4 (x4.alloc (.cells (madeCells #[.int .u16 0, .int .u16 0] (G * 2)) 110)) := ((Mod.refl (· = q) w4).drew.trans (Mod.of_below hx)).alloc _
  have BX : (x4.alloc (.cells (madeCells #[.int .u16 0, .int .u16 0] (G * 2)) 110)).heap[q]? = w4.heap[q]? := (((Below.refl x4.heap.size x4).alloc (Nat.le_refl _) _).block q (lt_of_cell k3)).trans (hx.block q hq4)
  have hgq : q < x4.heap.size := lt_of_cell k3
  clear k2 k3 j3 k4 j4 g2 gd fd hx
  obtain ⟨gb, hgb⟩ : ∃ gb, gb = x4.heap.size := ⟨_, rfl⟩
  have BG : (x4.alloc (.cells (madeCells #[.int .u16 0, .int .u16 0] (G * 2)) 110)).heap[gb]? = some (.cells (madeCells #[.int .u16 0, .int .u16 0] (G * 2)) 110 (0, 0)) := by rw [hgb]; exact heap_new x4 _
  have hxg : w4.heap.size ≤ gb := by rw [hgb]; exact HX4.out.size
  rw [← hgb] at hgq ⊢
  generalize hW : (x4.alloc _).setCell ⟨q, 5, none⟩ _ = w5
  have hb : w5.heap[q]? = some (.cells (sackC (.int .u8 3) (.int .u8 f) (.slice (some ⟨b2, off2, none⟩) m c1) (.int .u32 (be4 (l.drop 4) 0)) (.int .u32 (be4 (l.drop 4) 4)) (.slice (some ⟨gb, 0, none⟩) G G) (.slice none 0 0)) 95 (0, 0)) := by rw [← hW]; exact heap_setCell_same (BX.trans B4.out) _
  have bg5 : w5.heap[gb]? = some (.cells (madeCells #[.int .u16 0, .int .u16 0] (G * 2)) 110 (0, 0)) := by rw [← hW]; exact (heap_setCell_other (show gb ≠ q by omega) _).trans BG
  have MN : Mod (· = q) w4 w5 := by rw [← hW]; exact M4.set1 _
  have B5 := Lib.hid hb
  have BG5 := Lib.hid bg5
  have HM5 := Lib.hid (HM4.out.trans MN)
  have HB5 := Lib.hid (HB4.out.mod MN (fun a ha => (HN.out a ha).1))
  have HS4 : Hid (w.heap.size ≤ gb) := Lib.hid (Nat.le_trans HM4.out.size hxg)
  clear hW hb bg5 BX BG M4 MN B4 HM4 HB4 hq4 HX4 hxg hgb HK
  go_wp2_with fail
  have g2 : w5.cell? ⟨q, 2, none⟩ = some (.slice (some ⟨b2, off2, none⟩) m c1) := by rw [cell_of_block B5.out]; rfl
  have gd : w5.cell? ⟨q, 6, none⟩ = some (.slice none 0 0) := by rw [cell_of_block B5.out]; rfl
  have fd : w5.frozen? ⟨q, 6, none⟩ = false := frozen_of_block B5.out
  have hq5 : q < w5.heap.size := lt_of_cell g2
  obtain ⟨D, hD⟩ : ∃ D : Nat, (D : Int) = be2 (l.drop 4) 10 := ⟨(be2 (l.drop 4) 10).toNat, by rw [be2_drop]; exact Int.toNat_of_nonneg bd.1⟩
  have HD := Lib.hid hD
  simp only [be2_drop, Nat.reduceAdd] at hD
  have D1 : D < 65536 := by have := bd.2; omega
  have HK := mk37 D D1
  have HD1 := Lib.hid hD
  clear hD
  go_region_held3 (fun w' => w'.cell? ⟨q, 2, none⟩ = some (.slice (some ⟨b2, off2, none⟩) m c1)) (first | exact g2 | exact k2 | exact cell_alloc k2 _ | exact cell_set_ne k2 (by decide) _ | exact cell_set_ne (cell_alloc k2 _) (by decide) _ | exact cell_alloc (cell_set_ne k2 (by decide) _) _) (first | (go_at_call 44; refine (u16_at HB5.out.drewN 10 (m - 10) (c1 - 10) (by omega) (by omega)).mono ?_; rw [← HD.out]; rintro e x5 ⟨rfl, hx⟩; have k2 := (hx.cell (p := ⟨q, 2, none⟩) hq5).trans g2; have k3 := (hx.cell (p := ⟨q, 6, none⟩) hq5).trans gd; have j3 := (hx.frozen (p := ⟨q, 6, none⟩) hq5).trans fd; have k4 := cell_alloc k3 (.cells (madeCells #[.int .u32 0] D) 27); have j4 := (frozen_alloc (p := ⟨q, 6, none⟩) (lt_of_cell k3) (.cells (madeCells #[.int .u32 0] D) 27)).trans j3))
  have HX5 := Lib.hid hx
  have M5 : Mod (· = q) w5 (x5.alloc (.cells (madeCells #[.int .u32 0] D) 27)) := ((Mod.refl (· = q) w5).drew.trans (Mod.of_below hx)).alloc _
  have BX : (x5.alloc (.cells (madeCells #[.int .u32 0] D) 27)).heap[q]? = w5.heap[q]? := (((Below.refl x5.heap.size x5).alloc (Nat.le_refl _) _).block q (lt_of_cell k3)).trans (hx.block q hq5)
  have hgb5 : gb < w5.heap.size := (Array.getElem?_eq_some_iff.1 BG5.out).1
  have BGX : (x5.alloc (.cells (madeCells #[.int .u32 0] D) 27)).heap[gb]? = w5.heap[gb]? := (((Below.refl x5.heap.size x5).alloc (Nat.le_refl _) _).block gb (Nat.lt_of_lt_of_le hgb5 hx.size)).trans (hx.block gb hgb5)
  have hdq : q < x5.heap.size := lt_of_cell k3
  clear k2 k3 j3 k4 j4 g2 gd fd hx
  obtain ⟨db, hdb⟩ : ∃ db, db = x5.heap.size := ⟨_, rfl⟩
  have BD : (x5.alloc (.cells (madeCells #[.int .u32 0] D) 27)).heap[db]? = some (.cells (madeCells #[.int .u32 0] D) 27 (0, 0)) := by rw [hdb]; exact heap_new x5 _
  have hxd : w5.heap.size ≤ db := by rw [hdb]; exact HX5.out.size
  rw [← hdb] at hdq ⊢
  generalize hW : (x5.alloc _).setCell ⟨q, 6, none⟩ _ = w6
  have hb : w6.heap[q]? = some (.cells (sackC (.int .u8 3) (.int .u8 f) (.slice (some ⟨b2, off2, none⟩) m c1) (.int .u32 (be4 (l.drop 4) 0)) (.int .u32 (be4 (l.drop 4) 4)) (.slice (some ⟨gb, 0, none⟩) G G) (.slice (some ⟨db, 0, none⟩) D D)) 95 (0, 0)) := by rw [← hW]; exact heap_setCell_same (BX.trans B5.out) _
  have bd6 : w6.heap[db]? = some (.cells (madeCells #[.int .u32 0] D) 27 (0, 0)) := by rw [← hW]; exact (heap_setCell_other (show db ≠ q by omega) _).trans BD
  have bg6 : w6.heap[gb]? = some (.cells (madeCells #[.int .u16 0, .int .u16 0] (G * 2)) 110 (0, 0)) := by rw [← hW]; exact (heap_setCell_other (show gb ≠ q by omega) _).trans (BGX.trans BG5.out)
  have MN : Mod (· = q) w5 w6 := by rw [← hW]; exact M5.set1 _
  have B6 := Lib.hid hb
  have BG6 := Lib.hid bg6
  have BD6 := Lib.hid bd6
  have HM6 := Lib.hid (HM5.out.trans MN)
  have HB6 := Lib.hid (HB5.out.mod MN (fun a ha => (HN.out a ha).1))
  have hgd : gb ≠ db := by omega
  have HS5 : Hid (w.heap.size ≤ db) := Lib.hid (Nat.le_trans HM5.out.size hxd)
  have g2 : w6.cell? ⟨q, 2, none⟩ = some (.slice (some ⟨b2, off2, none⟩) m c1) := by rw [cell_of_block hb]; rfl
  have g5 : w6.cell? ⟨q, 5, none⟩ = some (.slice (some ⟨gb, 0, none⟩) G G) := by rw [cell_of_block hb]; rfl
  have g6 : w6.cell? ⟨q, 6, none⟩ = some (.slice (some ⟨db, 0, none⟩) D D) := by rw [cell_of_block hb]; rfl
  clear hW hb bg6 bd6 BX BG5 BGX BD M5 MN B5 HM5 HB5 hq5 HX5 hxd hdb HK hgb5
  have wg := wraps_i64 (4 * (G : Int)) (by omega) (by omega)
  have wd := wraps_i64 (4 * (D : Int)) (by omega) (by omega)
  have ws := wraps_i64 (4 * (G : Int) + 4 * (D : Int)) (by omega) (by omega)
  have wt := wraps_i64 (12 + (4 * (G : Int) + 4 * (D : Int))) (by omega) (by omega)
  have hm' : (m : Int) = 12 + (4 * (G : Int) + 4 * (D : Int)) := by
    have h1 := HEQ.out; have h2 := HG1.out; have h3 := HD1.out; have h4 := HMN.out
    omega
  have hme : ((m : Int) == 12 + (4 * (G : Int) + 4 * (D : Int))) = true := by simpa using hm'
  obtain ⟨qc, hqc⟩ : ∃ qc, qc = sackC (.int .u8 3) (.int .u8 f) (.slice (some ⟨b2, off2, none⟩) m c1) (.int .u32 (be4 (l.drop 4) 0)) (.int .u32 (be4 (l.drop 4) 4)) (.slice (some ⟨gb, 0, none⟩) G G) (.slice (some ⟨db, 0, none⟩) D D) := ⟨_, rfl⟩
  have Q2 : Hid (qc[2]? = some (.slice (some ⟨b2, off2, none⟩) m c1)) := Lib.hid (by rw [hqc]; rfl)
  have Q5 : Hid (qc[5]? = some (.slice (some ⟨gb, 0, none⟩) G G)) := Lib.hid (by rw [hqc]; rfl)
  have Q6 : Hid (qc[6]? = some (.slice (some ⟨db, 0, none⟩) D D)) := Lib.hid (by rw [hqc]; rfl)
  have HS6 : Hid (SkSt w w6 q qc b2 off2 m c1 l) := Lib.hid ⟨HM6.out, by rw [hqc]; exact B6.out, HB6.out⟩
  have HQC := Lib.hid hqc
  have hgb2 : gb ≠ b2 := by have h1 := (HN.out _ rfl).2; have h2 := HS4.out; simp only at h1; omega
  have hdb2 : db ≠ b2 := by have h1 := (HN.out _ rfl).2; have h2 := HS5.out; simp only at h1; omega
  clear hqc
  have G6 := Lib.hid (gaps0 l BG6.out)
  have D6 := Lib.hid (twice0 l (16 + 4 * G) BD6.out)
  clear HM6 B6 HB6 BG6 BD6
  go_wp2_with fail
  go_quiet (fail)
  go_wp2_with fail
  have HS7 : Hid (SkSt w (w6.drewN nq) q qc b2 off2 m c1 l) := Lib.hid ⟨HS6.out.mod.drewN _, HS6.out.q, HS6.out.bytes.mod (Mod.drewN (Mod.refl (fun _ => False) w6) _) (fun _ _ h => h)⟩
  have G7 := Lib.hid (G6.out.of (w' := w6.drewN nq) rfl)
  have D7 := Lib.hid (D6.out.of (w' := w6.drewN nq) rfl)
  have HMQ := Lib.hid hm'
  clear hm' hme wg wd ws wt g2 g5 g6
  go_loopw [6, 105] (fun v i wr => SkRel1 w q qc b2 off2 m c1 l gb G db D (16 + 4 * G) v i wr) (fun _ i _ => G - (intOf i).toNat)
  case atStart => exact ⟨0, Nat.zero_le _, rfl, rfl, HS7.out, G7.out, D7.out⟩
  case round =>
    obtain ⟨j, hj, rfl, rfl, hst, hgs, hds⟩ := hrel
    by_cases hjk : j < G
    · obtain ⟨p, hp⟩ : ∃ p, p = 12 + 4 * j := ⟨_, rfl⟩
      rw [← hp]
      have hpm : p + 4 ≤ m := by have := HMQ.out; omega
      have g2 : wr.cell? ⟨q, 2, none⟩ = some (.slice (some ⟨b2, off2, none⟩) m c1) := by rw [cell_of_block hst.q]; exact Q2.out
      have g5 : wr.cell? ⟨q, 5, none⟩ = some (.slice (some ⟨gb, 0, none⟩) G G) := by rw [cell_of_block hst.q]; exact Q5.out
      have hq7 : q < wr.heap.size := lt_of_cell g2
      have ip : (p : Int) ≤ m := by omega
      have dp : ¬ c1 = p := by omega
      have hjG : (j : Int) < G := by omega
      have hgl : gb < wr.heap.size := by obtain ⟨cs, hb, _⟩ := hgs; exact (Array.getElem?_eq_some_iff.1 hb).1
      have gc := hgs.cell (j * 2) (by omega)
      have gf := hgs.frozen (j * 2)
      rw [if_neg (by omega)] at gc
      have HST := Lib.hid hst; have HGS := Lib.hid hgs; have HDS := Lib.hid hds; have HP := Lib.hid hp
      clear hst hgs hds hp
      go_wp2_with fail
      go_region_held3 (fun w' => w'.cell? ⟨q, 2, none⟩ = some (.slice (some ⟨b2, off2, none⟩) m c1) ∧ w'.cell? ⟨q, 5, none⟩ = some (.slice (some ⟨gb, 0, none⟩) G G)) (first | exact ⟨g2, g5⟩ | exact ⟨k2, k5⟩ | exact ⟨cell_set_blk k2 (by omega) _, cell_set_blk k5 (by omega) _⟩) (first | (go_at_call 44; refine (u16_at HST.out.bytes.drewN p (m - p) (c1 - p) (by omega) (by omega)).mono ?_; rintro e x7 ⟨rfl, hx⟩; have k2 := (hx.cell (p := ⟨q, 2, none⟩) hq7).trans g2; have k5 := (hx.cell (p := ⟨q, 5, none⟩) hq7).trans g5; have k3 := (hx.cell (p := ⟨gb, j * 2, none⟩) hgl).trans gc; have j3 := (hx.frozen (p := ⟨gb, j * 2, none⟩) hgl).trans gf))
      have HST8 := Lib.hid (HST.out.next hx HS4.out (by omega) hgb2 (j * 2) (.int .u16 (be2 (l.drop 4) p)))
      have HGS8 : Hid (GapsTo (x7.setCell ⟨gb, j * 2, none⟩ (.int .u16 (be2 (l.drop 4) p))) gb G l (j * 2 + 1)) := Lib.hid (by
        have e := HGS.out.of (hx.block gb hgl)
        rw [show 2 * j = j * 2 by omega] at e
        exact e.step _ (by rw [be2_drop, HP.out]; congr 1; omega))
      have HDS8 := Lib.hid (HDS.out.of ((heap_setCell_other (p := ⟨gb, j * 2, none⟩) (show db ≠ gb by omega) (.int .u16 (be2 (l.drop 4) p))).trans (hx.block db HDS.out.lt)))
      clear k2 k5 k3 j3 gc gf g2 g5 hx hq7 hgl HST HGS HDS
      generalize x7.setCell ⟨gb, j * 2, none⟩ (.int .u16 (be2 (l.drop 4) p)) = w8 at *
      have g2 : w8.cell? ⟨q, 2, none⟩ = some (.slice (some ⟨b2, off2, none⟩) m c1) := by rw [cell_of_block HST8.out.q]; exact Q2.out
      have g5 : w8.cell? ⟨q, 5, none⟩ = some (.slice (some ⟨gb, 0, none⟩) G G) := by rw [cell_of_block HST8.out.q]; exact Q5.out
      have hq8 : q < w8.heap.size := lt_of_cell g2
      have hgl := HGS8.out.lt
      have gc := HGS8.out.cell (j * 2 + 1) (by omega)
      have gf := HGS8.out.frozen (j * 2 + 1)
      rw [if_neg (by omega)] at gc
      have w2p := wraps_i64 ((p : Int) + 2) (by omega) (by have := HMQ.out; omega)
      have ip2 : (p : Int) + 2 ≤ m := by omega
      have ip20 : (0 : Int) ≤ (p : Int) + 2 := by omega
      have tn2 : ((p : Int) + 2).toNat = p + 2 := by omega
      have dp2 : ¬ c1 = p + 2 := by omega
      go_wp2_with fail
      go_region_held3 (fun w' => w'.cell? ⟨q, 2, none⟩ = some (.slice (some ⟨b2, off2, none⟩) m c1) ∧ w'.cell? ⟨q, 5, none⟩ = some (.slice (some ⟨gb, 0, none⟩) G G)) (first | exact ⟨g2, g5⟩ | exact ⟨k2, k5⟩ | exact ⟨cell_set_blk k2 (by omega) _, cell_set_blk k5 (by omega) _⟩) (first | (go_at_call 44; refine (u16_at HST8.out.bytes.drewN (p + 2) (m - (p + 2)) (c1 - (p + 2)) (by omega) (by omega)).mono ?_; rintro e x8 ⟨rfl, hx⟩; have k2 := (hx.cell (p := ⟨q, 2, none⟩) hq8).trans g2; have k5 := (hx.cell (p := ⟨q, 5, none⟩) hq8).trans g5; have k3 := (hx.cell (p := ⟨gb, j * 2 + 1, none⟩) hgl).trans gc; have j3 := (hx.frozen (p := ⟨gb, j * 2 + 1, none⟩) hgl).trans gf))
      have HST9 := Lib.hid (HST8.out.next hx HS4.out (by omega) hgb2 (j * 2 + 1) (.int .u16 (be2 (l.drop 4) (p + 2))))
      have HGS9 : Hid (GapsTo (x8.setCell ⟨gb, j * 2 + 1, none⟩ (.int .u16 (be2 (l.drop 4) (p + 2)))) gb G l (2 * (j + 1))) := Lib.hid (by
        have e := (HGS8.out.of (hx.block gb hgl)).step (be2 (l.drop 4) (p + 2)) (by rw [be2_drop, HP.out]; congr 1; omega)
        rwa [show j * 2 + 1 + 1 = 2 * (j + 1) by omega] at e)
      have HDS9 := Lib.hid (HDS8.out.of ((heap_setCell_other (p := ⟨gb, j * 2 + 1, none⟩) (show db ≠ gb by omega) (.int .u16 (be2 (l.drop 4) (p + 2)))).trans (hx.block db HDS8.out.lt)))
      clear k2 k5 k3 j3 gc gf g2 g5 hx hq8 hgl HST8 HGS8 HDS8
      generalize x8.setCell ⟨gb, j * 2 + 1, none⟩ (.int .u16 (be2 (l.drop 4) (p + 2))) = w9 at *
      have w4p := wraps_i64 ((p : Int) + 4) (by omega) (by have := HMQ.out; omega)
      have w1j := wraps_i64 ((j : Int) + 1) (by omega) (by omega)
      go_wp2_with fail
      go_roundw
      case rel => exact ⟨j + 1, hjk, by go_num, by rw [show ((12 + 4 * (j + 1) : Nat) : Int) = (p : Int) + 4 by rw [HP.out]; omega], HST9.out, HGS9.out, HDS9.out⟩
      case measure => simp [intOf]; omega
    · obtain rfl : j = G := by omega
      have g6 : wr.cell? ⟨q, 6, none⟩ = some (.slice (some ⟨db, 0, none⟩) D D) := by rw [cell_of_block hst.q]; exact Q6.out
      have hjj : (j : Int) ≤ j := Int.le_refl _
      have HST := Lib.hid hst; have HGS := Lib.hid hgs; have HDS := Lib.hid hds
      clear hst hgs hds
      go_wp2_with fail
      go_loopw [6, 149] (fun v i wr => SkRel2 w q qc b2 off2 m c1 l gb j db D (16 + 4 * j) v i wr) (fun _ i _ => D - (intOf i).toNat)
      case atStart => exact ⟨0, Nat.zero_le _, rfl, rfl, HST.out, HGS.out, HDS.out⟩
      case round =>
        obtain ⟨k, hk, rfl, rfl, hst, hgs, hds⟩ := hrel
        by_cases hkd : k < D
        · obtain ⟨p, hp⟩ : ∃ p, p = 12 + 4 * j + 4 * k := ⟨_, rfl⟩
          rw [← hp]
          have hpm : p + 4 ≤ m := by have := HMQ.out; omega
          have g2 : wr.cell? ⟨q, 2, none⟩ = some (.slice (some ⟨b2, off2, none⟩) m c1) := by rw [cell_of_block hst.q]; exact Q2.out
          have g6 : wr.cell? ⟨q, 6, none⟩ = some (.slice (some ⟨db, 0, none⟩) D D) := by rw [cell_of_block hst.q]; exact Q6.out
          have hq7 : q < wr.heap.size := lt_of_cell g2
          have ip : (p : Int) ≤ m := by omega
          have dp : ¬ c1 = p := by omega
          have hkD : (k : Int) < D := by omega
          have hdl := hds.lt
          have gc := hds.cell k hkd
          have gf := hds.frozen k
          rw [if_neg (by omega)] at gc
          have HST := Lib.hid hst; have HGS := Lib.hid hgs; have HDS := Lib.hid hds; have HP := Lib.hid hp
          clear hst hgs hds hp
          go_wp2_with fail
          go_region_held3 (fun w' => w'.cell? ⟨q, 2, none⟩ = some (.slice (some ⟨b2, off2, none⟩) m c1) ∧ w'.cell? ⟨q, 6, none⟩ = some (.slice (some ⟨db, 0, none⟩) D D)) (first | exact ⟨g2, g6⟩ | exact ⟨k2, k6⟩ | exact ⟨cell_set_blk k2 (by omega) _, cell_set_blk k6 (by omega) _⟩) (first | (go_at_call 43; refine (u32_at HST.out.bytes.drewN p (m - p) (c1 - p) (by omega) (by omega)).mono ?_; rintro e x7 ⟨rfl, hx⟩; have k2 := (hx.cell (p := ⟨q, 2, none⟩) hq7).trans g2; have k6 := (hx.cell (p := ⟨q, 6, none⟩) hq7).trans g6; have k3 := (hx.cell (p := ⟨db, k, none⟩) hdl).trans gc; have j3 := (hx.frozen (p := ⟨db, k, none⟩) hdl).trans gf))
          have HST8 := Lib.hid (HST.out.next hx HS5.out (by omega) hdb2 k (.int .u32 (be4 (l.drop 4) p)))
          have HDS8 := Lib.hid ((HDS.out.of (hx.block db hdl)).step (be4 (l.drop 4) p) (by rw [be4_drop, HP.out]; congr 1; omega))
          have HGS8 := Lib.hid (HGS.out.of ((heap_setCell_other (p := ⟨db, k, none⟩) (show gb ≠ db by omega) (.int .u32 (be4 (l.drop 4) p))).trans (hx.block gb HGS.out.lt)))
          clear k2 k6 k3 j3 gc gf g2 g6 hx hq7 hdl HST HGS HDS
          generalize x7.setCell ⟨db, k, none⟩ (.int .u32 (be4 (l.drop 4) p)) = w8 at *
          have w4p := wraps_i64 ((p : Int) + 4) (by omega) (by have := HMQ.out; omega)
          have w1k := wraps_i64 ((k : Int) + 1) (by omega) (by omega)
          go_wp2_with fail
          go_roundw
          case rel => exact ⟨k + 1, hkd, by go_num, by rw [show ((12 + 4 * j + 4 * (k + 1) : Nat) : Int) = (p : Int) + 4 by rw [HP.out]; omega], HST8.out, HGS8.out, HDS8.out⟩
          case measure => simp [intOf]; omega
        · obtain rfl : k = D := by omega
          have hkk : (k : Int) ≤ k := Int.le_refl _
          have HST := Lib.hid hst; have HGS := Lib.hid hgs; have HDS := Lib.hid hds
          clear hst hgs hds
          go_wp2_with fail
          go_ret
          refine ⟨rfl, HST.out.mod, f, .slice (some ⟨b2, off2, none⟩) m c1, gb, db, j, k, ?_, HG1.out, HD1.out, HS4.out, HS5.out, hgq, hdq, HGS.out, HDS.out⟩
          have hqq := HST.out.q
          rw [HQC.out, be4_drop, be4_drop] at hqq
          exact hqq
end Go.Proofs.YtnajpmdnadjipaaDoor
