/- Part of the proof of laws.FnSackAny: what ZZSackOf returns where the chunk is right; conditions: as the theorem states. -/
import Derived.Test.YtnajpmdnadjipaaDoorJ1
namespace Go.Proofs.YtnajpmdnadjipaaDoor
open Go.RowKit
set_option linter.unusedVariables false

theorem four3456_below {w w' : World} {s : Nat} {v0 v1 v2 v3 : Value} (hb : Below w.heap.size w w') (hs : s < w.heap.size)
    (h : w.cell? ⟨s, 3, none⟩ = some (v0) ∧ w.cell? ⟨s, 4, none⟩ = some (v1) ∧ w.cell? ⟨s, 5, none⟩ = some (v2) ∧ w.cell? ⟨s, 6, none⟩ = some (v3)) :
    w'.cell? ⟨s, 3, none⟩ = some (v0) ∧ w'.cell? ⟨s, 4, none⟩ = some (v1) ∧ w'.cell? ⟨s, 5, none⟩ = some (v2) ∧ w'.cell? ⟨s, 6, none⟩ = some (v3) :=
  ⟨(hb.cell (p := ⟨s, 3, none⟩) hs).trans h.1, (hb.cell (p := ⟨s, 4, none⟩) hs).trans h.2.1, (hb.cell (p := ⟨s, 5, none⟩) hs).trans h.2.2.1, (hb.cell (p := ⟨s, 6, none⟩) hs).trans h.2.2.2⟩
theorem four3456_set {w : World} {s g : Nat} {v0 v1 v2 v3 : Value} (x0 x1 x2 x3 : Value) (hne : s ≠ g)
    (h : w.cell? ⟨s, 3, none⟩ = some (v0) ∧ w.cell? ⟨s, 4, none⟩ = some (v1) ∧ w.cell? ⟨s, 5, none⟩ = some (v2) ∧ w.cell? ⟨s, 6, none⟩ = some (v3)) :
    let w' := (((w.setCell ⟨g, 0, none⟩ x0).setCell ⟨g, 1, none⟩ x1).setCell ⟨g, 2, none⟩ x2).setCell ⟨g, 3, none⟩ x3
    w'.cell? ⟨s, 3, none⟩ = some (v0) ∧ w'.cell? ⟨s, 4, none⟩ = some (v1) ∧ w'.cell? ⟨s, 5, none⟩ = some (v2) ∧ w'.cell? ⟨s, 6, none⟩ = some (v3) :=
  ⟨(cell_set_blk (cell_set_blk (cell_set_blk (cell_set_blk h.1 hne _) hne _) hne _) hne _), (cell_set_blk (cell_set_blk (cell_set_blk (cell_set_blk h.2.1 hne _) hne _) hne _) hne _), (cell_set_blk (cell_set_blk (cell_set_blk (cell_set_blk h.2.2.1 hne _) hne _) hne _) hne _), (cell_set_blk (cell_set_blk (cell_set_blk (cell_set_blk h.2.2.2 hne _) hne _) hne _) hne _)⟩

theorem TwiceTo.row {w : World} {db D B : Nat} {l : List Int} {s : Nat} (h : TwiceTo w db D l s D) (hB : B ≤ db) : RowAt B w (some ⟨db, 0, none⟩) D D 1 (fun k => .int .u32 (be4 l (s + 4 * k))) :=
  .inr ⟨db, rfl, hB, h.lt, Nat.le_refl _, fun k hk => by rw [h.cell k (by omega), if_pos (by omega)]⟩

/-- A SACK chunk, no error. -/
def SackOk (w : World) (l : List Int) (e : Ending) (w' : World) : Prop :=
  ∃ ga gc db, ∃ G D : Nat, e = .returned (.tuple #[.agg #[.int .u32 (be4 l 4), .int .u32 (be4 l 8), .slice ga G gc, .slice (some ⟨db, 0, none⟩) D D], .nilIface]) ∧
    (G : Int) = be2 l 12 ∧ (D : Int) = be2 l 14 ∧ RowAt w.heap.size w' ga G gc 2 (gap16 l 16) ∧ RowAt w.heap.size w' (some ⟨db, 0, none⟩) D D 1 (fun k => .int .u32 (be4 l (16 + 4 * G + 4 * k))) ∧ Below w.heap.size w w'

set_option maxHeartbeats 1000000 in
set_option maxRecDepth 20000 in
theorem zzsk_yes {w : World} {b off n c : Nat} {l : List Int} (h : ChunkAt w b off n c l) (hw : be2 l 2 = n) (h3 : l.getD 0 0 = 3) (hn : 16 ≤ n) (he16 : (n : Int) = 16 + 4 * be2 l 12 + 4 * be2 l 14) :
    Calls Tryd.prog 29 #[.slice (some ⟨b, off, none⟩) n c] w (SackOk w l) := by
  have hb := h.lt
  have HC := Lib.hid (sk_yes (h.mod (zzskW_mod w) (fun h => h)) hw (w.heap.size + 1) (zzskW_q w) (by omega) h3 hn he16)
  have HR := Lib.hid (zzskW_r w)
  have HZ : Hid (w.heap.size < (zzskW w).heap.size) := Lib.hid (by simp [zzskW]; omega)
  have HZ2 : Hid ((zzskW w).heap.size = w.heap.size + 2) := Lib.hid (by simp [zzskW])
  have bg := be2_bound h.byte 12
  have bd := be2_bound h.byte 14
  clear h hw h3 he16
  go_enter Tryd.func29, Tryd.ntmps29
  go_wp2_with fail
  refine HC.out.mono ?_
  rintro e w1 ⟨rfl, hM, f, raw, gb, db, G, D, hb1, hG, hD, hgb, hdb, hqg, hqd, hgs, hds⟩
  have r1 : w1.heap[w.heap.size]? = some (.cells zzsk 65 (0, 0)) := (hM.block _ HZ.out (by omega)).trans HR.out
  have G1 : G < 65536 := by have := bg.2; omega
  have HL := Lib.hid (Below.of_zzsk hM)
  have R1 := Lib.hid r1
  have HGB := Lib.hid hgb; have HDB := Lib.hid hdb; have HQG := Lib.hid hqg; have HQD := Lib.hid hqd
  have HG := Lib.hid hG; have HD := Lib.hid hD; have HGS := Lib.hid hgs; have HDS := Lib.hid hds
  obtain ⟨t, ht⟩ : ∃ t, t = be4 l 4 := ⟨_, rfl⟩
  obtain ⟨u, hu⟩ : ∃ u, u = be4 l 8 := ⟨_, rfl⟩
  rw [← ht, ← hu] at hb1
  have HT := Lib.hid ht; have HU := Lib.hid hu
  have hr1 : w.heap.size < w1.heap.size := (Array.getElem?_eq_some_iff.1 r1).1
  have hq1 : w.heap.size + 1 < w1.heap.size := (Array.getElem?_eq_some_iff.1 hb1).1
  have hqr : w.heap.size + 1 ≠ w.heap.size := by omega
  have d3 : w1.cell? ⟨w.heap.size + 1, 3, none⟩ = some (.int .u32 t) := by rw [cell_of_block hb1]; rfl
  have d4 : w1.cell? ⟨w.heap.size + 1, 4, none⟩ = some (.int .u32 u) := by rw [cell_of_block hb1]; rfl
  have d5 : w1.cell? ⟨w.heap.size + 1, 5, none⟩ = some (.slice (some ⟨gb, 0, none⟩) G G) := by rw [cell_of_block hb1]; rfl
  have d6 : w1.cell? ⟨w.heap.size + 1, 6, none⟩ = some (.slice (some ⟨db, 0, none⟩) D D) := by rw [cell_of_block hb1]; rfl
  have SD : w1.drew.cell? ⟨w.heap.size + 1, 3, none⟩ = some (.int .u32 t) ∧ w1.drew.cell? ⟨w.heap.size + 1, 4, none⟩ = some (.int .u32 u) ∧ w1.drew.cell? ⟨w.heap.size + 1, 5, none⟩ = some (.slice (some ⟨gb, 0, none⟩) G G) ∧ w1.drew.cell? ⟨w.heap.size + 1, 6, none⟩ = some (.slice (some ⟨db, 0, none⟩) D D) := ⟨d3, d4, d5, d6⟩
  have SD := Lib.hid SD
  clear hM r1 hb1 hG hD hgb hdb hqg hqd hgs hds ht hu bg bd HC
  go_wp2_with fail
  go_region_held3 (fun w' => w'.cell? ⟨w.heap.size + 1, 3, none⟩ = some (.int .u32 t) ∧ w'.cell? ⟨w.heap.size + 1, 4, none⟩ = some (.int .u32 u) ∧ w'.cell? ⟨w.heap.size + 1, 5, none⟩ = some (.slice (some ⟨gb, 0, none⟩) G G) ∧ w'.cell? ⟨w.heap.size + 1, 6, none⟩ = some (.slice (some ⟨db, 0, none⟩) D D)) (first | with_reducible exact SD.out | with_reducible exact S2 | with_reducible exact four3456_set _ _ _ _ hqr S2) (first | (go_at_call 40; refine (gaps_any (HGS.out.of (w' := w1.drew) rfl) G1).mono ?_; rintro e w2 ⟨ga, gc, rfl, hr, hx⟩; have S2 := four3456_below hx hq1 SD.out; have HbR := (hx.block _ hr1).trans R1.out; have s0 : w2.cell? ⟨w.heap.size, 0, none⟩ = some (.int .u32 0) := (by rw [cell_of_block HbR]; rfl); have z0 : w2.frozen? ⟨w.heap.size, 0, none⟩ = false := frozen_of_block HbR; have s1 : w2.cell? ⟨w.heap.size, 1, none⟩ = some (.int .u32 0) := (by rw [cell_of_block HbR]; rfl); have z1 : w2.frozen? ⟨w.heap.size, 1, none⟩ = false := frozen_of_block HbR; have s2 : w2.cell? ⟨w.heap.size, 2, none⟩ = some (.slice none 0 0) := (by rw [cell_of_block HbR]; rfl); have z2 : w2.frozen? ⟨w.heap.size, 2, none⟩ = false := frozen_of_block HbR; have s3 : w2.cell? ⟨w.heap.size, 3, none⟩ = some (.slice none 0 0) := (by rw [cell_of_block HbR]; rfl); have z3 : w2.frozen? ⟨w.heap.size, 3, none⟩ = false := frozen_of_block HbR))
  have HR2 := Lib.hid hr
  have HX2 := Lib.hid hx
  have HA2 := Lib.hid HbR
  clear S2 hr hx HbR s0 z0 d3 s1 z1 d4 s2 z2 d5 s3 z3 d6
  go_wp2_with fail
  generalize hW : World.setCell _ _ _ = w3
  have hch := (heap_setCell_same (i := 3) (heap_setCell_same (i := 2) (heap_setCell_same (i := 1) (heap_setCell_same (i := 0) HA2.out (.int .u32 t)) (.int .u32 u)) (.slice ga G gc)) (.slice (some ⟨db, 0, none⟩) D D))
  simp only [zzsk, List.setIfInBounds_toArray, List.set_cons_zero, List.set_cons_succ] at hch
  have hb : w3.heap[w.heap.size]? = some (.cells #[.int .u32 t, .int .u32 u, .slice ga G gc, .slice (some ⟨db, 0, none⟩) D D] 65 (0, 0)) := by rw [← hW]; exact hch
  have M : Mod (· = w.heap.size) w2 w3 := by rw [← hW]; exact (((((Mod.refl (· = w.heap.size) w2).set1 _).set1 _).set1 _).set1 _)
  clear hch hW
  have k0 : w3.cell? ⟨w.heap.size, 0, none⟩ = some (.int .u32 t) := by rw [cell_of_block hb]; rfl
  have k1 : w3.cell? ⟨w.heap.size, 1, none⟩ = some (.int .u32 u) := by rw [cell_of_block hb]; rfl
  have k2 : w3.cell? ⟨w.heap.size, 2, none⟩ = some (.slice ga G gc) := by rw [cell_of_block hb]; rfl
  have k3 : w3.cell? ⟨w.heap.size, 3, none⟩ = some (.slice (some ⟨db, 0, none⟩) D D) := by rw [cell_of_block hb]; rfl
  refine bodyPost_ret (v := .tuple #[.agg #[.int .u32 t, .int .u32 u, .slice ga G gc, .slice (some ⟨db, 0, none⟩) D D], .nilIface]) (by simp [results, Tryd.results29, go_sem, k0, k1, k2, k3]) rfl ?_
  have hs1 : w1.drew.heap.size = w1.heap.size := rfl
  have MX : Mod (fun _ => False) w1 w2 := (Mod.refl _ w1).drew.trans (Mod.of_below HX2.out)
  have hz : ∀ q : Nat, q = w.heap.size → q < w.heap.size + 1 ∨ w2.heap.size ≤ q := fun q e => .inl (by omega)
  have h3 := (HDS.out.row (B := w.heap.size + 2) (by have := HDB.out; have := HZ2.out; omega)).mod (MX.trans (Mod.refl _ _)) (fun _ h => h.elim)
  have h2 := HR2.out.mono (C := w.heap.size + 1) (by rw [hs1]; omega)
  rw [HT.out, HU.out]
  exact ⟨ga, gc, db, G, D, rfl, HG.out, HD.out, (h2.mod M hz).mono (by omega), ((h3.mono (by omega)).mod M hz).mono (by omega), (HL.out.trans ((Below.refl w1.heap.size w1).drew.trans HX2.out |>.mono (by omega))).trans (M.below (by have := HX2.out.size; rw [hs1] at this; omega) (fun k hk => by omega))⟩
end Go.Proofs.YtnajpmdnadjipaaDoor
