/- Part of the proof of laws.FnForwardAny: what impl.ForwardOf and spec.ForwardOf return; conditions: as each theorem states. -/
import Derived.Test.YtnajpmdnadjipaaDoorK3
namespace Go.Proofs.YtnajpmdnadjipaaDoor
open Go.RowKit
set_option linter.unusedVariables false

/-- A FORWARD TSN chunk as plain data. -/
def FwdIs (w : World) (l : List Int) (S : Nat) (e : Ending) (w' : World) : Prop :=
  ∃ pa pc, e = .returned (.tuple #[.agg #[.int .u32 (be4 l 4), .slice pa S pc], .bool true]) ∧ RowAt w.heap.size w' pa S pc 2 (fun k => .int .i64 (be2 l (8 + 2 * k))) ∧ Below w.heap.size w w'

theorem two_set {w : World} {s g : Nat} {v0 v1 : Value} (x0 x1 : Value) (hne : s ≠ g) (h : w.cell? ⟨s, 0, none⟩ = some v0 ∧ w.cell? ⟨s, 1, none⟩ = some v1) :
    let w' := (w.setCell ⟨g, 0, none⟩ x0).setCell ⟨g, 1, none⟩ x1
    w'.cell? ⟨s, 0, none⟩ = some v0 ∧ w'.cell? ⟨s, 1, none⟩ = some v1 :=
  ⟨cell_set_blk (cell_set_blk h.1 hne _) hne _, cell_set_blk (cell_set_blk h.2 hne _) hne _⟩
theorem two_mod {S : Nat → Prop} {w w' : World} {s : Nat} {v0 v1 : Value} (hb : Mod S w w') (hs : s < w.heap.size) (hS : ¬ S s) (h : w.cell? ⟨s, 0, none⟩ = some v0 ∧ w.cell? ⟨s, 1, none⟩ = some v1) :
    w'.cell? ⟨s, 0, none⟩ = some v0 ∧ w'.cell? ⟨s, 1, none⟩ = some v1 :=
  ⟨(hb.cell (p := ⟨s, 0, none⟩) hs hS).trans h.1, (hb.cell (p := ⟨s, 1, none⟩) hs hS).trans h.2⟩

set_option maxHeartbeats 1000000 in
set_option maxRecDepth 20000 in
theorem forwardOf_yes {w : World} {ao : Option Addr} {n c S : Nat} {l : List Int} (h : BytesAt w ao n c l) (hs : n ≤ 2147483647) (hw : be2 l 2 = n) (hn : n = 8 + 4 * S) (hS : S < 65536) :
    Calls Tryd.prog 20 #[.slice ao n c] w (FwdIs w l S) := by
  have hA : Mod (fun _ => False) w (w.alloc (.cells imfw 45)) := (Mod.refl _ w).alloc _
  have HC := Lib.hid (copied_any ao n c l _ (h.mod hA (fun _ _ h => h)) hs)
  have HW := Lib.hid hw; have HN := Lib.hid hn
  have h4 : 4 ≤ n := by omega
  have HbA := Lib.hid (heap_new w (.cells imfw 45))
  have HBY := Lib.hid (fun k => be2_bound h.byte k)
  clear h hw hA hn
  go_enter Tryd.func20, Tryd.ntmps20
  go_wp2_with fail
  refine HC.out.mono ?_
  rintro e w1 ⟨a1, c1, rfl, hB, hf, hc1, hL1⟩
  obtain ⟨b, off, rfl, hCh⟩ := hB.chunk (by omega) hs hc1
  have HC2 := Lib.hid (zzfw_yes hCh HW.out HN.out)
  have HbA1 : Hid (w1.heap[w.heap.size]? = some (.cells imfw 45 (0, 0))) := Lib.hid ((hL1.block _ (by simp)).trans HbA.out)
  have hz1 : w.heap.size < w1.heap.size := by have := hL1.size; simp at this; omega
  have HL1 := Lib.hid (((Below.refl w.heap.size w).alloc (Nat.le_refl _) (.cells imfw 45)).trans (hL1.mono (by simp)))
  clear hB hCh hf hL1
  go_wp2_with fail
  refine HC2.out.mono ?_
  rintro e w2 ⟨ga, gc, rfl, hrg, hL2⟩
  have HL2 := Lib.hid (HL1.out.trans (hL2.mono (by omega)))
  have HbA2 : Hid (w2.heap[w.heap.size]? = some (.cells imfw 45 (0, 0))) := Lib.hid ((hL2.block _ hz1).trans HbA1.out)
  have hz2 : w.heap.size < w2.heap.size := by have := hL2.size; omega
  obtain ⟨t, ht⟩ : ∃ t, t = be4 l 4 := ⟨_, rfl⟩
  rw [← ht]
  have HT := Lib.hid ht
  have HRG := Lib.hid hrg
  clear ht hrg hL2
  go_wp2_with fail
  have HbA3 : Hid ((w2.alloc (.cells #[.int .u32 t, .slice ga S gc] 73)).heap[w.heap.size]? = some (.cells imfw 45 (0, 0))) := Lib.hid ((heap_alloc_old w2 _ hz2).trans HbA2.out)
  have HbS : Hid ((w2.alloc (.cells #[.int .u32 t, .slice ga S gc] 73)).heap[w2.heap.size]? = some (.cells #[.int .u32 t, .slice ga S gc] 73 (0, 0))) := Lib.hid (heap_new w2 _)
  have HL3 : Hid (Below w.heap.size w (w2.alloc (.cells #[.int .u32 t, .slice ga S gc] 73))) := Lib.hid (HL2.out.alloc (by omega) _)
  have MA : Mod (fun _ => False) w2 (w2.alloc (.cells #[.int .u32 t, .slice ga S gc] 73)) := (Mod.refl _ w2).alloc _
  have HRG3 := Lib.hid ((HRG.out.mod MA (fun _ h => h.elim)).mono (Nat.le_of_lt hz1))
  have hz3 : w2.heap.size < (w2.alloc (.cells #[.int .u32 t, .slice ga S gc] 73)).heap.size := by simp
  clear MA
  generalize hW3 : World.alloc w2 _ = w3 at *
  have hs43 : w2.heap.size ≠ w.heap.size := by omega
  have hz3w : w.heap.size < w3.heap.size := by omega
  clear hW3
  have d0 : w3.cell? ⟨w2.heap.size, 0, none⟩ = some (.int .u32 t) := by rw [cell_of_block HbS.out]; rfl
  have d1 : w3.cell? ⟨w2.heap.size, 1, none⟩ = some (.slice ga S gc) := by rw [cell_of_block HbS.out]; rfl
  have SD : w3.drew.cell? ⟨w2.heap.size, 0, none⟩ = some (.int .u32 t) ∧ w3.drew.cell? ⟨w2.heap.size, 1, none⟩ = some (.slice ga S gc) := ⟨d0, d1⟩
  have SD := Lib.hid SD
  clear d0 d1 HC HC2
  go_region_held3 (fun w' => w'.cell? ⟨w2.heap.size, 0, none⟩ = some (.int .u32 t) ∧ w'.cell? ⟨w2.heap.size, 1, none⟩ = some (.slice ga S gc)) (first | with_reducible exact SD.out | with_reducible exact S4 | with_reducible exact two_set _ _ hs43 S4) (first | (go_at_call 30; refine (pairs_any (w := w3.drew) (f := fun k => be2 l (8 + 2 * k)) HRG3.out hS (fun k => HBY.out _)).mono ?_; rintro e w4 ⟨pa, pc, rfl, hr, hx⟩; have MA : Mod (fun _ => False) w3 w4 := (Mod.refl _ w3).drew.trans (Mod.of_below hx); have S4 := two_mod MA hz3 (fun h => h) SD.out; have HbF := (MA.block _ hz3w (fun h => h)).trans HbA3.out; have s0 : w4.cell? ⟨w.heap.size, 0, none⟩ = some (.int .u32 0) := (by rw [cell_of_block HbF]; rfl); have z0 : w4.frozen? ⟨w.heap.size, 0, none⟩ = false := frozen_of_block HbF; have s1 : w4.cell? ⟨w.heap.size, 1, none⟩ = some (.slice none 0 0) := (by rw [cell_of_block HbF]; rfl); have z1 : w4.frozen? ⟨w.heap.size, 1, none⟩ = false := frozen_of_block HbF))
  have HA4 := Lib.hid HbF
  have HPA := Lib.hid hr
  have MF4 := Lib.hid MA
  clear S4 hr hx MA HbF SD
  go_wp2_with fail
  clear s0 z0 s1 z1
  generalize hW : World.setCell _ _ _ = w5
  have hch := (heap_setCell_same (i := 1) (heap_setCell_same (i := 0) HA4.out (.int .u32 t)) (.slice pa S pc))
  simp only [imfw, List.setIfInBounds_toArray, List.set_cons_zero, List.set_cons_succ] at hch
  have hb : w5.heap[w.heap.size]? = some (.cells #[.int .u32 t, .slice pa S pc] 45 (0, 0)) := by rw [← hW]; exact hch
  have M : Mod (· = w.heap.size) w4 w5 := by rw [← hW]; exact (((Mod.refl (· = w.heap.size) w4).set1 _).set1 _)
  clear hch hW
  have k0 : w5.cell? ⟨w.heap.size, 0, none⟩ = some (.int .u32 t) := by rw [cell_of_block hb]; rfl
  have k1 : w5.cell? ⟨w.heap.size, 1, none⟩ = some (.slice pa S pc) := by rw [cell_of_block hb]; rfl
  refine bodyPost_ret (v := .tuple #[.agg #[.int .u32 t, .slice pa S pc], .bool true]) (by simp [results, Tryd.results20, go_sem, k0, k1]) rfl ?_
  have hs3 : w3.drew.heap.size = w3.heap.size := rfl
  have hz : ∀ q : Nat, q = w.heap.size → q < w3.heap.size ∨ w4.heap.size ≤ q := fun q e => .inl (by omega)
  rw [HT.out]
  have hb := HL3.out.trans ((Mod.below (B := w.heap.size) MF4.out (by omega) (fun _ h => h.elim)))
  exact ⟨pa, pc, rfl, (HPA.out.mod M hz).mono (by omega), hb.trans (M.below hb.size (fun k hk => by omega))⟩

/-- What spec.ForwardOf's loop leaves. -/
structure SfSt (w wr : World) (l : List Int) (t : Int) (v : Value) (j : Nat) : Prop where
  res : wr.heap[w.heap.size]? = some (.cells imfw 45 (0, 0))
  x : wr.heap[w.heap.size + 1]? = some (.cells #[.int .u32 t, v] 45 (0, 0))
  row : wr.ownsRow (w.heap.size + 2) 43 2 v j ((List.range (j * 2)).map (fun k => .int .i64 (be2 l (8 + 2 * k))))
  below : Below w.heap.size w wr
def SfRel (w : World) (S : Nat) (l : List Int) (t : Int) (v5 : Value) (wr : World) : Prop :=
  ∃ j : Nat, ∃ v : Value, j ≤ S ∧ v5 = .int .i64 ((8 + 4 * j : Nat) : Int) ∧ SfSt w wr l t v j
theorem SfSt.next {w wr y w3 : World} {l : List Int} {t : Int} {v : Value} {j : Nat} (h : SfSt w wr l t v j) {o : Obj} (hy : y = wr.drew.alloc o) {va : Option Addr} {vc : Nat} {a b : Value}
    (ha : a = .int .i64 (be2 l (8 + 2 * (j * 2)))) (hb : b = .int .i64 (be2 l (8 + 2 * (j * 2 + 1)))) (hown : w3.ownsRow (w.heap.size + 2) 43 2 (.slice va (j + 1) vc) (j + 1) ((List.range (j * 2)).map (fun k => .int .i64 (be2 l (8 + 2 * k))) ++ [a, b])) (hg : y.grownBy w3 v.ownBlock) :
    SfSt w (w3.setCell ⟨w.heap.size + 1, 1, none⟩ (.slice va (j + 1) vc)) l t (.slice va (j + 1) vc) (j + 1) := by
  have hx := (Array.getElem?_eq_some_iff.1 h.x).1
  have hys : wr.heap.size + 1 = y.heap.size := by rw [hy]; simp
  have hz : ∀ g, v.ownBlock = some g → w.heap.size + 2 ≤ g := fun g e => (h.row.lt g e).1
  have b1 : Below w.heap.size w y := by rw [hy]; exact h.below.drew.alloc (by simp; omega) _
  have b3 : Below w.heap.size w w3 := b1.grown hg (by omega) (fun k hk => by have := hz k hk; omega)
  have e0 : w3.heap[w.heap.size]? = some (.cells imfw 45 (0, 0)) := by
    rw [hg.block _ (by omega) (fun e => by have := hz _ e.symm; omega), hy]
    exact (heap_alloc_old wr.drew o (show w.heap.size < wr.drew.heap.size by simp; omega)).trans h.res
  have e1 : w3.heap[w.heap.size + 1]? = some (.cells #[.int .u32 t, v] 45 (0, 0)) := by
    rw [hg.block _ (by omega) (fun e => by have := hz _ e.symm; omega), hy]
    exact (heap_alloc_old wr.drew o (show w.heap.size + 1 < wr.drew.heap.size by simp; omega)).trans h.x
  refine ⟨(heap_setCell_other (by simp) _).trans e0, heap_setCell_same e1 _, ?_, b3.trans (((Mod.refl (· = w.heap.size + 1) w3).set1 _).below b3.size (fun k hk => by omega))⟩
  rw [ha, hb, show [(.int .i64 (be2 l (8 + 2 * (j * 2))) : Value), .int .i64 (be2 l (8 + 2 * (j * 2 + 1)))] = [(fun k => (.int .i64 (be2 l (8 + 2 * k)) : Value)) (j * 2), (fun k => (.int .i64 (be2 l (8 + 2 * k)) : Value)) (j * 2 + 1)] from rfl, ← range_two] at hown
  exact own_set hown (by omega)

set_option maxHeartbeats 1000000 in
set_option maxRecDepth 20000 in
theorem specForward_no {w : World} {b off n c : Nat} {l : List Int} (h : ChunkAt w b off n c l) (h0 : l.getD 0 0 = 192) (hn : n < 8) :
    Calls Tryd.prog 19 #[.slice (some ⟨b, off, none⟩) n c] w (FwdNot w) := by
  have hb := h.lt
  have g0 : w.cell? ⟨b, off, none⟩ = some (.int .u8 192) := by rw [← h0]; exact h.cell 0 (by have := h.ge; omega)
  have hn0 : (0 : Int) < n := by have := h.ge; omega
  have hn1 : 0 < n := by have := h.ge; omega
  have hs := h.small
  have hn8 : (n : Int) < 8 := by omega
  clear h h0
  go_enter Tryd.func19, Tryd.ntmps19
  go_wp2_with fail
  refine bodyPost_ret (v := .tuple #[.agg imfw, .bool false]) (by simp [results, Tryd.results19, go_sem, imfw]) rfl ?_
  exact ⟨rfl, (Below.refl _ w).alloc (Nat.le_refl _) _⟩

set_option maxHeartbeats 1000000 in
set_option maxRecDepth 20000 in
theorem specForward_yes {w : World} {b off n c S : Nat} {l : List Int} (h : ChunkAt w b off n c l) (h0 : l.getD 0 0 = 192) (hn : n = 8 + 4 * S) (hS : S < 65536) :
    Calls Tryd.prog 19 #[.slice (some ⟨b, off, none⟩) n c] w (FwdIs w l S) := by
  have hb := h.lt
  have HCW := Lib.hid h
  have hA := h.mod ((Mod.refl (fun _ => False) w).alloc (.cells #[.int .u32 0, .slice none 0 0] 45)) (fun h => h)
  have A4 := Lib.hid (hA.at4 4 (by omega) 4 rfl)
  have q4 := be4_bound h.byte 4
  obtain ⟨t, ht⟩ : ∃ y, y = be4 l 4 := ⟨_, rfl⟩
  rw [← ht] at q4 A4
  obtain ⟨q4l, q4r⟩ := q4
  have W4 : IntKind.u32.wrap t = t := wraps_u32 t (by omega) (by omega)
  have g0 : w.cell? ⟨b, off, none⟩ = some (.int .u8 192) := by rw [← h0]; exact h.cell 0 (by omega)
  have hn0 : (0 : Int) < n := by omega
  have hn1 : 0 < n := by omega
  have hn8 : ¬ (n : Int) < 8 := by omega
  have hs := h.small
  have HT := Lib.hid ht; have HN := Lib.hid hn
  have HBY := Lib.hid (fun k => be2_bound h.byte k)
  clear h h0 hA ht hn
  go_enter Tryd.func19, Tryd.ntmps19
  go_wp2_with fail
  refine A4.out.mono ?_
  rintro e w1 ⟨rfl, rfl⟩
  have HR0 := Lib.hid (heap_new w (.cells #[.int .u32 0, .slice none 0 0] 45))
  have HL0 := Lib.hid ((Below.refl w.heap.size w).alloc (Nat.le_refl _) (.cells #[.int .u32 0, .slice none 0 0] 45))
  have hz0 : (w.alloc (.cells #[.int .u32 0, .slice none 0 0] 45)).heap.size = w.heap.size + 1 := by simp
  clear A4 g0
  go_wp2_with fail
  have ST0 : Hid (SfSt w ((w.alloc (.cells #[.int .u32 0, .slice none 0 0] 45)).alloc (.cells #[.int .u32 t, .slice none 0 0] 45)) l t (.slice none 0 0) 0) := Lib.hid
    ⟨(heap_alloc_old _ _ (by simp)).trans HR0.out, by rw [← hz0]; exact heap_new _ _, World.ownsRow_nil _ _ _ _, HL0.out.alloc (by simp) _⟩
  obtain ⟨i0, hi, hz0', hzz1, hzz2⟩ := info_parts info43
  clear HR0 HL0 hz0
  go_loopw [5] (fun v wr => SfRel w S l t v wr) (fun v _ => 8 + 4 * S - (intOf v).toNat)
  case atStart => exact ⟨0, _, Nat.zero_le _, rfl, ST0.out⟩
  case round =>
    obtain ⟨j, v, hj, rfl, hst⟩ := hrel
    obtain ⟨p, hp⟩ : ∃ p, p = 8 + 4 * j := ⟨_, rfl⟩
    rw [← hp]
    have w4p := wraps_i64 ((p : Int) + 4) (by omega) (by omega)
    have HST := Lib.hid hst
    have hch := HCW.out.mod (Mod.of_below (S := fun _ => False) hst.below) (fun h => h)
    have HCR := Lib.hid hch
    clear hst hch
    by_cases hjk : j < S
    · have hpm : p + 4 ≤ n := by have := HN.out; omega
      have hpi : (p : Int) + 4 ≤ n := by omega
      have w2p := wraps_i64 ((p : Int) + 2) (by omega) (by omega)
      have B0 := Lib.hid ((HCR.out.mod ((Mod.refl (fun _ => False) wr).drew) (fun h => h)).at2 p (by omega) p rfl)
      have B2 := Lib.hid ((HCR.out.mod ((Mod.refl (fun _ => False) wr).drew) (fun h => h)).at2 (p + 2) (by omega) ((p : Int) + 2) (by simp))
      obtain ⟨x, hx⟩ : ∃ x, x = be2 l p := ⟨_, rfl⟩
      obtain ⟨y, hy⟩ : ∃ y, y = be2 l (p + 2) := ⟨_, rfl⟩
      rw [← hx] at B0; rw [← hy] at B2
      have c2 : wr.cell? ⟨w.heap.size + 1, 1, none⟩ = some v := by rw [cell_of_block HST.out.x]; rfl
      have f2 : wr.frozen? ⟨w.heap.size + 1, 1, none⟩ = false := frozen_of_block HST.out.x
      have c2d : wr.drew.cell? ⟨w.heap.size + 1, 1, none⟩ = some v := c2
      have f2d : wr.drew.frozen? ⟨w.heap.size + 1, 1, none⟩ = false := f2
      have c2a := cell_alloc c2 (.cells #[.int .i64 x, .int .i64 y] 43)
      have hsz : w.heap.size + 2 ≤ wr.heap.size := (Array.getElem?_eq_some_iff.1 HST.out.x).1
      have HX := Lib.hid hx; have HY := Lib.hid hy; have HP := Lib.hid hp
      clear hx hy hp
      go_wp2_with fail
      go_region_law (first | (refine step_append_any _ (by rfl) _ _ 36 (by rfl) (w.heap.size + 2) 43 i0 (.agg #[.int .i64 0, .int .i64 0]) 2 16 Tryd.underlying36 hi hz0' hzz1 hzz2 rfl (by decide) v j ((List.range (j * 2)).map (fun k => .int .i64 (be2 l (8 + 2 * k)))) (by rfl) (HST.out.row.drew.alloc _) ⟨wr.heap.size, 0, none⟩ 1 1 [.int .i64 x, .int .i64 y] (by rfl) rfl (two_cells _ _ rfl) (by simp [Value.oneCell']) (by unfold maxLen; omega) (by omega) (by simp; omega) ?_; intro va vc w3 hown hgrow hat; have c3 := grown_cell (HST.out.row.drew.alloc _) (p := ⟨w.heap.size + 1, 1, none⟩) (by simp) (cell_alloc c2d _) hgrow; have f3 := grown_frozen (HST.out.row.drew.alloc _) (p := ⟨w.heap.size + 1, 1, none⟩) (by simp) (cell_alloc c2d _) ((frozen_alloc (lt_of_cell c2d) _).trans f2d) hgrow) | (go_simp; go_at_call 26; with_reducible refine B0.out.mono ?_; rintro e w2 ⟨rfl, rfl⟩) | (go_simp; go_at_call 26; with_reducible refine B2.out.mono ?_; rintro e w2 ⟨rfl, rfl⟩))
      all_goals (
        have HS2 := Lib.hid (HST.out.next (y := wr.drew.alloc (.cells #[.int .i64 x, .int .i64 y] 43)) rfl (a := .int .i64 x) (b := .int .i64 y) (by rw [HX.out, HP.out]; congr 2; omega) (by rw [HY.out, HP.out]; congr 2; omega) hown hgrow)
        clear hown hgrow hat c3 f3 c2 f2 c2d f2d c2a
        go_wp2_with fail
        go_roundw
        case rel => exact ⟨j + 1, _, hjk, by rw [show ((8 + 4 * (j + 1) : Nat) : Int) = (p : Int) + 4 by rw [HP.out]; omega], HS2.out⟩
        case measure => simp [intOf]; have := HP.out; omega)
    · obtain rfl : j = S := by omega
      have hpi : ¬ (p : Int) + 4 ≤ n := by have := HN.out; omega
      have hpn : (n : Int) < (p : Int) + 4 := by omega
      obtain ⟨ga, gc, rfl, hrg⟩ := RowAt.of_owns HST.out.row
      have HRG := Lib.hid hrg
      clear hrg hp
      have hx := HST.out.x
      have hr := HST.out.res
      have s0 : wr.cell? ⟨w.heap.size + 1, 0, none⟩ = some (.int .u32 t) := by rw [cell_of_block hx]; rfl
      have s1 : wr.cell? ⟨w.heap.size + 1, 1, none⟩ = some (.slice ga j gc) := by rw [cell_of_block hx]; rfl
      clear hx
      have r0 : wr.cell? ⟨w.heap.size, 0, none⟩ = some (.int .u32 0) := by rw [cell_of_block hr]; rfl
      have z0 : wr.frozen? ⟨w.heap.size, 0, none⟩ = false := frozen_of_block hr
      have r1 : wr.cell? ⟨w.heap.size, 1, none⟩ = some (.slice none 0 0) := by rw [cell_of_block hr]; rfl
      have z1 : wr.frozen? ⟨w.heap.size, 1, none⟩ = false := frozen_of_block hr
      have HR := Lib.hid hr
      clear hr
      go_wp2_with fail
      clear s0 s1 r0 z0 r1 z1
      generalize hW : World.setCell _ _ _ = w2
      have hch := (heap_setCell_same (i := 1) (heap_setCell_same (i := 0) HR.out (.int .u32 t)) (.slice ga j gc))
      simp only [imfw, List.setIfInBounds_toArray, List.set_cons_zero, List.set_cons_succ] at hch
      have hb : w2.heap[w.heap.size]? = some (.cells #[.int .u32 t, .slice ga j gc] 45 (0, 0)) := by rw [← hW]; exact hch
      have M : Mod (· = w.heap.size) wr w2 := by rw [← hW]; exact (((Mod.refl (· = w.heap.size) wr).set1 _).set1 _)
      clear hch hW
      have k0 : w2.cell? ⟨w.heap.size, 0, none⟩ = some (.int .u32 t) := by rw [cell_of_block hb]; rfl
      have k1 : w2.cell? ⟨w.heap.size, 1, none⟩ = some (.slice ga j gc) := by rw [cell_of_block hb]; rfl
      refine bodyPost_ret (v := .tuple #[.agg #[.int .u32 t, .slice ga j gc], .bool true]) (by simp [results, Tryd.results19, go_sem, k0, k1]) rfl ?_
      have hz : ∀ q : Nat, q = w.heap.size → q < w.heap.size + 2 ∨ wr.heap.size ≤ q := fun q e => .inl (by omega)
      rw [HT.out]
      exact ⟨ga, gc, rfl, (HRG.out.mod M hz).mono (by omega), HST.out.below.trans (M.below HST.out.below.size (fun q e => by omega))⟩
end Go.Proofs.YtnajpmdnadjipaaDoor