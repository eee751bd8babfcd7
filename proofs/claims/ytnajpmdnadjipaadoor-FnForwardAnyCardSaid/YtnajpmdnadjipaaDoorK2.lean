/- Part of the proof of laws.FnForwardAny: what the reader of a FORWARD TSN chunk leaves; conditions: as each theorem states. -/
import Derived.Test.YtnajpmdnadjipaaDoorK1
import Derived.Deep.AppendLies
import Derived.Deep.RegionLaw
import Derived.Deep.Onto
namespace Go.Proofs.YtnajpmdnadjipaaDoor
open Go.RowKit
set_option linter.unusedVariables false

/-- The fields of a FORWARD TSN chunk. -/
def fwC (t f raw tsn v : Value) : Array Value := #[t, f, raw, tsn, v]

set_option maxHeartbeats 1000000 in
set_option maxRecDepth 20000 in
theorem fw_short {w : World} {b off n c : Nat} {l : List Int} (h : ChunkAt w b off n c l) (hw : be2 l 2 = n) (q : Nat)
    (hq : w.heap[q]? = some (.cells fw0 102 (0, 0))) (hqb : q ≠ b) (hn : n < 8) (e9 : GlobErr w 9) (hqg : q ≠ 9) :
    Calls Tryd.prog 41 #[.pointer (some ⟨q, 0, none⟩), .slice (some ⟨b, off, none⟩) n c] w (ErrPost (· = q) w) := by
  have HC := Lib.hid (hdr_w h hw q fw0 102 hq (by simp [fw0]) hqb)
  have HL := Lib.hid h.len
  have E := Lib.hid e9
  clear h hw hq e9
  go_enter Tryd.func41, Tryd.ntmps41
  go_wp2_with fail
  refine HC.out.mono ?_
  rintro e w1 ⟨rfl, hM, ao, c1, hB, hne, hb1⟩
  rw [HL.out] at hb1
  obtain ⟨u, v, hg⟩ := E.out.mod hM (fun h => hqg h.symm)
  replace hb1 : w1.heap[q]? = some (.cells (fwC (.int .u8 (l.getD 0 0)) (.int .u8 (l.getD 1 0)) (.slice ao (n - 4) c1) (.int .u32 0) (.slice none 0 0)) 102 (0, 0)) := hb1
  have g2 : w1.cell? ⟨q, 2, none⟩ = some (.slice ao (n - 4) c1) := by rw [cell_of_block hb1]; rfl
  have hnn : ((n - 4 : Nat) : Int) < 4 := by omega
  have HM := Lib.hid hM
  clear hB hne hb1 hM
  go_wp2_with fail
  go_ret
  exact ⟨u, v, rfl, HM.out⟩

/-- What the reader's loop leaves. -/
structure FwSt (w wr : World) (q : Nat) (x f tsn : Int) (raw v : Value) (l : List Int) (j : Nat) : Prop where
  mod : Mod (· = q) w wr
  blk : wr.heap[q]? = some (.cells (fwC (.int .u8 x) (.int .u8 f) raw (.int .u32 tsn) v) 102 (0, 0))
  row : wr.ownsRow w.heap.size 104 2 v j ((List.range (j * 2)).map (gap16 l 8))
  lt : q < w.heap.size
def FwRel (w : World) (q : Nat) (x f tsn : Int) (raw : Value) (l : List Int) (S : Nat) (v6 v7 : Value) (wr : World) : Prop :=
  ∃ j : Nat, ∃ v : Value, ∃ R : Int, j ≤ S ∧ v6 = .int .i64 ((4 + 4 * j : Nat) : Int) ∧ v7 = .int .i64 R ∧ R = 4 * S - 4 * j ∧ FwSt w wr q x f tsn raw v l j

theorem Mod.fresh {S T : Nat → Prop} {a b c : World} (h : Mod S a b) (k : Mod T b c) (hT : ∀ i, T i → a.heap.size ≤ i) : Mod S a c :=
  ⟨k.os.trans h.os, k.tape.trans h.tape, k.output.trans h.output, Nat.le_trans h.size k.size, fun i hi hS => (k.block i (Nat.lt_of_lt_of_le hi h.size) (fun t => by have := hT i t; omega)).trans (h.block i hi hS)⟩
theorem Mod.grown {S : Nat → Prop} {a b c : World} {row : Option Nat} (h : Mod S a b) (k : b.grownBy c row) (hr : ∀ i, row = some i → a.heap.size ≤ i) : Mod S a c :=
  ⟨k.os.trans h.os, k.tape.trans h.tape, k.output.trans h.output, Nat.le_trans h.size k.size, fun i hi hS => (k.block i (Nat.lt_of_lt_of_le hi h.size) (fun t => by have := hr i t.symm; omega)).trans (h.block i hi hS)⟩
theorem owned_modS {S : Nat → Prop} {B : Nat} {w w' : World} {e : TypeId} {size n : Nat} {v : Value} {xs : List Value} (h : w.ownsRow B e size v n xs) (hM : Mod S w w') (hS : ∀ g, v.ownBlock = some g → ¬ S g) : w'.ownsRow B e size v n xs := by
  refine ⟨h.1, ?_⟩
  rcases h.2 with hn | ⟨g, cap, cur, rfl, hb, hg, hr⟩
  · exact .inl hn
  · exact .inr ⟨g, cap, cur, rfl, hb, (hM.block g (Array.getElem?_eq_some_iff.1 hg).1 (hS g rfl)).trans hg, hr⟩
theorem BytesAt.from {w : World} {b off n c : Nat} {l : List Int} (h : BytesAt w (some ⟨b, off, none⟩) n c l) (k : Nat) (hk : k ≤ n) :
    BytesAt w (some ⟨b, off + k, none⟩) (n - k) (c - k) (l.drop k) := by
  have hc := h.cap
  refine ⟨by simp [h.len], by omega, fun h => by simp at h, fun a ha i hi => ?_, fun i => ?_⟩
  · obtain rfl := Option.some.inj ha
    have e := h.cell _ rfl (k + i) (by omega)
    have ad : ∀ (o j : Nat), (⟨b, o, none⟩ : Addr).add j = ⟨b, o + j, none⟩ := fun o j => by unfold Addr.add; split <;> simp_all
    rw [ad] at e ⊢
    rw [show (l.drop k).getD i 0 = l.getD (k + i) 0 from by simp, ← e, Nat.add_assoc]
  · rw [show (l.drop k).getD i 0 = l.getD (k + i) 0 from by simp]; exact h.byte _
theorem info104 : (Tryd.prog.info? 104).map (fun i => (i.zero, i.size, i.bytes)) = some (some (.agg #[.int .u16 0, .int .u16 0]), 2, 4) := by kernel_rfl

theorem FwSt.next {w wr w2 y w4 : World} {q : Nat} {x f tsn : Int} {raw v : Value} {l : List Int} {j : Nat} (h : FwSt w wr q x f tsn raw v l j) (M : Mod (· = wr.heap.size) wr w2)
    (hq2 : w2.heap[q]? = some (.cells (fwC (.int .u8 x) (.int .u8 f) raw (.int .u32 tsn) v) 102 (0, 0))) {o : Obj} (hy : y = w2.drew.alloc o) {va : Option Addr} {vc : Nat} {a b : Value} (ha : a = gap16 l 8 (j * 2)) (hb : b = gap16 l 8 (j * 2 + 1))
    (hown : w4.ownsRow w.heap.size 104 2 (.slice va (j + 1) vc) (j + 1) ((List.range (j * 2)).map (gap16 l 8) ++ [a, b])) (hg : y.grownBy w4 v.ownBlock) :
    FwSt w (w4.setCell ⟨q, 4, none⟩ (.slice va (j + 1) vc)) q x f tsn raw (.slice va (j + 1) vc) l (j + 1) := by
  have hlt := h.lt
  have m2 : Mod (· = q) w w2 := h.mod.fresh M (fun i e => by have := h.mod.size; omega)
  have my : Mod (· = q) w y := by rw [hy]; exact m2.drew.alloc _
  have m4 : Mod (· = q) w w4 := my.grown hg (fun i e => (h.row.lt i e).1)
  have hq2l : q < w2.heap.size := (Array.getElem?_eq_some_iff.1 hq2).1
  have e4 : w4.heap[q]? = some (.cells (fwC (.int .u8 x) (.int .u8 f) raw (.int .u32 tsn) v) 102 (0, 0)) := by
    rw [hg.block q (by rw [hy]; simp; omega) (fun e => by have := (h.row.lt q e.symm).1; omega), hy]
    exact (heap_alloc_old w2.drew o (show q < w2.drew.heap.size from hq2l)).trans hq2
  refine ⟨m4.set1 _, heap_setCell_same e4 _, ?_, hlt⟩
  rw [ha, hb, ← range_two] at hown
  exact own_set hown hlt
/-- A FORWARD TSN chunk that was read. -/
def FwYes (q : Nat) (l : List Int) (S : Nat) (w : World) (e : Ending) (w' : World) : Prop :=
  e = .returned .nilIface ∧ Mod (· = q) w w' ∧ ∃ x f raw v, w'.heap[q]? = some (.cells (fwC (.int .u8 x) (.int .u8 f) raw (.int .u32 (be4 l 4)) v) 102 (0, 0)) ∧ w'.ownsRow w.heap.size 104 2 v S ((List.range (S * 2)).map (gap16 l 8))

set_option maxHeartbeats 1000000 in
set_option maxRecDepth 20000 in
theorem fw_yes {w : World} {b off n c S : Nat} {l : List Int} (h : ChunkAt w b off n c l) (hw : be2 l 2 = n) (q : Nat)
    (hq : w.heap[q]? = some (.cells fw0 102 (0, 0))) (hqb : q ≠ b) (hn : n = 8 + 4 * S) :
    Calls Tryd.prog 41 #[.pointer (some ⟨q, 0, none⟩), .slice (some ⟨b, off, none⟩) n c] w (FwYes q l S w) := by
  have HC := Lib.hid (hdr_w h hw q fw0 102 hq (by simp [fw0]) hqb)
  have HL := Lib.hid h.len
  have hs := h.small
  have hbw := h.lt
  have hq0 : q < w.heap.size := (Array.getElem?_eq_some_iff.1 hq).1
  obtain ⟨x, hx⟩ : ∃ x, x = l.getD 0 0 := ⟨_, rfl⟩
  obtain ⟨f, hf⟩ : ∃ x, x = l.getD 1 0 := ⟨_, rfl⟩
  have HF := Lib.hid hf; have HX := Lib.hid hx
  have HNS := Lib.hid hn
  clear h hw hq hf hx hn
  go_enter Tryd.func41, Tryd.ntmps41
  go_wp2_with fail
  refine HC.out.mono ?_
  rintro e w1 ⟨rfl, hM, ao, c1, hB, hne, hb1⟩
  rw [HL.out, ← HF.out, ← HX.out] at hb1
  rw [HL.out] at hB
  obtain ⟨m, hm⟩ : ∃ m, m = n - 4 := ⟨_, rfl⟩
  rw [← hm] at hb1 hB
  have hn := HNS.out
  have hm4 : m = 4 + 4 * S := by omega
  have HMN := Lib.hid hm4
  have hS1 : S ≤ 536870912 := by omega
  have hmm : m ≤ 2147483647 := by omega
  obtain ⟨b2, off2, rfl, hb2, _⟩ := hB.open (by omega)
  have hq1 : q < w1.heap.size := (Array.getElem?_eq_some_iff.1 hb1).1
  replace hb1 : w1.heap[q]? = some (.cells (fwC (.int .u8 x) (.int .u8 f) (.slice (some ⟨b2, off2, none⟩) m c1) (.int .u32 0) (.slice none 0 0)) 102 (0, 0)) := hb1
  have B1 := Lib.hid hb1
  have g2 : w1.cell? ⟨q, 2, none⟩ = some (.slice (some ⟨b2, off2, none⟩) m c1) := by rw [cell_of_block hb1]; rfl
  have g3 : w1.cell? ⟨q, 3, none⟩ = some (.int .u32 0) := by rw [cell_of_block hb1]; rfl
  have f3 : w1.frozen? ⟨q, 3, none⟩ = false := frozen_of_block hb1
  have hc1 := hB.cap
  have HB := Lib.hid hB
  have HN := Lib.hid hne
  have HM := Lib.hid hM
  have d0 : ¬ c1 = 0 := by omega
  have i0 : (0 : Int) ≤ m := by omega
  have i4 : (4 : Int) ≤ m := by omega
  have i5 : ¬ (m : Int) < 4 := by omega
  clear hB hne hb1 hM hm hm4 hn
  go_wp2_with fail
  go_region_held3 (fun w' => w'.cell? ⟨q, 2, none⟩ = some (.slice (some ⟨b2, off2, none⟩) m c1)) (first | exact g2 | exact k2 | exact cell_set_ne k2 (by decide) _) (first | (go_at_call 43; refine (u32_at HB.out.drewN 0 (m - 0) (c1 - 0) (by omega) (by omega)).mono ?_; rintro e x2 ⟨rfl, hx⟩; have k2 := (hx.cell (p := ⟨q, 2, none⟩) hq1).trans g2; have k3 := (hx.cell (p := ⟨q, 3, none⟩) hq1).trans g3; have j3 := (hx.frozen (p := ⟨q, 3, none⟩) hq1).trans f3))
  have MX : Mod (· = q) w1 x2 := (Mod.refl (· = q) w1).drew.trans (Mod.of_below hx)
  have BX : x2.heap[q]? = w1.heap[q]? := hx.block q hq1
  clear k2 k3 j3 g2 g3 f3 hx
  generalize hW : x2.setCell ⟨q, 3, none⟩ _ = w3
  have hb : w3.heap[q]? = some (.cells (fwC (.int .u8 x) (.int .u8 f) (.slice (some ⟨b2, off2, none⟩) m c1) (.int .u32 (be4 (l.drop 4) 0)) (.slice none 0 0)) 102 (0, 0)) := by rw [← hW]; exact heap_setCell_same (BX.trans B1.out) _
  have MN : Mod (· = q) w1 w3 := by rw [← hW]; exact MX.set1 _
  have g2 : w3.cell? ⟨q, 2, none⟩ = some (.slice (some ⟨b2, off2, none⟩) m c1) := by rw [cell_of_block hb]; rfl
  have ST : Hid (FwSt w3 w3 q x f (be4 (l.drop 4) 0) (.slice (some ⟨b2, off2, none⟩) m c1) (.slice none 0 0) l 0) := Lib.hid ⟨Mod.refl _ _, hb, World.ownsRow_nil _ _ _ _, (Array.getElem?_eq_some_iff.1 hb).1⟩
  have HM3 := Lib.hid (HM.out.trans MN)
  have HB3 := Lib.hid (HB.out.mod MN (fun a ha => (HN.out a ha).1))
  have hqb2 : q ≠ b2 := fun e => (HN.out _ rfl).1 e.symm
  have HLB := Lib.hid (HB3.out.mod (Mod.refl (fun _ => False) w3) (fun _ _ h => h)).len
  have hb23 : b2 < w3.heap.size := by
    have := HB3.out.cell _ rfl 0 (by omega)
    have := lt_of_cell this
    simpa [Addr.add] using this
  obtain ⟨tsn, htsn⟩ : ∃ y, y = be4 (l.drop 4) 0 := ⟨_, rfl⟩
  rw [← htsn] at ST
  have HTS := Lib.hid htsn
  have wm : IntKind.i64.wrap ((m : Int) - 4) = 4 * S := by rw [HMN.out, IntKind.wrap_i64]; omega
  clear hW hb MX BX MN B1 HM HB hq1 htsn
  obtain ⟨i0', hi, hz0, hz1, hz2⟩ := info_parts info104
  go_wp2_with fail
  clear g2 wm
  go_loopw [6, 7] (fun v6 v7 wr => FwRel w3 q x f tsn (.slice (some ⟨b2, off2, none⟩) m c1) l S v6 v7 wr) (fun v _ _ => 8 + 4 * S - (intOf v).toNat)
  case atStart => exact ⟨0, _, _, Nat.zero_le _, rfl, rfl, by omega, ST.out⟩
  case round =>
    obtain ⟨j, v, R, hj, rfl, rfl, hR, hst⟩ := hrel
    by_cases hjk : j < S
    · have hR0 : (0 : Int) < R := by omega
      obtain ⟨p, hp⟩ : ∃ p, p = 4 + 4 * j := ⟨_, rfl⟩
      rw [← hp]
      have hpm : p + 4 ≤ m := by have := HMN.out; omega
      have ip0 : (0 : Int) ≤ p := by omega
      have ip : (p : Int) ≤ m := by omega
      have dp : ¬ c1 = p := by omega
      have g2 : wr.cell? ⟨q, 2, none⟩ = some (.slice (some ⟨b2, off2, none⟩) m c1) := by rw [cell_of_block hst.blk]; rfl
      have hqr : q < wr.heap.size := lt_of_cell g2
      have MA : Mod (fun _ => False) wr (wr.alloc (.cells #[.int .u16 0, .int .u16 0] 104)) := (Mod.refl _ wr).alloc _
      have hBr := (HB3.out.mod hst.mod (fun a ha => by obtain rfl := Option.some.inj ha; exact fun e => hqb2 e.symm))
      have hbr : b2 < wr.heap.size := Nat.lt_of_lt_of_le hb23 hst.mod.size
      have HSR := Lib.hid (stream_any ((hBr.mod MA (fun _ _ h => h)).from p (by omega)) (by omega) (by omega) (q := wr.heap.size) (heap_new wr (.cells #[.int .u16 0, .int .u16 0] 104)) (by omega))
      have HST := Lib.hid hst; have HP := Lib.hid hp; have HR := Lib.hid hR
      clear hst hp hR hBr MA
      go_wp2_with fail
      refine HSR.out.mono ?_
      rintro e w2 ⟨rfl, hM2, hN2⟩
      obtain ⟨y0, hy0⟩ : ∃ y, y = be2 (List.drop p (List.drop 4 l)) 0 := ⟨_, rfl⟩
      obtain ⟨y1, hy1⟩ : ∃ y, y = be2 (List.drop p (List.drop 4 l)) 2 := ⟨_, rfl⟩
      rw [← hy0, ← hy1] at hN2
      have M2 : Mod (· = wr.heap.size) wr w2 := ((Mod.refl _ wr).alloc _).trans hM2
      have HQ2 := Lib.hid ((M2.block q hqr (by omega)).trans HST.out.blk)
      have HN2 := Lib.hid hN2
      have HM2 := Lib.hid M2
      have hz2' : wr.heap.size < w2.heap.size := (Array.getElem?_eq_some_iff.1 hN2).1
      have s0 : w2.cell? ⟨wr.heap.size, 0, none⟩ = some (.int .u16 y0) := by rw [cell_of_block hN2]; rfl
      have s1 : w2.cell? ⟨wr.heap.size, 1, none⟩ = some (.int .u16 y1) := by rw [cell_of_block hN2]; rfl
      have c2 : w2.cell? ⟨q, 4, none⟩ = some v := by rw [cell_of_block HQ2.out]; rfl
      have f2 : w2.frozen? ⟨q, 4, none⟩ = false := frozen_of_block HQ2.out
      have c2d : w2.drew.cell? ⟨q, 4, none⟩ = some v := c2
      have f2d : w2.drew.frozen? ⟨q, 4, none⟩ = false := f2
      have c2a := cell_alloc c2 (.cells #[.int .u16 y0, .int .u16 y1] 104)
      have HRW := Lib.hid (owned_modS HST.out.row M2 (fun g hg e => by have := (HST.out.row.lt g hg).2; omega))
      have HY0 := Lib.hid hy0; have HY1 := Lib.hid hy1
      clear hM2 hN2 hy0 hy1 M2 HSR g2
      go_wp2_with fail
      go_region_law (first | (refine step_append_any _ (by rfl) _ _ 100 (by rfl) w3.heap.size 104 i0' (.agg #[.int .u16 0, .int .u16 0]) 2 4 Tryd.underlying100 hi hz0 hz1 hz2 rfl (by decide) v j ((List.range (j * 2)).map (gap16 l 8)) (by rfl) (HRW.out.drew.alloc _) ⟨w2.heap.size, 0, none⟩ 1 1 [.int .u16 y0, .int .u16 y1] (by rfl) rfl (two_cells _ _ rfl) (by simp [Value.oneCell']) (by unfold maxLen; omega) (by omega) (by simp; have := HST.out.mod.size; omega) ?_; intro va vc w4 hown hgrow hat; have c3 := grown_cell (HRW.out.drew.alloc _) (p := ⟨q, 4, none⟩) HST.out.lt (cell_alloc c2d _) hgrow; have f3 := grown_frozen (HRW.out.drew.alloc _) (p := ⟨q, 4, none⟩) HST.out.lt (cell_alloc c2d _) ((frozen_alloc (lt_of_cell c2d) _).trans f2d) hgrow))
      all_goals (
        have HS2 := Lib.hid (HST.out.next HM2.out HQ2.out (y := w2.drew.alloc (.cells #[.int .u16 y0, .int .u16 y1] 104)) rfl (a := .int .u16 y0) (b := .int .u16 y1)
          (by rw [HY0.out, be2_drop, be2_drop, HP.out]; unfold gap16; congr 2; omega) (by rw [HY1.out, be2_drop, be2_drop, HP.out]; unfold gap16; congr 2; omega) hown hgrow)
        clear hown hgrow hat c3 f3 c2 f2 c2d f2d c2a s0 s1
        have HSL := Lib.hid (fun w' => streamLen w' wr.heap.size)
        have w4p := wraps_i64 ((p : Int) + 4) (by omega) (by omega)
        have w4r : IntKind.i64.wrap (R - 4) = R - 4 := by rw [IntKind.wrap_i64]; have := HR.out; omega
        go_wp2_with fail
        refine (HSL.out _).mono ?_
        rintro e w5 ⟨rfl, rfl⟩
        go_wp2_with fail
        refine (HSL.out _).mono ?_
        rintro e w5 ⟨rfl, rfl⟩
        go_wp2_with fail
        go_roundw
        case rel => exact ⟨j + 1, _, R - 4, hjk, by rw [show ((4 + 4 * (j + 1) : Nat) : Int) = (p : Int) + 4 by rw [HP.out]; omega], rfl, by have := HR.out; omega, HS2.out⟩
        case measure => simp [intOf]; have := HP.out; omega)
    · obtain rfl : j = S := by omega
      obtain rfl : R = 0 := by omega
      have HST := Lib.hid hst
      clear hst hR
      go_wp2_with fail
      go_ret
      refine ⟨rfl, HM3.out.trans HST.out.mod, x, f, .slice (some ⟨b2, off2, none⟩) m c1, v, ?_, HST.out.row.mono HM3.out.size⟩
      have hqq := HST.out.blk
      rw [HTS.out, be4_drop] at hqq
      exact hqq
end Go.Proofs.YtnajpmdnadjipaaDoor
