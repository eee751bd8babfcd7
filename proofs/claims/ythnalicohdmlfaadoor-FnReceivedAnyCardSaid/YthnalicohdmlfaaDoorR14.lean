/- Part of the proof of laws.FnReceivedAny: what spec.ReceivedAll returns; conditions: as the theorem states. -/
import Derived.Test.YthnalicohdmlfaaDoorR13
namespace Go.Proofs.YthnalicohdmlfaaDoor
open Go.RowKit
set_option linter.unusedVariables false

/-- A slice value that reads as these numbers. -/
structure IntsAt (w : World) (ao : Option Addr) (n c : Nat) (l : List Int) : Prop where
  len : l.length = n
  cap : n ≤ c
  nil : ao = none → n = 0
  cell : ∀ a, ao = some a → ∀ i, i < n → w.cell? (a.add i) = some (.int .i64 (l.getD i 0))
theorem IntsAt.open {w : World} {ao : Option Addr} {n c : Nat} {l : List Int} (h : IntsAt w ao n c l) (hn : 0 < n) :
    ∃ b off, ao = some ⟨b, off, none⟩ ∧ n ≤ c ∧ ∀ i, i < n → w.cell? ⟨b, off + i, none⟩ = some (.int .i64 (l.getD i 0)) := by
  cases ao with
  | none => exact absurd (h.nil rfl) (by omega)
  | some a =>
    obtain ⟨b, off, sp⟩ := a
    have h0 := h.cell _ rfl 0 hn
    have hsp : sp = none := by
      cases sp with
      | none => rfl
      | some s => simp [Addr.add, World.cell?] at h0; split at h0 <;> simp at h0
    subst hsp
    refine ⟨b, off, rfl, h.cap, fun i hi => ?_⟩
    have := h.cell _ rfl i hi
    rwa [show (⟨b, off, none⟩ : Addr).add i = ⟨b, off + i, none⟩ from by unfold Addr.add; split <;> simp_all] at this
theorem IntsAt.mod {S : Nat → Prop} {w w' : World} {ao : Option Addr} {n c : Nat} {l : List Int} (h : IntsAt w ao n c l) (hM : Mod S w w') (hS : ∀ a, ao = some a → ¬ S a.block) : IntsAt w' ao n c l := by
  refine ⟨h.len, h.cap, h.nil, fun a ha i hi => ?_⟩
  have := h.cell a ha i hi
  rw [← this]
  have hb : (a.add i).block = a.block := by unfold Addr.add; split <;> rfl
  exact hM.cell (lt_of_cell this) (by rw [hb]; exact hS a ha)

/-- What the loop leaves. -/
structure RA (w wr : World) (j : Nat) (s : ((Nat → Bool) × List Int) × List Int) (v5 v6 : Value) : Prop where
  res : wr.heap[w.heap.size]? = some (.cells z27 27 (0, 0))
  map : CameAt wr (w.heap.size + 3) j (fun x => decide (x ∈ s.2))
  bh : wr.ownsRow (w.heap.size + 1) 3 1 v5 s.2.length (s.2.map (Value.int .i64))
  tw : wr.ownsRow (w.heap.size + 1) 22 1 v6 s.1.2.length (s.1.2.map (Value.int .u32))
  a5 : v5.ownBlock ≠ some (w.heap.size + 3)
  a6 : v6.ownBlock ≠ some (w.heap.size + 3)
  ne : v5.ownBlock = none ∨ v5.ownBlock ≠ v6.ownBlock
  ne' : v6.ownBlock = none ∨ v6.ownBlock ≠ v5.ownBlock
  below : Below w.heap.size w wr
  size : w.heap.size + 4 ≤ wr.heap.size
theorem RA.kept {w wr w' : World} {j : Nat} {s : ((Nat → Bool) × List Int) × List Int} {v5 v6 : Value} (h : RA w wr j s v5 v6) {row : Option Nat} (hg : wr.grownBy w' row) (hr : ∀ k, row = some k → w.heap.size + 1 ≤ k) (hm : row ≠ some (w.heap.size + 3)) :
    w'.heap[w.heap.size]? = some (.cells z27 27 (0, 0)) ∧ CameAt w' (w.heap.size + 3) j (fun x => decide (x ∈ s.2)) ∧ Below w.heap.size w w' ∧ w.heap.size + 4 ≤ w'.heap.size := by
  have hs := h.size
  refine ⟨(hg.block _ (by omega) (fun e => by have := hr _ e.symm; omega)).trans h.res, h.map.of (hg.block _ (by omega) (fun e => hm e.symm)), h.below.grown hg h.below.size (fun k hk => by have := hr k hk; omega), Nat.le_trans hs hg.size⟩
theorem RA.dup {f : Int} {w wr w3 : World} {j : Nat} {s : ((Nat → Bool) × List Int) × List Int} {v5 v6 v' : Value} {o : Obj} (h : RA w wr j s v5 v6) {p : Int} (hd : p < 1 ∨ s.1.1 p.toNat = true)
    (hown : w3.ownsRow (w.heap.size + 1) 22 1 v' (s.1.2.length + 1) (s.1.2.map (Value.int .u32) ++ [.int .u32 (U f p)])) (hg : (wr.alloc o).grownBy w3 v6.ownBlock) (hat : v'.ownBlock = v6.ownBlock ∨ v'.ownBlock = some (wr.alloc o).heap.size) :
    RA w w3 (j + 1) (stepB f s p) v5 v' := by
  have hs := h.size
  have hg' : wr.grownBy w3 v6.ownBlock := (World.grownBy_alloc wr o _).trans hg
  obtain ⟨k1, k2, k3, k4⟩ := h.kept hg' (fun k hk => (h.tw.lt k hk).1) h.a6
  have e : stepB f s p = ((s.1.1, s.1.2 ++ [U f p]), s.2) := by unfold stepB stepR; rw [if_pos hd, if_pos hd]
  rw [e]
  refine ⟨k1, k2.mono (Nat.le_succ _), h.bh.kept hg' h.ne, by simpa using hown, h.a5, ?_, ?_, ?_, k3, k4⟩
  · rcases hat with h0 | h0
    · rw [h0]; exact h.a6
    · rw [h0]; simp; omega
  · cases hv : v5.ownBlock with
    | none => exact .inl rfl
    | some g =>
      right
      rcases hat with h0 | h0
      · rw [h0, ← hv]
        rcases h.ne with h1 | h1
        · rw [hv] at h1; cases h1
        · exact h1
      · rw [h0]
        have := (h.bh.lt g hv).2
        simp; omega
  · right
    rcases hat with h0 | h0
    · rw [h0]
      rcases h.ne' with h1 | h1
      · cases hv : v5.ownBlock with
        | none =>
          exfalso
          have h2 := hown.1
          rcases hown.2 with ⟨h3, h4⟩ | ⟨g, _, _, h3, _⟩
          · omega
          · rw [h3] at h0; rw [h1] at h0; cases h0
        | some g => rw [h1]; exact fun e => by cases e
      · exact h1
    · rw [h0]
      intro e
      have := (h.bh.lt _ e.symm).2
      simp at this
      omega
theorem RA.fresh {f : Int} {w wr wm w3 : World} {j : Nat} {s : ((Nat → Bool) × List Int) × List Int} {v5 v6 v' : Value} {o : Obj} (h : RA w wr j s v5 v6) {p : Int} (hd : ¬ (p < 1 ∨ s.1.1 p.toNat = true))
    (hc : CameAt wm (w.heap.size + 3) (j + 1) (fun y => decide (y = p) || decide (y ∈ s.2))) (hgm : wr.grownBy wm (some (w.heap.size + 3)))
    (hown : w3.ownsRow (w.heap.size + 1) 3 1 v' (s.2.length + 1) (s.2.map (Value.int .i64) ++ [.int .i64 p])) (hg : (wm.alloc o).grownBy w3 v5.ownBlock) (hat : v'.ownBlock = v5.ownBlock ∨ v'.ownBlock = some (wm.alloc o).heap.size) :
    RA w w3 (j + 1) (stepB f s p) v' v6 := by
  have hs := h.size
  have hsm := hgm.size
  have hg' : wm.grownBy w3 v5.ownBlock := (World.grownBy_alloc wm o _).trans hg
  have hl5 : ∀ k, v5.ownBlock = some k → w.heap.size + 1 ≤ k := fun k hk => (h.bh.lt k hk).1
  have e : stepB f s p = ((putR s.1.1 p.toNat, s.1.2), s.2 ++ [p]) := by unfold stepB stepR; rw [if_neg hd, if_neg hd]
  rw [e]
  have hf : (fun y => decide (y = p) || decide (y ∈ s.2)) = (fun y => decide (y ∈ s.2 ++ [p])) := by
    funext y
    rw [Bool.eq_iff_iff]
    simp only [Bool.or_eq_true, decide_eq_true_eq, List.mem_append, List.mem_singleton]
    exact Or.comm
  refine ⟨?_, ?_, by simpa using hown, (h.tw.kept hgm (by cases hv : v6.ownBlock with | none => exact .inl rfl | some g => right; rw [← hv]; exact h.a6)).kept hg' h.ne', ?_, h.a6, ?_, ?_, ?_, by have := hg'.size; omega⟩
  · rw [hg'.block _ (by omega) (fun e => by have := hl5 _ e.symm; omega), hgm.block _ (by omega) (by simp)]; exact h.res
  · show CameAt w3 (w.heap.size + 3) (j + 1) (fun x => decide (x ∈ s.2 ++ [p]))
    rw [← hf]; exact hc.of (hg'.block _ (by omega) (fun e => h.a5 e.symm))
  · rcases hat with h0 | h0
    · rw [h0]; exact h.a5
    · rw [h0]; simp; omega
  · right
    rcases hat with h0 | h0
    · rw [h0]
      rcases h.ne with h1 | h1
      · cases hv : v6.ownBlock with
        | none =>
          exfalso
          rcases hown.2 with ⟨h3, h4⟩ | ⟨g, _, _, h3, _⟩
          · omega
          · rw [h3] at h0; rw [h1] at h0; cases h0
        | some g => rw [h1]; exact fun e => by cases e
      · exact h1
    · rw [h0]
      intro e
      have := (h.tw.lt _ e.symm).2
      simp at this
      omega
  · cases hv : v6.ownBlock with
    | none => exact .inl rfl
    | some g =>
      right
      rcases hat with h0 | h0
      · rw [h0, ← hv]
        rcases h.ne' with h1 | h1
        · rw [hv] at h1; cases h1
        · exact h1
      · rw [h0]
        have := (h.tw.lt g hv).2
        simp; omega
  · exact (h.below.grown hgm h.below.size (fun k hk => by cases hk; omega)).grown hg' (Nat.le_trans h.below.size hsm) (fun k hk => by have := hl5 k hk; omega)

/-- What spec.ReceivedAll hands back. -/
def AllBack (w : World) (f : Int) (ps : List Int) (e : Ending) (w' : World) : Prop :=
  ∃ C M : Nat, Ends (recv f ps).1 C M ∧ ∃ ga gc da dc, e = .returned (.agg #[.int .u32 (U f C), .int .u32 0, .slice ga (gl (above (recv f ps).1 C) M).length gc, .slice da (recv f ps).2.length dc]) ∧
    RowAt w.heap.size w' ga (gl (above (recv f ps).1 C) M).length gc 2 (fun k => .int .i64 (gval C (gl (above (recv f ps).1 C) M) k)) ∧
    RowAt w.heap.size w' da (recv f ps).2.length dc 1 (fun k => .int .u32 ((recv f ps).2.getD k 0)) ∧ Below w.heap.size w w'
theorem row_list64 (dl : List Int) : dl.map (Value.int .i64) = (List.range (dl.length * 1)).map (fun k => .int .i64 (dl.getD k 0)) := by
  apply List.ext_getElem
  · simp
  · intro i h1 h2
    have hi : i < dl.length := by simpa using h1
    simp [List.getD_eq_getElem?_getD, List.getElem?_eq_getElem hi]

set_option maxHeartbeats 1000000 in
set_option maxRecDepth 20000 in
theorem all_any {w : World} {ao : Option Addr} {c : Nat} {f : Int} {ps : List Int} (hl : IntsAt w ao ps.length c ps) (hn : ps.length ≤ 1000) (hp : ∀ p ∈ ps, -1000 ≤ p ∧ p ≤ 1000) :
    Calls Tryd.prog 4 #[.int .u32 (U f 0), .slice ao ps.length c] w (AllBack w f ps) := by
  have hmm := @run_makeMap Tryd.prog
  obtain ⟨i0, hi, hz0, hzz1, hzz2⟩ := info_parts (show (Tryd.prog.info? 22).map (fun i => (i.zero, i.size, i.bytes)) = some (some (.int .u32 0), 1, 4) by kernel_rfl)
  obtain ⟨k0, hk, kz0, kzz1, kzz2⟩ := info_parts (show (Tryd.prog.info? 3).map (fun i => (i.zero, i.size, i.bytes)) = some (some (.int .i64 0), 1, 8) by kernel_rfl)
  have HL := Lib.hid hl; have HP := Lib.hid hp
  obtain ⟨n, hnn⟩ : ∃ n, n = ps.length := ⟨_, rfl⟩
  have HNN := Lib.hid hnn
  rw [← hnn] at hn ⊢
  obtain ⟨t, ht⟩ : ∃ t, t = U f 0 := ⟨_, rfl⟩
  have HT := Lib.hid ht
  rw [← ht]
  have I0 : Hid (RA w ((((w.alloc (.cells z27 27)).alloc (.cells #[] 3)).alloc (.cells #[] 22)).alloc (.map #[] 0)) 0 (bhs f (ps.take 0)) (.slice (some ⟨w.heap.size + 1, 0, none⟩) 0 0) (.slice (some ⟨w.heap.size + 1 + 1, 0, none⟩) 0 0)) := Lib.hid (by
    refine ⟨?_, ?_, ?_, ?_, by simp [Value.ownBlock], by simp [Value.ownBlock], .inr (by simp [Value.ownBlock]), .inr (by simp [Value.ownBlock]), ?_, by simp⟩
    · exact (heap_alloc_old _ _ (by simp; omega)).trans ((heap_alloc_old _ _ (by simp; omega)).trans ((heap_alloc_old _ _ (by simp)).trans (heap_new w _)))
    · have := CameAt.made (((w.alloc (.cells z27 27)).alloc (.cells #[] 3)).alloc (.cells #[] 22))
      simpa [bhs] using this
    · have := World.ownsRow_made (base := w.heap.size + 1) (e := 3) (size := 1) (w.alloc (.cells z27 27)) #[] 0 (by simp) (by unfold maxLen; omega) rfl
      have := (this.alloc (.cells #[] 22)).alloc (.map #[] 0)
      simpa [bhs] using this
    · have := World.ownsRow_made (base := w.heap.size + 1) (e := 22) (size := 1) ((w.alloc (.cells z27 27)).alloc (.cells #[] 3)) #[] 0 (by simp) (by unfold maxLen; omega) rfl
      have := this.alloc (.map #[] 0)
      simpa [bhs] using this
    · exact ((((Below.refl _ w).alloc (Nat.le_refl _) _).alloc (by simp) _).alloc (by simp; omega) _).alloc (by simp; omega) _)
  clear hl hp hnn ht
  go_enter Tryd.func4, Tryd.ntmps4
  go_wp2_with fail
  go_loopw [5, 6, 16] (fun v5 v6 v16 wr => ∃ j : Nat, j ≤ n ∧ v16 = .int .i64 j ∧ RA w wr j (bhs f (ps.take j)) v5 v6) (fun _ _ i _ => n - (intOf i).toNat)
  case atStart => exact ⟨0, Nat.zero_le _, rfl, I0.out⟩
  case round =>
    clear I0
    obtain ⟨j, hj, rfl, hst⟩ := hrel
    have HST := Lib.hid hst
    clear hst
    by_cases hjn : j < n
    · have hjI : (j : Int) < n := by omega
      have hjl : j < ps.length := by rw [← HNN.out]; exact hjn
      obtain ⟨x, hx⟩ : ∃ x, x = ps[j] := ⟨_, rfl⟩
      have hxb := HP.out ps[j] (List.getElem_mem hjl)
      rw [← hx] at hxb
      obtain ⟨g, off, rfl, hgc, hcell⟩ := (HL.out.mod (Mod.of_below (S := fun _ => False) HST.out.below) (fun _ _ h => h)).open (by omega)
      rw [← HNN.out] at hgc
      have c0 : wr.cell? ⟨g, off + j, none⟩ = some (.int .i64 x) := by
        rw [hcell j (by omega), hx, List.getD_eq_getElem?_getD, List.getElem?_eq_getElem hjl]; rfl
      have hbs := bhs_take f ps j hjl
      rw [← hx] at hbs
      have HBS := Lib.hid hbs
      have hok := bhs_ok f ps (fun p h => (HP.out p h).2) j (by omega)
      have hl1 := bhs_len f ps j (by omega)
      have hl2 := recv_len f ps j (by omega)
      rw [← bhs_recv f ps j (by omega)] at hl2
      obtain ⟨s, hs⟩ : ∃ s, s = bhs f (ps.take j) := ⟨_, rfl⟩
      rw [← hs] at HST hok hl1 hl2 HBS
      have HX := Lib.hid hx
      have hrun := HST.out.map.look x (by omega)
      have hU1 : (t + x % 4294967296) % 4294967296 = U f x := by rw [HT.out]; unfold U; omega
      have hU2 : (t + x) % 4294967296 = U f x := by rw [HT.out]; unfold U; omega
      have HOK := Lib.hid hok
      have w1j := wraps_i64 ((j : Int) + 1) (by omega) (by omega)
      have hszr := HST.out.size
      clear hcell hx hbs hs hok
      obtain ⟨hx1, hx2⟩ := hxb
      by_cases hlo : x < 1
      · go_wp2_with (first | (at_builtin; refine wpList_append_own_at _ rfl _ _ 25 rfl (w.heap.size + 1) 22 i0 (.int .u32 0) 1 4 Tryd.underlying25 hi hz0 hzz1 hzz2 rfl (by decide) _ _ _ rfl (HST.out.tw.alloc _) ⟨wr.heap.size, 0, none⟩ 1 1 [.int .u32 (U f x)] rfl rfl (cell_one_new _ _ _) (by simp [Value.oneCell']) (by unfold maxLen; omega) (by omega) (by simp; omega) ?_; intro v' w3 hown hgrow hnil hat))
        go_roundw
        case rel => exact ⟨j + 1, hjn, by go_num, by rw [HBS.out]; exact HST.out.dup (.inl hlo) hown hgrow hat⟩
        case measure => simp [intOf]; omega
      · by_cases hin : x ∈ s.2
        · rw [decide_eq_true hin] at hrun
          have hr : s.1.1 x.toNat = true := by rw [HOK.out.mem, Int.toNat_of_nonneg (by omega)]; exact hin
          go_wp2_with (first | (at_builtin; refine wpList_append_own_at _ rfl _ _ 25 rfl (w.heap.size + 1) 22 i0 (.int .u32 0) 1 4 Tryd.underlying25 hi hz0 hzz1 hzz2 rfl (by decide) _ _ _ rfl (HST.out.tw.alloc _) ⟨wr.heap.size, 0, none⟩ 1 1 [.int .u32 (U f x)] rfl rfl (cell_one_new _ _ _) (by simp [Value.oneCell']) (by unfold maxLen; omega) (by omega) (by simp; omega) ?_; intro v' w3 hown hgrow hnil hat))
          go_roundw
          case rel => exact ⟨j + 1, hjn, by go_num, by rw [HBS.out]; exact HST.out.dup (.inr hr) hown hgrow hat⟩
          case measure => simp [intOf]; omega
        · rw [decide_eq_false hin] at hrun
          have hr : ¬ (x < 1 ∨ s.1.1 x.toNat = true) := by
            rintro (h0 | h0)
            · exact hlo h0
            · rw [HOK.out.mem, Int.toNat_of_nonneg (by omega)] at h0; exact hin h0
          go_wp2_with (first | (at_mapUpdate; refine wpList_came rfl _ _ _ rfl _ j _ rfl HST.out.map (by omega) _ rfl rfl (by omega) ?_; intro wm hcm hgm; have hbm := HST.out.bh.kept hgm (.inr HST.out.a5); have hsm := hgm.size) | (at_builtin; refine wpList_append_own_at _ rfl _ _ 23 rfl (w.heap.size + 1) 3 k0 (.int .i64 0) 1 8 Tryd.underlying23 hk kz0 kzz1 kzz2 rfl (by decide) _ _ _ rfl (hbm.alloc _) ⟨wm.heap.size, 0, none⟩ 1 1 [.int .i64 x] rfl rfl (cell_one_new _ _ _) (by simp [Value.oneCell']) (by unfold maxLen; omega) (by omega) (by simp; omega) ?_; intro v' w3 hown hgrow hnil hat))
          go_roundw
          case rel => exact ⟨j + 1, hjn, by go_num, by rw [HBS.out]; exact HST.out.fresh hr hcm hgm hown hgrow hat⟩
          case measure => simp [intOf]; omega
    · obtain rfl : j = n := by omega
      have hjj : (j : Int) ≤ j := Int.le_refl _
      have hok := bhs_ok f ps (fun p h => (HP.out p h).2) j (by rw [HNN.out]; omega)
      have hl1 := bhs_len f ps j (by rw [HNN.out]; omega)
      have hrc := bhs_recv f ps j (by rw [HNN.out]; omega)
      have htk : ps.take j = ps := by rw [HNN.out]; exact List.take_length
      rw [htk] at HST hok hl1 hrc
      obtain ⟨s, hs⟩ : ∃ s, s = bhs f ps := ⟨_, rfl⟩
      rw [← hs] at HST hok hl1 hrc
      have hR : inB s.2 = (recv f ps).1 := by
        funext k
        rw [← hrc, Bool.eq_iff_iff, hok.mem]
        unfold inB
        simp
      have hbh := HST.out.bh
      rw [row_list64] at hbh
      obtain ⟨ba, bc, rfl, hbr⟩ := RowAt.of_owns hbh
      have htw := HST.out.tw
      rw [row_list] at htw
      obtain ⟨da, dc, rfl, hda⟩ := RowAt.of_owns htw
      have HSP := Lib.hid (specrecv_any (f := f) hbr (by omega) hok.pos hok.nodup)
      have hres := HST.out.res
      have HDA := Lib.hid hda; have HRR := Lib.hid hR; have HRC := Lib.hid hrc
      have hszr := HST.out.size
      have HBL := Lib.hid HST.out.below
      have HT2 := Lib.hid HT.out
      rw [← HT.out] at HSP
      clear hbh htw hbr hda hR hrc htk hok HST hs
      go_wp2_with fail
      refine HSP.out.mono ?_
      rintro e w3 ⟨C, M, hE, ga, gc, rfl, hga, hb3⟩
      have HE := Lib.hid hE; have HGA := Lib.hid hga; have HB3 := Lib.hid hb3
      have hszw := hb3.size
      have hr3 := (hb3.block _ (by omega)).trans hres
      have r0 : w3.cell? ⟨w.heap.size, 0, none⟩ = some (.int .u32 0) := by rw [cell_of_block hr3]; rfl
      have y0 : w3.frozen? ⟨w.heap.size, 0, none⟩ = false := frozen_of_block hr3
      have r1 : w3.cell? ⟨w.heap.size, 1, none⟩ = some (.int .u32 0) := by rw [cell_of_block hr3]; rfl
      have y1 : w3.frozen? ⟨w.heap.size, 1, none⟩ = false := frozen_of_block hr3
      have r2 : w3.cell? ⟨w.heap.size, 2, none⟩ = some (.slice none 0 0) := by rw [cell_of_block hr3]; rfl
      have y2 : w3.frozen? ⟨w.heap.size, 2, none⟩ = false := frozen_of_block hr3
      have r3 : w3.cell? ⟨w.heap.size, 3, none⟩ = some (.slice none 0 0) := by rw [cell_of_block hr3]; rfl
      have y3 : w3.frozen? ⟨w.heap.size, 3, none⟩ = false := frozen_of_block hr3
      have hlt3 : w.heap.size < w3.heap.size := by omega
      have HR := Lib.hid hr3
      clear hE hga hb3 hr3 hres
      go_wp2_with fail
      clear r0 y0 r1 y1 r2 y2 r3 y3
      obtain ⟨dn, hdn⟩ : ∃ dn, dn = s.1.2.length := ⟨_, rfl⟩
      rw [← hdn] at HDA ⊢
      generalize hW : World.setCell _ _ _ = wF
      have hch := (heap_setCell_same (i := 3) (heap_setCell_same (i := 2) (heap_setCell_same (i := 1) (heap_setCell_same (i := 0) HR.out (.int .u32 (U f C))) (.int .u32 0)) (.slice ga (gl (above (inB s.2) C) M).length gc)) (.slice da dn dc))
      simp only [z27, List.setIfInBounds_toArray, List.set_cons_zero, List.set_cons_succ] at hch
      have hb : wF.heap[w.heap.size]? = some (.cells #[.int .u32 (U f C), .int .u32 0, .slice ga (gl (above (inB s.2) C) M).length gc, .slice da dn dc] 27 (0, 0)) := by rw [← hW]; exact hch
      have Mf : Mod (· = w.heap.size) w3 wF := by rw [← hW]; exact (((((Mod.refl (· = w.heap.size) w3).set1 _).set1 _).set1 _).set1 _)
      clear hch hW
      have hbF : w.heap.size < wF.heap.size := Nat.lt_of_lt_of_le hlt3 Mf.size
      have k0 : wF.cell? ⟨w.heap.size, 0, none⟩ = some (.int .u32 (U f C)) := by rw [cell_of_block hb]; rfl
      have k1 : wF.cell? ⟨w.heap.size, 1, none⟩ = some (.int .u32 0) := by rw [cell_of_block hb]; rfl
      have k2 : wF.cell? ⟨w.heap.size, 2, none⟩ = some (.slice ga (gl (above (inB s.2) C) M).length gc) := by rw [cell_of_block hb]; rfl
      have k3 : wF.cell? ⟨w.heap.size, 3, none⟩ = some (.slice da dn dc) := by rw [cell_of_block hb]; rfl
      have Mg := Mf.alloc (.cells #[.int .u32 (U f C), .int .u32 0, .slice ga (gl (above (inB s.2) C) M).length gc, .slice da dn dc] 27)
      have l0 := cell_alloc k0 (.cells #[.int .u32 (U f C), .int .u32 0, .slice ga (gl (above (inB s.2) C) M).length gc, .slice da dn dc] 27)
      have l1 := cell_alloc k1 (.cells #[.int .u32 (U f C), .int .u32 0, .slice ga (gl (above (inB s.2) C) M).length gc, .slice da dn dc] 27)
      have l2 := cell_alloc k2 (.cells #[.int .u32 (U f C), .int .u32 0, .slice ga (gl (above (inB s.2) C) M).length gc, .slice da dn dc] 27)
      have l3 := cell_alloc k3 (.cells #[.int .u32 (U f C), .int .u32 0, .slice ga (gl (above (inB s.2) C) M).length gc, .slice da dn dc] 27)
      refine bodyPost_ret (v := .agg #[.int .u32 (U f C), .int .u32 0, .slice ga (gl (above (inB s.2) C) M).length gc, .slice da dn dc]) (by simp [results, Tryd.results4, go_sem, l0, l1, l2, l3]) rfl ?_
      have M3 : Mod (fun _ => False) wr w3 := Mod.of_below HB3.out
      have hz : ∀ q : Nat, q = w.heap.size → q < w.heap.size + 1 ∨ wr.heap.size ≤ q := fun q e => .inl (by omega)
      have hE := HE.out; have hG := HGA.out; have hD := HDA.out
      rw [HRR.out] at hE
      rw [HRC.out] at hdn hD
      rw [HRR.out] at hG Mg ⊢
      subst hdn
      exact ⟨C, M, hE, ga, gc, da, dc, rfl, (hG.mod Mg (fun q e => .inl (by omega))).mono (by omega), ((hD.mod M3 (fun _ h => h.elim)).mod Mg (fun q e => .inl (e ▸ Nat.lt_succ_self _))).mono (Nat.le_succ _), HBL.out.trans ((HB3.out.mono (show w.heap.size ≤ wr.heap.size by omega)).trans (Mg.below (Nat.le_of_lt hlt3) (fun q e => Nat.le_of_eq e.symm)))⟩
end Go.Proofs.YthnalicohdmlfaaDoor
