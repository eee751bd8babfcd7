/- Part of the proof of laws.FnReceivedAny: what spec.Numbers and impl.Received return; conditions: as each theorem states. -/
import Derived.Test.YthnalicohdmlfaaDoorR14
namespace Go.Proofs.YthnalicohdmlfaaDoor
open Go.RowKit
set_option linter.unusedVariables false

/-- A copy of a row, onto nil. -/
theorem wpList_copied {P : Program} (w : World) {ops : Array Oper} {rest : List Oper} {o : Oper} {a : Act} {Q : Exit → Act → World → Prop} (hgd : o.guard = none) (s x : Operand) (t : TypeId)
    (ho : o.op = .call { callee := .builtin .append, args := #[s, x], argTypes := #[t, t] })
    (e : TypeId) (i : TypeInfo) (z : Value) (bytes : Nat) (ht : P.underlying t = some (.slice e)) (hi : P.info? e = some i) (hz : i.zero = some z)
    (hsize : i.size = 1) (hby : i.bytes = bytes) (hzs : z.cells.size = 1) (hs : a.eval s = .slice none 0 0)
    (B : Nat) (ao : Option Addr) (n c : Nat) (f : Nat → Value) (hx : a.eval x = .slice ao n c) (hl : RowAt B w ao n c 1 f) (h1 : ∀ k, (f k).oneCell' = true) (hn : n ≤ 2147483647) (hb : bytes ≤ 8)
    (h : ∀ ao' c' w', RowAt w.heap.size w' ao' n c' 1 f → Below w.heap.size w w' → wpList P ops Q rest (a.put o.dst (.slice ao' n c')) w') : wpList P ops Q (o :: rest) a w := by
  rcases hl with ⟨rfl, rfl, rfl⟩ | ⟨g, rfl, hb1, hg, hc, hk⟩
  · refine wpList_plain hgd fun K hK => ?_
    have hr := run_append_owned_none (P := P) (w := w) 0 t o.type e i 1 ht hi (.slice none 0 0) 0 [] (World.ownsRow_nil w 0 e 1)
    unfold Oper.wp execOp
    simp only [ho, resolve, invoke, builtin, Sem.run_bind, Sem.run_pure, Result.andThen_ok, List.map_toArray, List.map_cons, List.map_nil, hs, hx, hr]
    exact hK _ _ (h none 0 w (.inl ⟨rfl, rfl, rfl⟩) (Below.refl _ _))
  · refine wpList_append_own w hgd s x t ho w.heap.size e i z 1 bytes ht hi hz hsize hby hzs (by decide) (.slice none 0 0) 0 [] hs (World.ownsRow_nil w _ e 1) ⟨g, 0, none⟩ n c ((List.range (n * 1)).map f) hx (by simp) (RowAt.news (B := B) (c := c) (.inr ⟨g, rfl, hb1, hg, hc, hk⟩)) (fun u hu => ?_) (by unfold maxLen; omega) ?_ (Nat.le_refl _) ?_
    · obtain ⟨k, _, rfl⟩ := List.mem_map.1 hu; exact h1 k
    · have := Nat.mul_le_mul (show 0 + n ≤ 2147483647 by omega) hb; omega
    · intro v' w' hown hg _
      have hown' : w'.ownsRow w.heap.size e 1 v' n ((List.range (n * 1)).map f) := by simpa using hown
      obtain ⟨ao', c', rfl, hr⟩ := RowAt.of_owns hown'
      exact h ao' c' w' hr ((Below.refl _ w).grown hg (Nat.le_refl _) (fun k hk => by cases hk))

/-- The loop's relation. -/
def NumRel (w : World) (n : Nat) (g : Nat → Value) (v i : Value) (wr : World) : Prop :=
  ∃ j : Nat, j ≤ n ∧ i = .int .i64 j ∧ wr.ownsRow w.heap.size 22 1 v j ((List.range (j * 1)).map g) ∧ Below w.heap.size w wr

set_option maxHeartbeats 1000000 in
set_option maxRecDepth 20000 in
theorem numbers_any {w : World} {ao : Option Addr} {c : Nat} {f : Int} {ps : List Int} (hl : IntsAt w ao ps.length c ps) (hn : ps.length ≤ 1000) (hp : ∀ p ∈ ps, -1000 ≤ p ∧ p ≤ 1000) :
    Calls Tryd.prog 6 #[.int .u32 (U f 0), .slice ao ps.length c] w (RowBack w ps.length 1 (fun k => .int .u32 (U f (ps.getD k 0)))) := by
  obtain ⟨i0, hi, hz0, hzz1, hzz2⟩ := info_parts (show (Tryd.prog.info? 22).map (fun i => (i.zero, i.size, i.bytes)) = some (some (.int .u32 0), 1, 4) by kernel_rfl)
  have HL := Lib.hid hl; have HP := Lib.hid hp
  obtain ⟨n, hnn⟩ : ∃ n, n = ps.length := ⟨_, rfl⟩
  have HNN := Lib.hid hnn
  rw [← hnn] at hn ⊢
  obtain ⟨t, ht⟩ : ∃ t, t = U f 0 := ⟨_, rfl⟩
  have HT := Lib.hid ht
  rw [← ht]
  have O0 := Lib.hid (World.ownsRow_made (base := w.heap.size) (e := 22) (size := 1) w #[] 0 (Nat.le_refl _) (by unfold maxLen; omega) rfl)
  have B1 := Lib.hid ((Below.refl w.heap.size w).alloc (Nat.le_refl _) (.cells #[] 22))
  clear hl hp hnn ht
  go_enter Tryd.func6, Tryd.ntmps6
  go_wp2_with fail
  go_loopw [5, 11] (fun v i wr => NumRel w n (fun k => .int .u32 (U f (ps.getD k 0))) v i wr) (fun _ i _ => n - (intOf i).toNat)
  case atStart => exact ⟨0, Nat.zero_le _, rfl, by simpa using O0.out, B1.out⟩
  case round =>
    obtain ⟨j, hj, rfl, hown, hb⟩ := hrel
    by_cases hjn : j < n
    · have hjI : (j : Int) < n := by omega
      have hjl : j < ps.length := by rw [← HNN.out]; exact hjn
      obtain ⟨x, hx⟩ : ∃ x, x = ps[j] := ⟨_, rfl⟩
      have hxb := HP.out ps[j] (List.getElem_mem hjl)
      rw [← hx] at hxb
      have hxd : ps.getD j 0 = x := by rw [hx, List.getD_eq_getElem?_getD, List.getElem?_eq_getElem hjl]; rfl
      obtain ⟨g, off, rfl, hgc, hcell⟩ := (HL.out.mod (Mod.of_below (S := fun _ => False) hb) (fun _ _ h => h)).open (by omega)
      rw [← HNN.out] at hgc
      have c0 : wr.cell? ⟨g, off + j, none⟩ = some (.int .i64 x) := by
        rw [hcell j (by omega), hxd]
      have hU1 : (t + x % 4294967296) % 4294967296 = U f x := by rw [HT.out]; unfold U; omega
      have hU2 : (t + x) % 4294967296 = U f x := by rw [HT.out]; unfold U; omega
      have HX := Lib.hid hxd
      have w1j := wraps_i64 ((j : Int) + 1) (by omega) (by omega)
      have HO := Lib.hid hown; have HB := Lib.hid hb
      have hsz : w.heap.size ≤ wr.heap.size := hb.size
      obtain ⟨hx1, hx2⟩ := hxb
      clear hcell hx hxd hown hb
      go_wp2_with (first | (at_builtin; refine wpList_append_own _ rfl _ _ 25 rfl w.heap.size 22 i0 (.int .u32 0) 1 4 Tryd.underlying25 hi hz0 hzz1 hzz2 rfl (by decide) _ _ _ rfl (HO.out.alloc _) ⟨wr.heap.size, 0, none⟩ 1 1 [.int .u32 (U f x)] rfl rfl (cell_one_new _ _ _) (by simp [Value.oneCell']) (by unfold maxLen; omega) (by omega) (by simp; omega) ?_; intro v' w3 hown hgrow hnil))
      have hb' := (HB.out.alloc hsz (.cells #[.int .u32 (U f x)] 22)).grown hgrow (by simp; omega) (fun k hk => (HO.out.lt k hk).1)
      go_roundw
      case rel =>
        refine ⟨j + 1, hjn, by go_num, ?_, hb'⟩
        have e : (List.range ((j + 1) * 1)).map (fun k => (.int .u32 (U f (ps.getD k 0)) : Value)) = (List.range (j * 1)).map (fun k => (.int .u32 (U f (ps.getD k 0)) : Value)) ++ [.int .u32 (U f x)] := by
          rw [Nat.mul_one, Nat.mul_one, List.range_succ, List.map_append, List.map_cons, List.map_nil, HX.out]
        rw [e]; exact hown
      case measure => simp [intOf]; omega
    · obtain rfl : j = n := by omega
      have hjj : (j : Int) ≤ j := Int.le_refl _
      have HB := Lib.hid hb
      obtain ⟨ao, c, rfl, hr⟩ := RowAt.of_owns hown
      have HR := Lib.hid hr
      clear hown hb hr
      go_wp2_with fail
      go_ret
      exact ⟨ao, c, rfl, HR.out, HB.out⟩

/-- What impl.Received hands back. -/
def ImplBack (w : World) (f : Int) (ps : List Int) (e : Ending) (w' : World) : Prop :=
  ∃ C M : Nat, Ends (recv f ps).1 C M ∧ ∃ ga gc da dc, e = .returned (.tuple #[.agg #[.int .u32 (U f C), .int .u32 0, .slice ga (gl (above (recv f ps).1 C) M).length gc, .slice da (recv f ps).2.length dc], .bool true]) ∧
    RowAt w.heap.size w' ga (gl (above (recv f ps).1 C) M).length gc 2 (fun k => .int .i64 (gval C (gl (above (recv f ps).1 C) M) k)) ∧
    RowAt w.heap.size w' da (recv f ps).2.length dc 1 (fun k => .int .u32 ((recv f ps).2.getD k 0)) ∧ Below w.heap.size w w'

theorem gaps_ok' {r : Nat → Bool} {C M : Nat} (hM : M ≤ 1000) : ∀ p ∈ gl (above r C) M, C < p.1 ∧ C < p.2 ∧ p.1 ≤ 1000 ∧ p.2 ≤ 1000 := by
  intro p hp
  have := gl_mem (r := above r C) (C := C) (fun k hk => by unfold above at hk; simp only [Bool.and_eq_true, decide_eq_true_eq] at hk; exact hk.1) M p hp
  omega

set_option maxHeartbeats 1000000 in
set_option maxRecDepth 20000 in
theorem implrecv_any {w : World} {B0 : Nat} {ao : Option Addr} {c : Nat} {f : Int} {ps : List Int} (hl : RowAt B0 w ao ps.length c 1 (fun k => .int .u32 (U f (ps.getD k 0)))) (hn : ps.length ≤ 1000) (hp : ∀ p ∈ ps, -1000 ≤ p ∧ p ≤ 1000) (hT : Tab w) :
    Calls Tryd.prog 5 #[.int .u32 (U f 0), .slice ao ps.length c] w (ImplBack w f ps) := by
  obtain ⟨i0, hi, hz0, hzz1, hzz2⟩ := info_parts (show (Tryd.prog.info? 22).map (fun i => (i.zero, i.size, i.bytes)) = some (some (.int .u32 0), 1, 4) by kernel_rfl)
  have HR0 := Lib.hid (heap_new w (.cells z27 27))
  have MA : Mod (fun _ => False) w (w.alloc (.cells z27 27)) := (Mod.refl _ w).alloc _
  have HL := Lib.hid (hl.mod MA (fun _ h => h.elim))
  have HP := Lib.hid hp
  have HT := Lib.hid (hT.mod MA (fun h => h))
  have HBA := Lib.hid ((Below.refl w.heap.size w).alloc (Nat.le_refl _) (.cells z27 27))
  obtain ⟨n, hnn⟩ : ∃ n, n = ps.length := ⟨_, rfl⟩
  have HNN := Lib.hid hnn
  obtain ⟨t, ht⟩ : ∃ t, t = U f 0 := ⟨_, rfl⟩
  have HTT := Lib.hid ht
  rw [← hnn] at hn HL
  rw [← hnn, ← ht]
  clear hl hp hT MA hnn ht
  go_enter Tryd.func5, Tryd.ntmps5
  go_wp2_with (first | (at_builtin; refine wpList_copied _ rfl _ _ 25 rfl 22 i0 (.int .u32 0) 4 Tryd.underlying25 hi hz0 hzz1 hzz2 rfl rfl _ _ _ _ _ rfl HL.out (fun _ => rfl) (by omega) (by omega) ?_; intro a1 c1 w1 hr1 hb1))
  have hw1 := hb1.size
  have hw1 : w.heap.size + 1 ≤ w1.heap.size := by simpa using hw1
  have hnn' := HNN.out
  have HZ := Lib.hid (zzrecv_any (f := f) (ps := ps) (by rw [← HNN.out]; exact hr1) (by omega) HP.out (HT.out.mod (Mod.of_below (S := fun _ => False) hb1) (fun h => h)))
  rw [← HTT.out, ← HNN.out] at HZ
  have HBB := Lib.hid (HBA.out.trans (hb1.mono (by simp)))
  have HR1 : Hid (w1.heap[w.heap.size]? = some (.cells z27 27 (0, 0))) := Lib.hid ((hb1.block _ (by simp)).trans HR0.out)
  clear hr1 hb1 hnn'
  go_wp2_with fail
  refine HZ.out.mono ?_
  rintro e w2 ⟨C, M, hE, hM, ga, gc, da, dc, rfl, hg, hd, hb2⟩
  have HE := Lib.hid hE
  have hGL := gl_len (above (recv f ps).1 C) M
  have hDL := recv_len f ps ps.length (Nat.le_refl _)
  rw [List.take_length] at hDL
  have hsz12 := hb2.size
  have HP1 := Lib.hid (pairs_any hg (by omega) (gval_bound (gaps_ok' hM)))
  have HD := Lib.hid hd
  have HB2 := Lib.hid (HBB.out.trans (hb2.mono (by omega)))
  have HR2 : Hid (w2.heap[w.heap.size]? = some (.cells z27 27 (0, 0))) := Lib.hid ((hb2.block _ (by omega)).trans HR1.out)
  obtain ⟨G, hG⟩ : ∃ G, G = (gl (above (recv f ps).1 C) M).length := ⟨_, rfl⟩
  obtain ⟨D, hD⟩ : ∃ D, D = (recv f ps).2.length := ⟨_, rfl⟩
  rw [← hG] at HP1 hGL ⊢
  rw [← hD] at HD hDL ⊢
  have HG := Lib.hid hG; have HDD := Lib.hid hD
  have hn' := HNN.out
  have hD1 : D ≤ 2147483647 := by omega
  clear hE hg hd hb2 hG hD hn'
  go_wp2_with fail
  refine HP1.out.mono ?_
  rintro e w3 ⟨pa, pc, rfl, hpr, hb3⟩
  have hsz23 := hb3.size
  have HD3 := Lib.hid (HD.out.mod (Mod.of_below (S := fun _ => False) hb3) (fun _ h => h.elim))
  have HB3 := Lib.hid (HB2.out.trans (hb3.mono (by omega)))
  have HR3 : Hid (w3.heap[w.heap.size]? = some (.cells z27 27 (0, 0))) := Lib.hid ((hb3.block _ (by omega)).trans HR2.out)
  have HPR := Lib.hid hpr
  clear hpr hb3 HD HP1 HZ
  go_wp2_with (first | (at_builtin; refine wpList_copied _ rfl _ _ 25 rfl 22 i0 (.int .u32 0) 4 Tryd.underlying25 hi hz0 hzz1 hzz2 rfl rfl _ _ _ _ _ rfl HD3.out (fun _ => rfl) hD1 (by omega) ?_; intro a4 c4 w4 hr4 hb4; have HR4 : Hid (w4.heap[w.heap.size]? = some (.cells z27 27 (0, 0))) := Lib.hid ((hb4.block _ (by omega)).trans HR3.out); have r0 : w4.cell? ⟨w.heap.size, 0, none⟩ = some (.int .u32 0) := (by rw [cell_of_block HR4.out]; rfl); have y0 : w4.frozen? ⟨w.heap.size, 0, none⟩ = false := frozen_of_block HR4.out; have r1 : w4.cell? ⟨w.heap.size, 1, none⟩ = some (.int .u32 0) := (by rw [cell_of_block HR4.out]; rfl); have y1 : w4.frozen? ⟨w.heap.size, 1, none⟩ = false := frozen_of_block HR4.out; have r2 : w4.cell? ⟨w.heap.size, 2, none⟩ = some (.slice none 0 0) := (by rw [cell_of_block HR4.out]; rfl); have y2 : w4.frozen? ⟨w.heap.size, 2, none⟩ = false := frozen_of_block HR4.out; have r3 : w4.cell? ⟨w.heap.size, 3, none⟩ = some (.slice none 0 0) := (by rw [cell_of_block HR4.out]; rfl); have y3 : w4.frozen? ⟨w.heap.size, 3, none⟩ = false := frozen_of_block HR4.out))
  clear r0 y0 r1 y1 r2 y2 r3 y3
  generalize hW : World.setCell _ _ _ = wF
  have hch := (heap_setCell_same (i := 3) (heap_setCell_same (i := 2) (heap_setCell_same (i := 1) (heap_setCell_same (i := 0) HR4.out (.int .u32 (U f C))) (.int .u32 0)) (.slice pa G pc)) (.slice a4 D c4))
  simp only [z27, List.setIfInBounds_toArray, List.set_cons_zero, List.set_cons_succ] at hch
  have hb : wF.heap[w.heap.size]? = some (.cells #[.int .u32 (U f C), .int .u32 0, .slice pa G pc, .slice a4 D c4] 27 (0, 0)) := by rw [← hW]; exact hch
  have Mf : Mod (· = w.heap.size) w4 wF := by rw [← hW]; exact (((((Mod.refl (· = w.heap.size) w4).set1 _).set1 _).set1 _).set1 _)
  clear hch hW
  have k0 : wF.cell? ⟨w.heap.size, 0, none⟩ = some (.int .u32 (U f C)) := by rw [cell_of_block hb]; rfl
  have k1 : wF.cell? ⟨w.heap.size, 1, none⟩ = some (.int .u32 0) := by rw [cell_of_block hb]; rfl
  have k2 : wF.cell? ⟨w.heap.size, 2, none⟩ = some (.slice pa G pc) := by rw [cell_of_block hb]; rfl
  have k3 : wF.cell? ⟨w.heap.size, 3, none⟩ = some (.slice a4 D c4) := by rw [cell_of_block hb]; rfl
  refine bodyPost_ret (v := .tuple #[.agg #[.int .u32 (U f C), .int .u32 0, .slice pa G pc, .slice a4 D c4], .bool true]) (by simp [results, Tryd.results5, go_sem, k0, k1, k2, k3]) rfl ?_
  have hP := (HPR.out.mod (Mod.of_below (S := fun _ => False) hb4) (fun _ h => h.elim)).mod Mf (fun q e => .inl (by omega))
  have hD4 := hr4.mod Mf (fun q e => .inl (by omega))
  have hlt4 : w.heap.size ≤ w4.heap.size := by have := hb4.size; omega
  have hB := HB3.out.trans ((hb4.mono (show w.heap.size ≤ w3.heap.size by omega)).trans (Mf.below hlt4 (fun q e => Nat.le_of_eq e.symm)))
  have hG := HG.out; have hD := HDD.out
  subst hG hD
  exact ⟨C, M, HE.out, pa, pc, a4, c4, rfl, hP.mono (by omega), hD4.mono (by omega), hB⟩
end Go.Proofs.YthnalicohdmlfaaDoor
