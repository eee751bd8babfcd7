/- Part of the proof of laws.FnSackAny: what impl.SackOf returns where the chunk is right; conditions: as the theorem states. -/
import Derived.Test.YtnajpmdnadjipaaDoorJ2
import Derived.Deep.AppendLies
import Derived.Maps.AppendAt
namespace Go.Proofs.YtnajpmdnadjipaaDoor
open Go.RowKit
set_option linter.unusedVariables false

/-- An append at a step of a region that draws its order, whatever is appended. -/
theorem step_append_any {P : Program} (w : World) {ops : Array Oper} {o : Oper} {a : Act} {K : Act → World → Prop} {Q : Exit → Act → World → Prop} {E : Prop} (hgd : o.guard = none) (s x : Operand) (t : TypeId)
    (ho : o.op = .call { callee := .builtin .append, args := #[s, x], argTypes := #[t, t] })
    (base : Nat) (e : TypeId) (i : TypeInfo) (z : Value) (size bytes : Nat) (ht : P.underlying t = some (.slice e)) (hi : P.info? e = some i) (hz : i.zero = some z)
    (hsize : i.size = size) (hby : i.bytes = bytes) (hzs : z.cells.size = size) (hsz : 0 < size)
    (v : Value) (n : Nat) (xs : List Value) (hs : a.eval s = v) (hown : w.ownsRow base e size v n xs)
    (ad : Addr) (m c : Nat) (news : List Value) (hx : a.eval x = .slice (some ad) m c) (hl : news.length = m * size) (hnews : ∀ j u, news[j]? = some u → w.cell? (ad.add j) = some u) (h1 : ∀ u ∈ news, u.oneCell' = true)
    (h63 : n + m ≤ maxLen) (hbytes : (n + m) * bytes ≤ 140737488355328) (hbase : base ≤ w.heap.size)
    (h : ∀ ao cap w', w'.ownsRow base e size (.slice ao (n + m) cap) (n + m) (xs ++ news) → w.grownBy w' v.ownBlock → ((Value.slice ao (n + m) cap).ownBlock = v.ownBlock ∨ (Value.slice ao (n + m) cap).ownBlock = some w.heap.size) → K (a.put o.dst (.slice ao (n + m) cap)) w') :
    if Region.wanted o (yielded ops a.tmps) = true then Oper.wp P o a w K Q else E := by
  have hw : Region.wanted o (yielded ops a.tmps) = true := by simp [Region.wanted, hgd]
  rw [if_pos hw]
  obtain ⟨v', w', hr, h2, h3, _, h5⟩ := run_append_own_at (P := P) w base t o.type e i z size bytes ht hi hz hsize hby hzs hsz v n xs hown ad m c news hl hnews h1 h63 hbytes hbase
  unfold Oper.wp execOp
  simp only [ho, resolve, invoke, builtin, Sem.run_bind, Sem.run_pure, Result.andThen_ok, List.map_toArray, List.map_cons, List.map_nil, hs, hx, hr]
  obtain ⟨ao, cap, rfl⟩ : ∃ ao cap, v' = .slice ao (n + m) cap := by
    rcases h2.2 with ⟨e, h0⟩ | ⟨g, cap, _, e, _⟩
    · exact ⟨none, 0, by rw [h0]; exact e⟩
    · exact ⟨_, cap, e⟩
  exact h ao cap w' h2 h3 h5

theorem RowAt.news {B : Nat} {w : World} {g n c size : Nat} {f : Nat → Value} (h : RowAt B w (some ⟨g, 0, none⟩) n c size f) : ∀ j u, ((List.range (n * size)).map f)[j]? = some u → w.cell? ((⟨g, 0, none⟩ : Addr).add j) = some u := by
  intro j u hu
  have hj : j < n * size := by have := (List.getElem?_eq_some_iff.1 hu).1; simpa using this
  rw [range_map_getElem hj] at hu
  rcases h with ⟨h, _⟩ | ⟨g', e, _, _, _, hk⟩
  · cases h
  · obtain rfl : g = g' := by simpa using e
    rw [show (⟨g, 0, none⟩ : Addr).add j = ⟨g, j, none⟩ from by unfold Addr.add; split <;> simp_all, hk j hj]
    exact hu
theorem info27s : (Tryd.prog.info? 27).map (fun i => (i.zero, i.size, i.bytes)) = some (some (.int .u32 0), 1, 4) := by kernel_rfl
theorem Mod.of_grown {w w' : World} (h : w.grownBy w' none) : Mod (fun _ => False) w w' := ⟨h.os, h.tape, h.output, h.size, fun k hk _ => h.block k hk (by simp)⟩

theorem owned_mod {B : Nat} {w w' : World} {e : TypeId} {size n : Nat} {v : Value} {xs : List Value} (h : w.ownsRow B e size v n xs) (hM : Mod (fun _ => False) w w') : w'.ownsRow B e size v n xs := by
  refine ⟨h.1, ?_⟩
  rcases h.2 with hn | ⟨g, cap, cur, rfl, hb, hg, hr⟩
  · exact .inl hn
  · exact .inr ⟨g, cap, cur, rfl, hb, (hM.block g (Array.getElem?_eq_some_iff.1 hg).1 (fun h => h)).trans hg, hr⟩
theorem four0123_mod {S : Nat → Prop} {w w' : World} {s : Nat} {v0 v1 v2 v3 : Value} (hb : Mod S w w') (hs : s < w.heap.size) (hS : ¬ S s)
    (h : w.cell? ⟨s, 0, none⟩ = some (v0) ∧ w.cell? ⟨s, 1, none⟩ = some (v1) ∧ w.cell? ⟨s, 2, none⟩ = some (v2) ∧ w.cell? ⟨s, 3, none⟩ = some (v3)) :
    w'.cell? ⟨s, 0, none⟩ = some (v0) ∧ w'.cell? ⟨s, 1, none⟩ = some (v1) ∧ w'.cell? ⟨s, 2, none⟩ = some (v2) ∧ w'.cell? ⟨s, 3, none⟩ = some (v3) :=
  ⟨(hb.cell (p := ⟨s, 0, none⟩) hs hS).trans h.1, (hb.cell (p := ⟨s, 1, none⟩) hs hS).trans h.2.1, (hb.cell (p := ⟨s, 2, none⟩) hs hS).trans h.2.2.1, (hb.cell (p := ⟨s, 3, none⟩) hs hS).trans h.2.2.2⟩
theorem four0123_set {w : World} {s g : Nat} {v0 v1 v2 v3 : Value} (x0 x1 x2 x3 : Value) (hne : s ≠ g)
    (h : w.cell? ⟨s, 0, none⟩ = some (v0) ∧ w.cell? ⟨s, 1, none⟩ = some (v1) ∧ w.cell? ⟨s, 2, none⟩ = some (v2) ∧ w.cell? ⟨s, 3, none⟩ = some (v3)) :
    let w' := (((w.setCell ⟨g, 0, none⟩ x0).setCell ⟨g, 1, none⟩ x1).setCell ⟨g, 2, none⟩ x2).setCell ⟨g, 3, none⟩ x3
    w'.cell? ⟨s, 0, none⟩ = some (v0) ∧ w'.cell? ⟨s, 1, none⟩ = some (v1) ∧ w'.cell? ⟨s, 2, none⟩ = some (v2) ∧ w'.cell? ⟨s, 3, none⟩ = some (v3) :=
  ⟨(cell_set_blk (cell_set_blk (cell_set_blk (cell_set_blk h.1 hne _) hne _) hne _) hne _), (cell_set_blk (cell_set_blk (cell_set_blk (cell_set_blk h.2.1 hne _) hne _) hne _) hne _), (cell_set_blk (cell_set_blk (cell_set_blk (cell_set_blk h.2.2.1 hne _) hne _) hne _) hne _), (cell_set_blk (cell_set_blk (cell_set_blk (cell_set_blk h.2.2.2 hne _) hne _) hne _) hne _)⟩

/-- A SACK chunk as plain data. -/
def SackIs (w : World) (l : List Int) (e : Ending) (w' : World) : Prop :=
  ∃ pa pc da dc, ∃ G D : Nat, e = .returned (.tuple #[.agg #[.int .u32 (be4 l 4), .int .u32 (be4 l 8), .slice pa G pc, .slice da D dc], .bool true]) ∧
    (G : Int) = be2 l 12 ∧ (D : Int) = be2 l 14 ∧ RowAt w.heap.size w' pa G pc 2 (fun k => .int .i64 (be2 l (16 + 2 * k))) ∧ RowAt w.heap.size w' da D dc 1 (fun k => .int .u32 (be4 l (16 + 4 * G + 4 * k))) ∧ Below w.heap.size w w'

set_option maxHeartbeats 1000000 in
set_option maxRecDepth 20000 in
theorem sackOf_yes {w : World} {ao : Option Addr} {n c : Nat} {l : List Int} (h : BytesAt w ao n c l) (hs : n ≤ 2147483647) (hw : be2 l 2 = n) (h3 : l.getD 0 0 = 3) (hn : 16 ≤ n) (he16 : (n : Int) = 16 + 4 * be2 l 12 + 4 * be2 l 14) :
    Calls Tryd.prog 17 #[.slice ao n c] w (SackIs w l) := by
  have hA : Mod (fun _ => False) w (w.alloc (.cells imsk 39)) := (Mod.refl _ w).alloc _
  have HC := Lib.hid (copied_any ao n c l _ (h.mod hA (fun _ _ h => h)) hs)
  have HW := Lib.hid hw; have H3 := Lib.hid h3; have H16 := Lib.hid he16
  have HbA := Lib.hid (heap_new w (.cells imsk 39))
  have bg := be2_bound h.byte 12
  have bd := be2_bound h.byte 14
  have HBY := Lib.hid (fun k => be2_bound h.byte k)
  clear h hw h3 he16 hA
  go_enter Tryd.func17, Tryd.ntmps17
  go_wp2_with fail
  refine HC.out.mono ?_
  rintro e w1 ⟨a1, c1, rfl, hB, hf, hc1, hL1⟩
  obtain ⟨b, off, rfl, hCh⟩ := hB.chunk (by omega) hs hc1
  have HC2 := Lib.hid (zzsk_yes hCh HW.out H3.out hn H16.out)
  have HbA1 : Hid (w1.heap[w.heap.size]? = some (.cells imsk 39 (0, 0))) := Lib.hid ((hL1.block _ (by simp)).trans HbA.out)
  have hz1 : w.heap.size < w1.heap.size := by have := hL1.size; simp at this; omega
  have HL1 := Lib.hid (((Below.refl w.heap.size w).alloc (Nat.le_refl _) (.cells imsk 39)).trans (hL1.mono (by simp)))
  clear hB hCh hf hL1
  go_wp2_with fail
  refine HC2.out.mono ?_
  rintro e w2 ⟨ga, gc, db, G, D, rfl, hG, hD, hrg, hrd, hL2⟩
  have G1 : G < 65536 := by have := bg.2; omega
  have D1 : D < 65536 := by have := bd.2; omega
  have HL2 := Lib.hid (HL1.out.trans (hL2.mono (by omega)))
  have HbA2 : Hid (w2.heap[w.heap.size]? = some (.cells imsk 39 (0, 0))) := Lib.hid ((hL2.block _ hz1).trans HbA1.out)
  have hz2 : w.heap.size < w2.heap.size := by have := hL2.size; omega
  obtain ⟨t, ht⟩ : ∃ t, t = be4 l 4 := ⟨_, rfl⟩
  obtain ⟨u, hu⟩ : ∃ u, u = be4 l 8 := ⟨_, rfl⟩
  rw [← ht, ← hu]
  have HT := Lib.hid ht; have HU := Lib.hid hu
  have HG := Lib.hid hG; have HD := Lib.hid hD; have HRG := Lib.hid hrg; have HRD := Lib.hid hrd
  obtain ⟨i0, hi, hz0, hzz1, hzz2⟩ := info_parts info27s
  clear ht hu hG hD hrg hrd hL2 bg bd
  go_wp2_with fail
  have HbA3 : Hid ((w2.alloc (.cells #[.int .u32 t, .int .u32 u, .slice ga G gc, .slice (some ⟨db, 0, none⟩) D D] 65)).heap[w.heap.size]? = some (.cells imsk 39 (0, 0))) := Lib.hid ((heap_alloc_old w2 _ hz2).trans HbA2.out)
  have HbS : Hid ((w2.alloc (.cells #[.int .u32 t, .int .u32 u, .slice ga G gc, .slice (some ⟨db, 0, none⟩) D D] 65)).heap[w2.heap.size]? = some (.cells #[.int .u32 t, .int .u32 u, .slice ga G gc, .slice (some ⟨db, 0, none⟩) D D] 65 (0, 0))) := Lib.hid (heap_new w2 _)
  have HL3 : Hid (Below w.heap.size w (w2.alloc (.cells #[.int .u32 t, .int .u32 u, .slice ga G gc, .slice (some ⟨db, 0, none⟩) D D] 65))) := Lib.hid (HL2.out.alloc (by omega) _)
  have MA : Mod (fun _ => False) w2 (w2.alloc (.cells #[.int .u32 t, .int .u32 u, .slice ga G gc, .slice (some ⟨db, 0, none⟩) D D] 65)) := (Mod.refl _ w2).alloc _
  have HRG3 := Lib.hid ((HRG.out.mod MA (fun _ h => h.elim)).mono (Nat.le_of_lt hz1))
  have HRD3 := Lib.hid ((HRD.out.mod MA (fun _ h => h.elim)).mono (Nat.le_of_lt hz1))
  have hz3 : w2.heap.size < (w2.alloc (.cells #[.int .u32 t, .int .u32 u, .slice ga G gc, .slice (some ⟨db, 0, none⟩) D D] 65)).heap.size := by simp
  clear MA
  generalize hW3 : World.alloc w2 _ = w3 at *
  have hs43 : w2.heap.size ≠ w.heap.size := by omega
  have hz3w : w.heap.size < w3.heap.size := by omega
  clear hW3
  have d0 : w3.cell? ⟨w2.heap.size, 0, none⟩ = some (.int .u32 t) := by rw [cell_of_block HbS.out]; rfl
  have d1 : w3.cell? ⟨w2.heap.size, 1, none⟩ = some (.int .u32 u) := by rw [cell_of_block HbS.out]; rfl
  have d2 : w3.cell? ⟨w2.heap.size, 2, none⟩ = some (.slice ga G gc) := by rw [cell_of_block HbS.out]; rfl
  have d3 : w3.cell? ⟨w2.heap.size, 3, none⟩ = some (.slice (some ⟨db, 0, none⟩) D D) := by rw [cell_of_block HbS.out]; rfl
  have SD : w3.drew.cell? ⟨w2.heap.size, 0, none⟩ = some (.int .u32 t) ∧ w3.drew.cell? ⟨w2.heap.size, 1, none⟩ = some (.int .u32 u) ∧ w3.drew.cell? ⟨w2.heap.size, 2, none⟩ = some (.slice ga G gc) ∧ w3.drew.cell? ⟨w2.heap.size, 3, none⟩ = some (.slice (some ⟨db, 0, none⟩) D D) := ⟨d0, d1, d2, d3⟩
  have SD := Lib.hid SD
  clear d0 d1 d2 d3 HC HC2
  go_region_held3 (fun w' => w'.cell? ⟨w2.heap.size, 0, none⟩ = some (.int .u32 t) ∧ w'.cell? ⟨w2.heap.size, 1, none⟩ = some (.int .u32 u) ∧ w'.cell? ⟨w2.heap.size, 2, none⟩ = some (.slice ga G gc) ∧ w'.cell? ⟨w2.heap.size, 3, none⟩ = some (.slice (some ⟨db, 0, none⟩) D D)) (first | with_reducible exact SD.out | with_reducible exact S4 | with_reducible exact S5 | with_reducible exact four0123_set _ _ _ _ hs43 S5) (first | (go_at_call 30; refine (pairs_any (w := w3.drew) (f := fun k => be2 l (16 + 2 * k)) HRG3.out G1 (fun k => HBY.out _)).mono ?_; rintro e w4 ⟨pa, pc, rfl, hr, hx⟩; have MA : Mod (fun _ => False) w3 w4 := (Mod.refl _ w3).drew.trans (Mod.of_below hx); have S4 := four0123_mod MA hz3 (fun h => h) SD.out; have HPA4 := Lib.hid hr) | (refine step_append_any _ (by rfl) _ _ 37 (by rfl) w3.heap.size 27 i0 (.int .u32 0) 1 4 Tryd.underlying37 hi hz0 hzz1 hzz2 rfl (by decide) _ 0 [] (by rfl) (World.ownsRow_nil _ _ _ _) ⟨db, 0, none⟩ D D ((List.range (D * 1)).map (fun k => .int .u32 (be4 l (16 + 4 * G + 4 * k)))) (by rfl) (by simp) (HRD3.out.mod MA (fun _ h => h.elim)).news (by simp [Value.oneCell']) (by unfold maxLen; omega) (by omega) MA.size ?_; intro da dc w5 hown hgrow hat; have MG := Mod.of_grown hgrow; have MF := MA.trans MG; have S5 := four0123_mod MF hz3 (fun h => h) SD.out; have HbF := (MF.block _ hz3w (fun h => h)).trans HbA3.out; have s0 : w5.cell? ⟨w.heap.size, 0, none⟩ = some (.int .u32 0) := (by rw [cell_of_block HbF]; rfl); have z0 : w5.frozen? ⟨w.heap.size, 0, none⟩ = false := frozen_of_block HbF; have s1 : w5.cell? ⟨w.heap.size, 1, none⟩ = some (.int .u32 0) := (by rw [cell_of_block HbF]; rfl); have z1 : w5.frozen? ⟨w.heap.size, 1, none⟩ = false := frozen_of_block HbF; have s2 : w5.cell? ⟨w.heap.size, 2, none⟩ = some (.slice none 0 0) := (by rw [cell_of_block HbF]; rfl); have z2 : w5.frozen? ⟨w.heap.size, 2, none⟩ = false := frozen_of_block HbF; have s3 : w5.cell? ⟨w.heap.size, 3, none⟩ = some (.slice none 0 0) := (by rw [cell_of_block HbF]; rfl); have z3 : w5.frozen? ⟨w.heap.size, 3, none⟩ = false := frozen_of_block HbF; have HPA := Lib.hid (HPA4.out.mod MG (fun _ h => h.elim)); have HVD := Lib.hid hown))
  have HA5 := Lib.hid HbF
  have MF5 := Lib.hid MF
  simp only [List.nil_append] at hown
  have HVD5 := HVD
  clear S4 S5 hr hx hown hgrow hat MA MG MF HbF SD
  go_wp2_with fail
  clear s0 z0 s1 z1 s2 z2 s3 z3
  generalize hW : World.setCell _ _ _ = w6
  have hch := (heap_setCell_same (i := 3) (heap_setCell_same (i := 2) (heap_setCell_same (i := 1) (heap_setCell_same (i := 0) HA5.out (.int .u32 t)) (.int .u32 u)) (.slice pa G pc)) (.slice da D dc))
  simp only [imsk, List.setIfInBounds_toArray, List.set_cons_zero, List.set_cons_succ] at hch
  have hb : w6.heap[w.heap.size]? = some (.cells #[.int .u32 t, .int .u32 u, .slice pa G pc, .slice da D dc] 39 (0, 0)) := by rw [← hW]; exact hch
  have M : Mod (· = w.heap.size) w5 w6 := by rw [← hW]; exact (((((Mod.refl (· = w.heap.size) w5).set1 _).set1 _).set1 _).set1 _)
  clear hch hW
  have k0 : w6.cell? ⟨w.heap.size, 0, none⟩ = some (.int .u32 t) := by rw [cell_of_block hb]; rfl
  have k1 : w6.cell? ⟨w.heap.size, 1, none⟩ = some (.int .u32 u) := by rw [cell_of_block hb]; rfl
  have k2 : w6.cell? ⟨w.heap.size, 2, none⟩ = some (.slice pa G pc) := by rw [cell_of_block hb]; rfl
  have k3 : w6.cell? ⟨w.heap.size, 3, none⟩ = some (.slice da D dc) := by rw [cell_of_block hb]; rfl
  refine bodyPost_ret (v := .tuple #[.agg #[.int .u32 t, .int .u32 u, .slice pa G pc, .slice da D dc], .bool true]) (by simp [results, Tryd.results17, go_sem, k0, k1, k2, k3]) rfl ?_
  have hs3 : w3.drew.heap.size = w3.heap.size := rfl
  have hz : ∀ q : Nat, q = w.heap.size → q < w3.heap.size ∨ w5.heap.size ≤ q := fun q e => .inl (by omega)
  have hvd := HVD.out
  simp only [List.nil_append, Nat.zero_add] at hvd
  obtain ⟨da', dc', e, hrd⟩ := RowAt.of_owns hvd
  obtain ⟨rfl, rfl⟩ : da = da' ∧ dc = dc' := by simpa using e
  rw [HT.out, HU.out]
  have hb := HL3.out.trans ((Mod.below (B := w.heap.size) MF5.out (by omega) (fun _ h => h.elim)))
  exact ⟨pa, pc, da, dc, G, D, rfl, HG.out, HD.out, (HPA.out.mod M hz).mono (by omega), (hrd.mod M hz).mono (by omega), hb.trans (M.below hb.size (fun k hk => by omega))⟩
end Go.Proofs.YtnajpmdnadjipaaDoor
