/- Part of the proof of laws.FnForwardAny: what ZZForwardOf and impl.ForwardOf return where the chunk is right; conditions: as each theorem states. -/
import Derived.Test.YtnajpmdnadjipaaDoorK2
import Derived.Test.YtnajpmdnadjipaaDoorJ6
namespace Go.Proofs.YtnajpmdnadjipaaDoor
open Go.RowKit
set_option linter.unusedVariables false

/-- An append in a plain region, the new value in the form of a slice. -/
theorem wpList_append_any {P : Program} (w : World) {ops : Array Oper} {rest : List Oper} {o : Oper} {a : Act} {Q : Exit → Act → World → Prop} (hgd : o.guard = none) (s x : Operand) (t : TypeId)
    (ho : o.op = .call { callee := .builtin .append, args := #[s, x], argTypes := #[t, t] })
    (base : Nat) (e : TypeId) (i : TypeInfo) (z : Value) (size bytes : Nat) (ht : P.underlying t = some (.slice e)) (hi : P.info? e = some i) (hz : i.zero = some z)
    (hsize : i.size = size) (hby : i.bytes = bytes) (hzs : z.cells.size = size) (hsz : 0 < size)
    (v : Value) (n : Nat) (xs : List Value) (hs : a.eval s = v) (hown : w.ownsRow base e size v n xs)
    (ad : Addr) (m c : Nat) (news : List Value) (hx : a.eval x = .slice (some ad) m c) (hl : news.length = m * size) (hnews : ∀ j u, news[j]? = some u → w.cell? (ad.add j) = some u) (h1 : ∀ u ∈ news, u.oneCell' = true)
    (h63 : n + m ≤ maxLen) (hbytes : (n + m) * bytes ≤ 140737488355328) (hbase : base ≤ w.heap.size)
    (h : ∀ ao cap w', w'.ownsRow base e size (.slice ao (n + m) cap) (n + m) (xs ++ news) → w.grownBy w' v.ownBlock → wpList P ops Q rest (a.put o.dst (.slice ao (n + m) cap)) w') : wpList P ops Q (o :: rest) a w :=
  wpList_append_own w hgd s x t ho base e i z size bytes ht hi hz hsize hby hzs hsz v n xs hs hown ad m c news hx hl hnews h1 h63 hbytes hbase fun v' w' h2 h3 _ => by
    obtain ⟨ao, cap, rfl⟩ : ∃ ao cap, v' = .slice ao (n + m) cap := by
      rcases h2.2 with ⟨e, h0⟩ | ⟨g, cap, _, e, _⟩
      · exact ⟨none, 0, by rw [h0]; exact e⟩
      · exact ⟨_, cap, e⟩
    exact h ao cap w' h2 h3

/-- What ZZForwardOf's loop leaves. -/
structure ZfSt (w wr : World) (q : Nat) (t : Int) (v : Value) (l : List Int) (j : Nat) : Prop where
  mod : Mod (· = q) w wr
  blk : wr.heap[q]? = some (.cells #[.int .u32 t, v] 73 (0, 0))
  row : wr.ownsRow w.heap.size 97 2 v j ((List.range (j * 2)).map (gap16 l 8))
  lt : q < w.heap.size
def ZfRel (w : World) (q : Nat) (t : Int) (l : List Int) (S : Nat) (i : Value) (wr : World) : Prop :=
  ∃ j : Nat, ∃ v : Value, j ≤ S ∧ i = .int .i64 j ∧ ZfSt w wr q t v l j
theorem ZfSt.next {w wr y w4 : World} {q : Nat} {t : Int} {v : Value} {l : List Int} {j : Nat} (h : ZfSt w wr q t v l j) {o o' : Obj} (hy : y = (wr.alloc o).alloc o') {va : Option Addr} {vc : Nat} {a b : Value} (ha : a = gap16 l 8 (j * 2)) (hb : b = gap16 l 8 (j * 2 + 1))
    (hown : w4.ownsRow w.heap.size 97 2 (.slice va (j + 1) vc) (j + 1) ((List.range (j * 2)).map (gap16 l 8) ++ [a, b])) (hg : y.grownBy w4 v.ownBlock) :
    ZfSt w (w4.setCell ⟨q, 1, none⟩ (.slice va (j + 1) vc)) q t (.slice va (j + 1) vc) l (j + 1) := by
  have hlt := h.lt
  have my : Mod (· = q) w y := by rw [hy]; exact (h.mod.alloc _).alloc _
  have m4 : Mod (· = q) w w4 := my.grown hg (fun i e => (h.row.lt i e).1)
  have hql : q < wr.heap.size := (Array.getElem?_eq_some_iff.1 h.blk).1
  have e4 : w4.heap[q]? = some (.cells #[.int .u32 t, v] 73 (0, 0)) := by
    rw [hg.block q (by rw [hy]; simp; omega) (fun e => by have := (h.row.lt q e.symm).1; omega), hy]
    exact ((heap_alloc_old (wr.alloc o) o' (show q < (wr.alloc o).heap.size by simp; omega)).trans (heap_alloc_old wr o hql)).trans h.blk
  refine ⟨m4.set1 _, heap_setCell_same e4 _, ?_, hlt⟩
  rw [ha, hb, ← range_two] at hown
  exact own_set hown hlt

/-- A FORWARD TSN chunk, no error. -/
def FwdOk (w : World) (l : List Int) (S : Nat) (e : Ending) (w' : World) : Prop :=
  ∃ ga gc, e = .returned (.tuple #[.agg #[.int .u32 (be4 l 4), .slice ga S gc], .nilIface]) ∧ RowAt w.heap.size w' ga S gc 2 (gap16 l 8) ∧ Below w.heap.size w w'

set_option maxHeartbeats 1000000 in
set_option maxRecDepth 20000 in
theorem zzfw_yes {w : World} {b off n c S : Nat} {l : List Int} (h : ChunkAt w b off n c l) (hw : be2 l 2 = n) (hn : n = 8 + 4 * S) :
    Calls Tryd.prog 34 #[.slice (some ⟨b, off, none⟩) n c] w (FwdOk w l S) := by
  have hb := h.lt
  have hs := h.small
  have HC := Lib.hid (fw_yes (S := S) (h.mod (zzfwW_mod w) (fun h => h)) hw (w.heap.size + 1) (zzfwW_q w) (by omega) hn)
  have HR := Lib.hid (zzfwW_r w)
  have HZ : Hid ((zzfwW w).heap.size = w.heap.size + 2) := Lib.hid (by simp [zzfwW])
  have hS1 : S ≤ 536870912 := by omega
  clear h hw hn
  go_enter Tryd.func34, Tryd.ntmps34
  go_wp2_with fail
  refine HC.out.mono ?_
  rintro e w1 ⟨rfl, hM, x, f, raw, v, hb1, hrow⟩
  have hzz := HZ.out
  have r1 : w1.heap[w.heap.size]? = some (.cells zzfw 73 (0, 0)) := (hM.block _ (by omega) (by omega)).trans HR.out
  have HL := Lib.hid (Below.of_zzfw hM)
  obtain ⟨va, vc, rfl, hsrc⟩ := RowAt.of_owns hrow
  obtain ⟨t, ht⟩ : ∃ t, t = be4 l 4 := ⟨_, rfl⟩
  rw [← ht] at hb1
  have HT := Lib.hid ht
  have hz1 : w.heap.size + 2 ≤ w1.heap.size := by have := hM.size; omega
  have d3 : w1.cell? ⟨w.heap.size + 1, 3, none⟩ = some (.int .u32 t) := by rw [cell_of_block hb1]; rfl
  have d4 : w1.cell? ⟨w.heap.size + 1, 4, none⟩ = some (.slice va S vc) := by rw [cell_of_block hb1]; rfl
  have hq1 : w.heap.size + 1 < w1.heap.size := by omega
  have HS := Lib.hid hsrc
  have MA : Hid (Mod (fun _ => False) w1 (w1.alloc (.cells #[.int .u32 t, .slice none 0 0] 73))) := Lib.hid ((Mod.refl _ w1).alloc _)
  have R1 := Lib.hid ((heap_alloc_old w1 (.cells #[.int .u32 t, .slice none 0 0] 73) (r := w.heap.size) (by omega)).trans r1)
  have ST : Hid (ZfSt (w1.alloc (.cells #[.int .u32 t, .slice none 0 0] 73)) (w1.alloc (.cells #[.int .u32 t, .slice none 0 0] 73)) w1.heap.size t (.slice none 0 0) l 0) := Lib.hid ⟨Mod.refl _ _, heap_new w1 _, World.ownsRow_nil _ _ _ _, by simp⟩
  have HL1 := Lib.hid (HL.out.alloc (by omega) (.cells #[.int .u32 t, .slice none 0 0] 73))
  have hsz1 : (w1.alloc (.cells #[.int .u32 t, .slice none 0 0] 73)).heap.size = w1.heap.size + 1 := by simp
  obtain ⟨i0, hi, hz0, hzz1, hzz2⟩ := info_parts info97
  clear hM hb1 hrow hsrc r1 ht hzz
  go_wp2_with fail
  generalize w1.alloc (.cells #[.int .u32 t, .slice none 0 0] 73) = wO at *
  go_loopw [28] (fun i wr => ZfRel wO w1.heap.size t l S i wr) (fun i _ => S - (intOf i).toNat)
  case atStart => exact ⟨0, _, Nat.zero_le _, rfl, ST.out⟩
  case round =>
    obtain ⟨j, v, hj, rfl, hst⟩ := hrel
    by_cases hjk : j < S
    · have hjG : (j : Int) < S := by omega
      have hsr := HS.out.mod (MA.out.fresh hst.mod (fun i e => by omega)) (fun _ h => h.elim)
      obtain ⟨g, rfl, hgc, hcg⟩ := hsr.at (by omega)
      obtain ⟨y0, hy0⟩ : ∃ y, y = be2 l (8 + 2 * (j * 2)) := ⟨_, rfl⟩
      obtain ⟨y1, hy1⟩ : ∃ y, y = be2 l (8 + 2 * (j * 2 + 1)) := ⟨_, rfl⟩
      have c0 : wr.cell? ⟨g, j * 2, none⟩ = some (.int .u16 y0) := by rw [hcg (j * 2) (by omega), hy0]; rfl
      have c1 : wr.cell? ⟨g, j * 2 + 1, none⟩ = some (.int .u16 y1) := by rw [hcg (j * 2 + 1) (by omega), hy1]; rfl
      have c2 : wr.cell? ⟨w1.heap.size, 1, none⟩ = some v := by rw [cell_of_block hst.blk]; rfl
      have f2 : wr.frozen? ⟨w1.heap.size, 1, none⟩ = false := frozen_of_block hst.blk
      have hw1r : w1.heap.size < wr.heap.size := lt_of_cell c2
      have HST := Lib.hid hst; have HY0 := Lib.hid hy0; have HY1 := Lib.hid hy1
      have w1j := wraps_i64 ((j : Int) + 1) (by omega) (by omega)
      clear hst hsr hcg hy0 hy1
      go_wp2_with (first | (at_builtin; refine wpList_append_any _ rfl _ _ 63 rfl wO.heap.size 97 i0 (.agg #[.int .u16 0, .int .u16 0]) 2 4 Tryd.underlying63 hi hz0 hzz1 hzz2 rfl (by decide) _ _ _ rfl ((HST.out.row.alloc _).alloc _) ⟨wr.heap.size + 1, 0, none⟩ 1 1 [.int .u16 y0, .int .u16 y1] rfl ?c0 ?c1 ?c2 ?c3 ?c4 ?c5 ?_))
      case c0 => rfl
      case c1 => exact two_cells _ _ (by simp)
      case c2 => simp [Value.oneCell']
      case c3 => unfold maxLen; omega
      case c4 => omega
      case c5 => have := HST.out.mod.size; simp; omega
      intro xa xc w4 hown hgrow
      rw [← hsz1] at hown
      have c3 := grown_cell ((HST.out.row.alloc _).alloc _) (p := ⟨w1.heap.size, 1, none⟩) HST.out.lt (cell_alloc (cell_alloc c2 _) _) hgrow
      have f3 := grown_frozen ((HST.out.row.alloc _).alloc _) (p := ⟨w1.heap.size, 1, none⟩) HST.out.lt (cell_alloc (cell_alloc c2 _) _) ((frozen_alloc (lt_of_cell (cell_alloc c2 _)) _).trans ((frozen_alloc (lt_of_cell c2) _).trans f2)) hgrow
      have HS2 := Lib.hid (HST.out.next rfl (a := .int .u16 y0) (b := .int .u16 y1) (by rw [HY0.out]; rfl) (by rw [HY1.out]; rfl) hown hgrow)
      clear hown hgrow c0 c1 c2 f2
      go_wp2_with fail
      go_roundw
      case rel => exact ⟨j + 1, _, hjk, by go_num, HS2.out⟩
      case measure => simp [intOf]; omega
    · obtain rfl : j = S := by omega
      have hjj : (j : Int) ≤ j := Int.le_refl _
      obtain ⟨ga, gc, rfl, hrow⟩ := RowAt.of_owns hst.row
      have hr := (hst.mod.block w.heap.size (by omega) (by omega)).trans R1.out
      have s0 : wr.cell? ⟨w1.heap.size, 0, none⟩ = some (.int .u32 t) := by rw [cell_of_block hst.blk]; rfl
      have s1 : wr.cell? ⟨w1.heap.size, 1, none⟩ = some (.slice ga j gc) := by rw [cell_of_block hst.blk]; rfl
      have r0 : wr.cell? ⟨w.heap.size, 0, none⟩ = some (.int .u32 0) := by rw [cell_of_block hr]; rfl
      have z0 : wr.frozen? ⟨w.heap.size, 0, none⟩ = false := frozen_of_block hr
      have r1 : wr.cell? ⟨w.heap.size, 1, none⟩ = some (.slice none 0 0) := by rw [cell_of_block hr]; rfl
      have z1 : wr.frozen? ⟨w.heap.size, 1, none⟩ = false := frozen_of_block hr
      have HA := Lib.hid hr
      have HRW := Lib.hid hrow
      have HMd := Lib.hid hst.mod
      clear hst hrow hr
      go_wp2_with fail
      clear s0 s1 r0 z0 r1 z1
      generalize hW : World.setCell _ _ _ = w5
      have hch := (heap_setCell_same (i := 1) (heap_setCell_same (i := 0) HA.out (.int .u32 t)) (.slice ga j gc))
      simp only [zzfw, List.setIfInBounds_toArray, List.set_cons_zero, List.set_cons_succ] at hch
      have hb : w5.heap[w.heap.size]? = some (.cells #[.int .u32 t, .slice ga j gc] 73 (0, 0)) := by rw [← hW]; exact hch
      have M : Mod (· = w.heap.size) wr w5 := by rw [← hW]; exact (((Mod.refl (· = w.heap.size) wr).set1 _).set1 _)
      clear hch hW
      have k0 : w5.cell? ⟨w.heap.size, 0, none⟩ = some (.int .u32 t) := by rw [cell_of_block hb]; rfl
      have k1 : w5.cell? ⟨w.heap.size, 1, none⟩ = some (.slice ga j gc) := by rw [cell_of_block hb]; rfl
      refine bodyPost_ret (v := .tuple #[.agg #[.int .u32 t, .slice ga j gc], .nilIface]) (by simp [results, Tryd.results34, go_sem, k0, k1]) rfl ?_
      have hz : ∀ q : Nat, q = w.heap.size → q < wO.heap.size ∨ wr.heap.size ≤ q := fun q e => .inl (by omega)
      have hbw : Below w.heap.size w wr := HL1.out.trans (HMd.out.below (by omega) (fun k e => by omega))
      rw [HT.out]
      exact ⟨ga, gc, rfl, (HRW.out.mod M hz).mono (by omega), hbw.trans (M.below hbw.size (fun k e => by omega))⟩
end Go.Proofs.YtnajpmdnadjipaaDoor
