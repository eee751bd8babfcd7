/- Part of the proofs of the three laws on reassembly: the script of the law on messages without an order meets what impl.Reassemble asks; conditions: as each theorem states. -/
import Derived.Test.YtmniikihkpikdaaDoorM36
namespace Go.Proofs.YtmniikihkpikdaaDoor
open Go.RowKit
set_option linter.unusedVariables false

theorem un_push {B : Nat} {f si : Int} {m : Nat} {cs : List Ck} {pcb : Pc} {b : List Int} {s : Nat} (hU : UnP b s m cs pcb) (hm : m ≤ 900) {q j : Nat} {c : Ck} {w : World} (h : UState B f si m ((cs.take j).map (·.pc)) j q w) (hc : CkAt w f si c) (hj : j < m + 1) (hcj : c.pc = (cs.getD j default).pc) (hpos : 0 < c.pc.bytes.length) (hB : B ≤ w.heap.size) :
    Calls Tryd.prog 19 #[ptr q, ptr c.b] w fun e w' => (∃ r : Bool, e = .returned (.tuple #[.bool r, Value.nilIface])) ∧ (UState B f si m ((cs.take j).map (·.pc) ++ [c.pc]) (j + 1) q w' ∧ Kp B w w') := by
  have hcl := hU.len
  have hDl : ((cs.take j).map (·.pc)).length = j := by rw [List.length_map, List.length_take]; omega
  have hsm := hc.small
  rcases h with ⟨hjm, x, L, rfl, hUQ, hV4, hord, hns, hperm, hO, hnb⟩ | ⟨rfl, x, t, rfl, hUD, hns, hperm, hO, hppi, hnb⟩ | ⟨rfl, _⟩
  · have hp := hU.at hjm
    rw [← hcj] at hp
    have hLl : L.length = j := by have := hperm.length_eq; rw [List.length_map, hDl] at this; exact this
    have hnew : ∀ y ∈ L, y.pc.p ≠ c.pc.p := fun y hy e => by
      have h1 : y.pc ∈ (cs.take j).map (·.pc) := hperm.mem_iff.1 (List.mem_map.2 ⟨y, hy, rfl⟩)
      obtain ⟨z, hz, ez⟩ := List.mem_map.1 h1
      obtain ⟨i, hi, rfl⟩ := List.getElem_of_mem hz
      have hij : i < j := by have := hi; rw [List.length_take] at this; omega
      have nd := hU.nodup
      rw [List.Nodup, List.pairwise_iff_getElem] at nd
      have := nd i j (by rw [List.length_map, List.length_map, List.length_take]; omega) (by rw [List.length_map, List.length_map, List.length_take]; omega) hij
      simp only [List.getElem_map, List.getElem_take] at this
      rw [List.getElem_take] at ez
      apply this
      rw [ez, e, hcj, List.getD_eq_getElem?_getD, List.getElem?_eq_getElem (by omega : j < cs.length)]
      rfl
    refine (pushU_any hUQ hV4 hord hc hp.un hO hp.beg hp.fin hp.rng hnew (by omega) hm (by omega) hB).mono ?_
    rintro e w' ⟨hr, x', L', e1, e2, e3, e4, e5, e6, hK, hcase⟩
    have hp4 : (L'.map (·.pc)).Perm ((cs.take j).map (·.pc) ++ [c.pc]) := by
      have := e4.map (·.pc)
      rw [List.map_append, List.map_cons, List.map_nil] at this
      exact this.trans (hperm.append_right _)
    refine ⟨hr, ?_, hK⟩
    rcases hcase with ⟨h1, hUQ', hV4'⟩ | ⟨h1, t, hUD, htl, htk, htp⟩
    · exact .inl ⟨by have := e4.length_eq; simp at this; omega, x', L', e1, hUQ', hV4', e3, e2.trans hns, hp4, e5, by rw [e6]; omega⟩
    · refine .inr (.inl ⟨by have := e4.length_eq; simp at this; omega, x', t, e1, hUD, e2.trans hns, by rw [htl]; exact hp4, by rw [htl]; exact e5, ?_, by rw [e6]; omega⟩)
      have hL0 : 0 < L'.length := by have := e4.length_eq; simp at this; omega
      have h0 : L'.getD 0 default ∈ L' := by rw [List.getD_eq_getElem?_getD, List.getElem?_eq_getElem hL0]; exact List.getElem_mem _
      rw [htp]
      have h2 := hp4.mem_iff.1 (List.mem_map.2 ⟨_, h0, rfl⟩)
      rcases List.mem_append.1 h2 with h3 | h3
      · obtain ⟨z, hz, ez⟩ := List.mem_map.1 h3
        obtain ⟨i, hi, rfl⟩ := List.getElem_of_mem hz
        have hi' : i < j := by have := hi; rw [List.length_take] at this; omega
        have := hU.at (j := i) (by omega)
        rw [List.getD_eq_getElem?_getD, List.getElem?_eq_getElem (by omega : i < cs.length)] at this
        rw [← ez, List.getElem_take]
        exact this.proto
      · rw [List.mem_singleton.1 h3]; exact hp.proto
  · have hlast := hU.last
    rw [← hcj] at hlast
    obtain ⟨hQ, hord, hS, ub, uc, hv4, huc, hub, hubgo⟩ := hUD
    refine (pushO_newM hQ hc (by rw [hlast]; exact hU.un) (fun t ht => by rw [hord] at ht; cases ht) hns (by rw [hord]; exact Nat.succ_pos _) (by omega) hB).mono ?_
    rintro e w' ⟨hr, go, co, ord, t0, hQ', _, _, htl, hperm', _, hK, hM⟩
    rw [hord, List.nil_append] at hperm'
    have hord' : ord = [t0] := List.perm_singleton.1 hperm'
    refine ⟨hr, .inr (.inr ⟨rfl, { x with go := go, co := co, ord := ord, nb := x.nb + c.pc.bytes.length }, t, rfl, ⟨hQ', ⟨t0, hord', ?_, ?_⟩, ?_, ub, uc, hv4, huc, ?_⟩, hns, by rw [List.take_left' hDl]; exact hperm, hO, hppi, ?_⟩), hK⟩
    · rw [htl]
      rintro ⟨_, _, hf, _⟩
      have hf : c.pc.fin = true := hf
      rw [hlast, hU.fin] at hf; cases hf
    · intro y hy
      rw [htl] at hy
      obtain rfl := List.mem_singleton.1 hy
      exact hpos
    · have h1 := hQ.set_ne_q hS
      have h2 := hQ.set_ne_go hS
      exact hS.mod hM (fun e => by rcases e with e | e; exact h2.1 e; exact h1.1 e) (fun e => by rcases e with e | e; exact h2.2 e; exact h1.2 e) (fun c hc => (hS.ck c hc).kp hK)
    · refine owned_modS hub hM (fun k e hk => ?_)
      have e : ub = k := by simpa [Value.ownBlock] using e
      rcases hk with hk | hk
      · exact hubgo (e.trans hk)
      · obtain ⟨_, cs', hg, _, _⟩ := own_row hub
        exact ne_of_type hQ.blk hg (by decide) (hk.symm.trans e.symm)
    · have := hperm.length_eq; rw [List.length_map, hDl] at this; exact this
  · omega

/-- What is known before the two reads. -/
def RIu (B : Nat) (f si : Int) (b : List Int) (q j : Nat) (w : World) : Prop :=
  (B ≤ q ∧ ∃ c, w.heap[q]? = some (Obj.cells c 64 (0, 0))) ∧
  (j = 0 → ∃ (x : RSt) (t : SetSt) (ub uc : Nat) (tb : SetSt), x.q = q ∧ RAt w B f si x ∧ x.v4 = .slice (some ⟨ub, 0, none⟩) 1 uc ∧ 1 ≤ uc ∧ w.ownsRow B 72 1 (.slice (some ⟨ub, 0, none⟩) 1 uc) 1 [ptr t.s] ∧ SetAt w B f si t ∧ allBytes t.l = b ∧ t.ppi = 50 ∧ (∀ c ∈ t.l, 0 < c.pc.bytes.length) ∧ x.ord = [tb] ∧ ¬ Compl tb.l) ∧
  (j = 1 → ∃ (x : RSt) (tb : SetSt), x.q = q ∧ RAt w B f si x ∧ (∃ a4 c4, x.v4 = .slice a4 0 c4) ∧ x.ord = [tb] ∧ ¬ Compl tb.l)
def unRes (b : List Int) (j : Nat) : Res := if j = 0 then some (b, 50) else none

theorem un_hyp {W : World} {f si : Int} {cs : List Ck} {pcb : Pc} {b : List Int} {s m : Nat} (hU : UnP b s m cs pcb) (hm : m ≤ 900) (hm0 : 0 < m) (hbl : b.length ≤ 4096) (hby : ∀ c ∈ cs, 0 < c.pc.bytes.length) (hg0 : GlobErr W 0) (hg1 : GlobErr W 1) :
    ∃ QI RI, ZzHyp W f si cs 2 (fun _ => 4096) (unRes b) QI RI := by
  have b0 : 0 < W.heap.size := by obtain ⟨u, v, h⟩ := hg0; exact lt_of_cell h
  have b1 : 1 < W.heap.size := by obtain ⟨u, v, h⟩ := hg1; exact lt_of_cell h
  have hcl := hU.len
  refine ⟨QIu W.heap.size f si m cs, RIu W.heap.size f si b, ⟨?_, ?_, ?_, ?_, ?_, ?_, ?_⟩⟩
  · rintro w w' e hb hs ⟨x, he, h1, h2, h3, ⟨g, h4, h5, h6, h7⟩, h8, hQ, hB⟩
    rw [hs] at hQ h6
    refine ⟨x.q, he, ⟨by have := hB.size; omega, 0, by omega, rfl, .inl ⟨hm0, x, [], rfl, ⟨hQ, by rw [h8]; exact World.ownsRow_nil _ _ _ _, (fun c hc => by cases hc), by simp⟩, ⟨g, h4, h5, h6, h7⟩, h1, h2, List.Perm.refl _, ⟨(fun c hc => by cases hc), (fun c hc => by cases hc), (fun c hc => by cases hc), List.Pairwise.nil⟩, by rw [h3]; simp⟩⟩, hB⟩
  · rintro q D w w' ⟨hs, j, hj, hD, hst⟩ hM
    refine ⟨Nat.le_trans hs hM.size, j, hj, hD, ?_⟩
    rcases hst with ⟨h1, x, L, h2, h3, h4, h5⟩ | ⟨h1, x, t, h2, h3, h5⟩ | ⟨h1, x, t, h2, h3, h5⟩
    · exact .inl ⟨h1, x, L, h2, h3.mod' hM, h4.mod hM (fun _ h => h.elim) rfl rfl, h5⟩
    · exact .inr (.inl ⟨h1, x, t, h2, h3.mod' hM, h5⟩)
    · exact .inr (.inr ⟨h1, x, t, h2, h3.mod' hM, h5⟩)
  · rintro q D c w j ⟨hs, j', hj', hD', hst⟩ hc hj hD hcj hb
    have e1 : D.length = j := by have := congrArg List.length hD; rw [List.length_map, List.length_map, List.length_take] at this; omega
    have e2 : D.length = j' := by have := congrArg List.length hD'; rw [List.length_map, List.length_map, List.length_take] at this; omega
    obtain rfl : j = j' := by omega
    have hcm : cs.getD j default ∈ cs := by rw [List.getD_eq_getElem?_getD, List.getElem?_eq_getElem hj]; exact List.getElem_mem _
    rw [hD] at hst
    refine (push_wrap (un_push hU hm hst hc (by omega) hcj (by rw [hcj]; exact hby _ hcm) hs)).mono ?_
    rintro e w' ⟨hr, hst', hK⟩
    refine ⟨hr, ⟨Nat.le_trans hs hK.size, j + 1, by omega, ?_, ?_⟩, hK.below hs⟩
    · rw [List.map_append, hD, List.take_succ_eq_append_getElem hj, List.map_append, List.map_cons, List.map_nil, List.map_cons, List.map_nil, hcj, List.getD_eq_getElem?_getD, List.getElem?_eq_getElem hj]
      rfl
    · rw [List.map_append, List.map_cons, List.map_nil, hD]; exact hst'
  · rintro q D w ⟨hs, j, hj, hD, hst⟩ hDD
    have e1 : D.length = m + 1 := by have := congrArg List.length hDD; rw [List.length_map, List.length_map] at this; omega
    have e2 : D.length = j := by have := congrArg List.length hD; rw [List.length_map, List.length_map, List.length_take] at this; omega
    rcases hst with ⟨h1, _⟩ | ⟨h1, _⟩ | ⟨h1, x, t, rfl, ⟨hQ, ⟨tb, htb, hnc, _⟩, hS, ub, uc, hv4, huc, hub⟩, hns, hperm, hO, hppi, htl⟩
    · omega
    · omega
    · rw [hDD, ← List.map_take] at hperm
      have hpp := hperm.trans hU.perm
      refine ⟨⟨hQ.qB, _, hQ.blk⟩, fun _ => ⟨⟨x.q, some ⟨x.go, 0, none⟩, x.go, 0, x.co, x.ord, x.nssn, x.v4, x.v5, x.v6, x.v7, x.v8, x.v9, x.nb⟩, t, ub, uc, tb, rfl, RAt.of_q hQ (by rw [hns]; omega), hv4, huc, hub, hS, un_bytes hU.hs hpp hO, hppi, ?_, htb, hnc⟩, fun h => by omega⟩
      intro c hc
      have := hpp.mem_iff.1 (List.mem_map.2 ⟨c, hc, rfl⟩)
      have := hU.perm.mem_iff.2 this
      obtain ⟨y, hy, e⟩ := List.mem_map.1 this
      rw [← e]; exact hby y (List.mem_of_mem_take hy)
  · rintro q j w w' ⟨⟨hq, cq, hc⟩, h0, h1⟩ hK
    refine ⟨⟨hq, cq, (hK _ _ _ hc (by unfold rT; decide)).trans hc⟩, fun hj => ?_, fun hj => ?_⟩
    · obtain ⟨x, t, ub, uc, tb, a1, a2, a3, a4, a5, a6, a7⟩ := h0 hj
      exact ⟨x, t, ub, uc, tb, a1, a2.kt hK, a3, a4, own_ktT a5 hK (by unfold rT; decide), a6.kt hK, a7⟩
    · obtain ⟨x, tb, a1, a2, a3⟩ := h1 hj
      exact ⟨x, tb, a1, a2.kt hK, a3⟩
  · rintro q j w h
    exact h.1
  · rintro q j w hj ⟨⟨hq, cq, hcq⟩, h0, h1⟩ hb
    have hM : Mod (fun _ => False) w (w.alloc (.cells (madeCells #[.int .u8 0] 4096) 5)) := (Mod.refl _ w).alloc _
    have hsB := hb.size
    have g0' := (glob_below hg0 hb b0).mod hM (fun h => h)
    have g1' := (glob_below hg1 hb b1).mod hM (fun h => h)
    have hbuf := heap_new w (.cells (madeCells #[.int .u8 0] 4096) 5)
    have hug : ∀ (y : SetSt), SetAt w W.heap.size f si y → ∀ c ∈ y.l, c.ug ≠ w.heap.size := fun y hy c hc e => by
      obtain ⟨cur, hu, _⟩ := (hy.ck c hc).usr
      have := (Array.getElem?_eq_some_iff.1 hu).1
      omega
    rcases (show j = 0 ∨ j = 1 by omega) with rfl | rfl
    · obtain ⟨x, t, ub, uc, tb, rfl, hA, hv4, huc, hub, hS, hab, hppi, hpos, hord, hnc⟩ := h0 rfl
      have hA' := hA.same hM
      have hS' := hS.mod hM (fun h => h) (fun h => h) (fun c hc => (hS.ck c hc).mod' hM)
      have hub' := own_cells (owned_mod hub hM) 0 _ rfl
      refine (read_un hA' g1' hv4 huc hub' hS' hbuf (by simp [madeCells]) (by omega) (fun y hy c hc => hug y (hA.sets y hy) c hc) (hug t hS) hpos (by omega) (by rw [← all_len, hab]; exact hbl)).mono ?_
      rintro e w' ⟨rfl, hF, ⟨a4, c4, nb, hA''⟩, hMM⟩
      refine ⟨⟨⟨hq, _, hA''.blk⟩, (fun h => by omega), fun _ => ⟨{ x with v4 := .slice a4 0 c4, nb := nb }, tb, rfl, hA'', ⟨a4, c4, rfl⟩, hord, hnc⟩⟩, hMM, .inr ⟨b, 50, rfl, hbl, by rw [hppi, ← all_len, hab], by rw [← all_len, hab] at hF; exact hF⟩⟩
    · obtain ⟨x, tb, rfl, hA, ⟨a4, c4, hv4⟩, hord, hnc⟩ := h1 rfl
      have hA' := hA.same hM
      refine (read_none hA' g0' hv4 (.inr ⟨tb, [], hord, .inl hnc⟩)).mono ?_
      rintro e w' ⟨⟨u, v, rfl⟩, hsm⟩
      have hA'' := hA'.same hsm.mod
      exact ⟨⟨⟨hq, _, hA''.blk⟩, (fun h => by omega), fun h => by omega⟩, hsm.mod.mono (fun _ h => h.elim), .inl ⟨rfl, _, u, v, rfl⟩⟩
end Go.Proofs.YtmniikihkpikdaaDoor
