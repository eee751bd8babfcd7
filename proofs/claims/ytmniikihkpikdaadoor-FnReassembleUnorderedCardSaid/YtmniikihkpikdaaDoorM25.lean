/- Part of the proofs of the three laws on reassembly: a script of pushes in order and reads meets what impl.Reassemble asks; conditions: as the theorem states. -/
import Derived.Test.YtmniikihkpikdaaDoorM24
namespace Go.Proofs.YtmniikihkpikdaaDoor
open Go.RowKit
set_option linter.unusedVariables false

theorem ord_hyp {W : World} {f si : Int} {cs : List Ck} {N : Nat} {sz : Nat → Nat} {res : Nat → Res} {R : Nat → List SetSt → Int → Prop} (hg0 : GlobErr W 0) (hg1 : GlobErr W 1)
    (hpw : (cs.map (·.pc)).Pairwise ApartP) (hun : ∀ c ∈ cs, c.pc.un = false) (hk : ∀ c ∈ cs, 0 ≤ c.pc.k ∧ c.pc.k < 100) (hby : ∀ c ∈ cs, 0 < c.pc.bytes.length) (hlen : cs.length ≤ 1500) (hsz : ∀ j, sz j ≤ 65536)
    (hR0 : ∀ ord, OrdP ord (cs.map (·.pc)) → R 0 ord 0)
    (hRs : ∀ j ord nssn, j < N → R j ord nssn → NextO N j (sz j) (res j) R ord nssn) :
    ∃ QI RI, ZzHyp W f si cs N sz res QI RI := by
  have b0 : 0 < W.heap.size := by obtain ⟨u, v, h⟩ := hg0; exact lt_of_cell h
  have b1 : 1 < W.heap.size := by obtain ⟨u, v, h⟩ := hg1; exact lt_of_cell h
  refine ⟨QIo W.heap.size f si cs, RIo W.heap.size f si N R, ⟨?_, ?_, ?_, ?_, ?_, ?_, ?_⟩⟩
  · -- a new queue
    intro w w' e hb hs ⟨x, he, h1, h2, h3, ⟨g, h4, _⟩, _, hQ, hB⟩
    rw [hs] at hQ
    refine ⟨x.q, he, ⟨by have := hB.size; omega, ⟨x, rfl, ⟨_, _, h4⟩, hQ, ?_, 0, rfl⟩⟩, hB⟩
    refine ⟨h2, (by rw [h1]; exact List.Pairwise.nil), ?_, ?_, ?_, ?_, (fun c hc => by cases hc), (by rw [h3]; simp)⟩
    all_goals (intro t ht; rw [h1] at ht; cases ht)
  · -- other memory
    intro q D w w' ⟨hs, x, h1, h2, hQ, hI, hj⟩ hM
    exact ⟨Nat.le_trans hs hM.size, x, h1, h2, hQ.mod' hM, hI, hj⟩
  · -- a push
    rintro q D c w j ⟨hs, x, rfl, ⟨a4, c4, h4⟩, hQ, hI, _⟩ hc hj hD hcj hb
    have hDl : D.length = j := by have := congrArg List.length hD; simp at this; omega
    have hcm : cs.getD j default ∈ cs := by rw [List.getD_eq_getElem?_getD, List.getElem?_eq_getElem hj]; exact List.getElem_mem _
    have hmem : ∀ d ∈ D, ∃ i, i < j ∧ ∃ h : i < cs.length, d.pc = cs[i].pc := fun d hd => by
      have : d.pc ∈ (cs.take j).map (·.pc) := by rw [← hD]; exact List.mem_map.2 ⟨d, hd, rfl⟩
      obtain ⟨y, hy, e⟩ := List.mem_map.1 this
      obtain ⟨i, hi, rfl⟩ := List.getElem_of_mem hy
      have hi' : i < j := by have := hi; rw [List.length_take] at this; omega
      refine ⟨i, hi', by omega, ?_⟩
      rw [← e, List.getElem_take]
    have hap : ∀ d ∈ D, Apart d c := fun d hd => by
      obtain ⟨i, hi, hil, e⟩ := hmem d hd
      have := List.pairwise_iff_getElem.1 hpw i j (by simpa using hil) (by simpa using hj) hi
      simp only [List.getElem_map] at this
      have ec : c.pc = cs[j].pc := by rw [hcj, List.getD_eq_getElem?_getD, List.getElem?_eq_getElem hj]; rfl
      unfold Apart
      rw [e, ec]
      exact this
    refine (push_any hQ hI hc (by rw [hcj]; exact hun _ hcm) (by omega) hap (fun d hd => ?_) hs).mono ?_
    · obtain ⟨i, _, hil, e⟩ := hmem d hd
      rw [e]; exact hk _ (List.getElem_mem _)
    · rintro e w' ⟨hr, go, co, ord, nb, hQ', hI', hK⟩
      refine ⟨hr, ⟨Nat.le_trans hs hK.size, { x with go := go, co := co, ord := ord, nb := nb }, rfl, ⟨a4, c4, h4⟩, hQ', hI', j + 1, ?_⟩, hK.below hs⟩
      rw [List.map_append, hD, List.take_succ_eq_append_getElem hj, List.map_append, List.map_cons, List.map_nil, hcj, List.getD_eq_getElem?_getD, List.getElem?_eq_getElem hj]
      rfl
  · -- the first read
    rintro q D w ⟨hs, x, rfl, ⟨a4, c4, h4⟩, hQ, hI, _⟩ hD
    refine ⟨⟨hQ.qB, _, hQ.blk⟩, fun _ => ⟨⟨x.q, some ⟨x.go, 0, none⟩, x.go, 0, x.co, x.ord, x.nssn, x.v4, x.v5, x.v6, x.v7, x.v8, x.v9, x.nb⟩, rfl, ⟨a4, c4, h4⟩, RAt.of_q hQ (by rw [hI.s0]; omega), (by show R 0 x.ord x.nssn; rw [hI.s0]; exact hR0 _ (hI.ordP hD)), fun t ht c hc => ?_⟩⟩
    have hm := (hI.mem ht hc).1
    have : c.pc ∈ cs.map (·.pc) := by rw [← hD]; exact List.mem_map.2 ⟨c, hm, rfl⟩
    obtain ⟨y, hy, e⟩ := List.mem_map.1 this
    rw [← e]; exact hby y hy
  · -- other memory
    intro q j w w' ⟨⟨hq, cq, hc⟩, h⟩ hK
    refine ⟨⟨hq, cq, (hK _ _ _ hc (by unfold rT; decide)).trans hc⟩, fun hj => ?_⟩
    obtain ⟨x, h1, h2, h3, h4, h5⟩ := h hj
    exact ⟨x, h1, h2, h3.kt hK, h4, h5⟩
  · intro q j w h
    exact h.1
  · -- a read
    intro q j w hj ⟨⟨hq, cq, hcq⟩, h⟩ hb
    obtain ⟨x, rfl, ⟨a4, c4, h4⟩, hA, hR, hpos⟩ := h hj
    have hM : Mod (fun _ => False) w (w.alloc (.cells (madeCells #[.int .u8 0] (sz j)) 5)) := (Mod.refl _ w).alloc _
    have hA' := hA.same hM
    have hsB := hb.size
    have g0' := (glob_below hg0 hb b0).mod hM (fun h => h)
    have g1' := (glob_below hg1 hb b1).mod hM (fun h => h)
    have hbuf := heap_new w (.cells (madeCells #[.int .u8 0] (sz j)) 5)
    have hne : ∀ t ∈ x.ord, ∀ c ∈ t.l, c.ug ≠ w.heap.size := fun t ht c hc e => by
      obtain ⟨cur, hu, _⟩ := ((hA.sets t ht).ck c hc).usr
      have := (Array.getElem?_eq_some_iff.1 hu).1
      omega
    have hqt : ∀ w', Mod (fun k => k = x.q ∨ k = w.heap.size) (w.alloc (.cells (madeCells #[.int .u8 0] (sz j)) 5)) w' → ∀ y : RSt, y.q = x.q → RAt w' W.heap.size f si y → W.heap.size ≤ x.q ∧ ∃ c, w'.heap[x.q]? = some (Obj.cells c 64 (0, 0)) := fun w' _ y hy hA => ⟨hq, _, by rw [← hy]; exact hA.blk⟩
    rcases hRs j x.ord x.nssn hj hR with ⟨hres, hR', hcase⟩ | ⟨t, r, hx, hC, hk', hcase⟩
    · refine (read_none hA' g0' h4 hcase).mono ?_
      rintro e w' ⟨⟨u, v, rfl⟩, hsm⟩
      have hA'' := hA'.same hsm.mod
      refine ⟨⟨⟨hq, _, hA''.blk⟩, fun _ => ⟨x, rfl, ⟨a4, c4, h4⟩, hA'', hR', hpos⟩⟩, hsm.mod.mono (fun _ h => h.elim), .inl ⟨hres, _, u, v, rfl⟩⟩
    · refine (read_ord hA' g1' h4 hx hC hk' hbuf (by simp [madeCells]) (by have := hsz j; omega) hne (fun c hc => hpos t (by rw [hx]; simp) c hc) (by omega)).mono ?_
      rintro e w' (⟨hroom, rfl, hF, ⟨ao, o, c, nb, hA''⟩, hMM⟩ | ⟨hroom, ⟨u, v, rfl⟩, hMM⟩)
      · rcases hcase with ⟨h1, _⟩ | ⟨h1, hres, hR'⟩
        · omega
        · refine ⟨⟨⟨hq, _, hA''.blk⟩, fun _ => ⟨{ x with ao := ao, o := o, c := c, ord := r, nssn := x.nssn + 1, nb := nb }, rfl, ⟨a4, c4, h4⟩, hA'', hR', fun s hs c hc => hpos s (by rw [hx]; exact List.mem_cons_of_mem _ hs) c hc⟩⟩, hMM, .inr ⟨allBytes t.l, t.ppi, hres, by rw [all_len]; exact hroom, by rw [all_len], by rw [all_len]; exact hF⟩⟩
      · rcases hcase with ⟨h1, hres, hN⟩ | ⟨h1, _⟩
        · have hqg : x.q ≠ w.heap.size := by
            have := (Array.getElem?_eq_some_iff.1 hA.blk).1
            omega
          refine ⟨⟨⟨hq, _, (hMM.block _ (Array.getElem?_eq_some_iff.1 hA'.blk).1 hqg).trans hA'.blk⟩, fun hj' => by omega⟩, hMM.mono (fun _ e => .inr e), .inl ⟨hres, _, u, v, rfl⟩⟩
        · omega
end Go.Proofs.YtmniikihkpikdaaDoor
