/- Part of the proofs of the three laws on reassembly: a whole message without a place in an order is read from a queue; conditions: as each theorem states. -/
import Derived.Test.YtmniikihkpikdaaDoorM34
namespace Go.Proofs.YtmniikihkpikdaaDoor
open Go.RowKit
set_option linter.unusedVariables false

/-- What was read, and the queue behind it. -/
def ReadUn (w : World) (B : Nat) (f si : Int) (x : RSt) (t : SetSt) (g n : Nat) (e : Ending) (w' : World) : Prop :=
  e = .returned (.tuple #[.int .i64 (tot t.l), .int .u32 t.ppi, Value.nilIface]) ∧ Filled w' g n (tot t.l) (allBytes t.l) ∧ (∃ a4 c4 nb, RAt w' B f si { x with v4 := .slice a4 0 c4, nb := nb }) ∧ Mod (fun k => k = x.q ∨ k = g) w w'
theorem one_set {w : World} {q b : Nat} {cs : Array Value} {T : TypeId} {fr : Nat × Nat} {u : Value} (h : w.heap[q]? = some (.cells cs T fr)) : (w.setCell ⟨q, b, none⟩ u).heap[q]? = some (.cells (cs.setIfInBounds b u) T fr) := heap_setCell_same h u

set_option maxHeartbeats 2000000 in
set_option maxRecDepth 20000 in
theorem read_un {w : World} {B : Nat} {f si : Int} {x : RSt} {t : SetSt} {ub uc g n : Nat} {buf : Array Value} (h : RAt w B f si x) (hg1 : GlobErr w 1) (h4 : x.v4 = .slice (some ⟨ub, 0, none⟩) 1 uc) (huc : 1 ≤ uc) (hub : w.cell? ⟨ub, 0, none⟩ = some (ptr t.s)) (hS : SetAt w B f si t)
    (hbuf : w.heap[g]? = some (.cells buf 5 (0, 0))) (hbs : buf.size = n) (hn : n ≤ 100000) (hne : ∀ t ∈ x.ord, ∀ c ∈ t.l, c.ug ≠ g) (hnet : ∀ c ∈ t.l, c.ug ≠ g) (hpos : ∀ c ∈ t.l, 0 < c.pc.bytes.length) (hgg : g ≠ 1) (hroomy : tot t.l ≤ n) :
    Calls Tryd.prog 18 #[ptr x.q, .slice (some ⟨g, 0, none⟩) n n] w (ReadUn w B f si x t g n) := by
  obtain ⟨u, v, g0⟩ := hg1
  have q10 : w.cell? ⟨x.q, 10, none⟩ = some (.bool false) := h.cell 10
  have q4 : w.cell? ⟨x.q, 4, none⟩ = some (.slice (some ⟨ub, 0, none⟩) 1 uc) := by rw [h.cell 4, ← h4]; rfl
  obtain ⟨q, hq⟩ : ∃ q, q = x.q := ⟨_, rfl⟩
  rw [← hq] at q10 q4 ⊢
  unfold ptr at hub ⊢
  have ts2 : w.cell? ⟨t.s, 2, none⟩ = some (.slice (some ⟨t.g, 0, none⟩) t.l.length t.cap) := by rw [cell_of_block hS.blk]; rfl
  have hLc : t.l.length ≤ t.cap := hS.is.2.1
  have hLl := hS.len
  have hsm : ∀ c ∈ t.l, c.pc.bytes.length ≤ 4096 := fun c hc => (hS.ck c hc).small
  have htb := tot_bound t.l hsm
  have H := Lib.hid h; have HNE := Lib.hid hne; have HNET := Lib.hid hnet; have HPOS := Lib.hid hpos; have HS := Lib.hid hS; have HQ := Lib.hid hq; have HROOMY := Lib.hid hroomy
  have HBUF := Lib.hid hbuf; have HBS := Lib.hid hbs; have HG0 := Lib.hid g0; have HSM := Lib.hid hsm; have HTB := Lib.hid htb
  obtain ⟨L, hL⟩ : ∃ L, L = t.l.length := ⟨_, rfl⟩
  have HL := Lib.hid hL
  rw [← hL] at ts2 hLc hLl
  have TS2 := Lib.hid ts2; have Q4 := Lib.hid q4
  have hqs : q ≠ t.s := by rw [hq]; exact (ne_of_type hS.blk h.blk (by decide)).symm
  have hqg : q ≠ g := by rw [hq]; exact ne_of_type h.blk hbuf (by decide)
  have hsg : t.s ≠ g := ne_of_type hS.blk hbuf (by decide)
  have HQS := Lib.hid hqs; have HQG := Lib.hid hqg; have HSG := Lib.hid hsg; have HGG := Lib.hid hgg
  obtain ⟨ts, hts⟩ : ∃ ts, ts = t.s := ⟨_, rfl⟩
  have HTS := Lib.hid hts
  rw [← hts] at ts2 hub TS2 HQS HSG
  clear h hq h4 hS hne hnet hpos hbuf hbs hsm hL hqs hqg hsg hgg hts g0 htb hroomy
  go_enter Tryd.func18, Tryd.ntmps18
  go_wp2_with fail
  go_loopw [9, 10, 199] (fun v9 v10 vi wr => RdRel w g n t.l u v v9 v10 vi wr) (fun _ _ vi _ => L - (intOf vi).toNat)
  case atStart => exact ⟨0, Nat.zero_le _, rfl, rfl, by simp [errV, tot], ⟨buf, HBUF.out, HBS.out, fun _ => by simp [tot, allBytes]⟩, w, Mod.refl _ _, Same.refl w⟩
  case round =>
    obtain ⟨j, hj, rfl, rfl, rfl, hfil, w0, hmo, hsm⟩ := hrel
    rw [← HL.out] at hj
    have HFIL := Lib.hid hfil; have HMO := Lib.hid hmo; have HSMM := Lib.hid hsm
    have MR := hmo.trans (hsm.mod.mono (fun _ h => h.elim))
    have HMR := Lib.hid MR
    obtain ⟨S, hS⟩ : ∃ S, S = tot (t.l.take j) := ⟨_, rfl⟩
    have HS' := Lib.hid hS
    have hSt : S ≤ tot t.l := by rw [hS]; exact tot_le _ _
    have htb := HTB.out
    have hlL := HL.out
    have hS7 : S ≤ 30000000 := by omega
    rw [← hS]
    clear hfil hmo hsm hS htb hlL hSt
    by_cases hjn : j < L
    · have hjI : (j : Int) < L := by omega
      obtain ⟨c, hc⟩ : ∃ c, c = t.l.getD j default := ⟨_, rfl⟩
      have hjl : j < t.l.length := by rw [← HL.out]; exact hjn
      have hcm : c ∈ t.l := by rw [hc, List.getD_eq_getElem?_getD, List.getElem?_eq_getElem hjl]; exact List.getElem_mem _
      have hck := HS.out.ck c hcm
      obtain ⟨hcj, _⟩ := HS.out.is.at j hjl
      rw [← hc] at hcj
      unfold ptr at hcj
      have hub : c.b ≠ g := by exact ne_of_type hck.blk HBUF.out (by decide)
      have hgt : t.g ≠ g := by obtain ⟨_, cs, hgb⟩ := HS.out.g_blk; exact ne_of_type hgb HBUF.out (by decide)
      have hckr := hck.mod2 MR hub (HNET.out c hcm)
      have c0 : wr.cell? ⟨t.g, j, none⟩ = some (.pointer (some ⟨c.b, 0, none⟩)) := (MR.cell (lt_of_cell hcj) hgt).trans hcj
      have c14 : wr.cell? ⟨c.b, 14, none⟩ = some (.slice (some ⟨c.ug, 0, none⟩) c.pc.bytes.length c.uc) := hckr.cell 14
      have hlen := HPOS.out c hcm
      have hsml := HSM.out c hcm
      have hcuc := hck.cap
      have gg1 : wr.cell? ⟨1, 0, none⟩ = some (.iface u v) := (MR.cell (lt_of_cell HG0.out) (fun e => HGG.out e.symm)).trans HG0.out
      have hsucc := tot_succ t.l j hjl
      have hall := all_succ t.l j hjl
      rw [← hc] at hsucc hall
      rw [← HS'.out] at hsucc
      have HSU := Lib.hid hsucc; have HAL := Lib.hid hall; have HCK := Lib.hid hckr; have HC := Lib.hid hc
      obtain ⟨ln, hln⟩ : ∃ ln, ln = c.pc.bytes.length := ⟨_, rfl⟩
      have HLN := Lib.hid hln
      rw [← hln] at c14 hlen hsml hcuc
      obtain ⟨cb, hcb⟩ : ∃ cb, cb = c.b := ⟨_, rfl⟩
      rw [← hcb] at c14 c0
      have w1j := wraps_i64 ((j : Int) + 1) (by omega) (by omega)
      have hjc : (j : Int) < t.cap := by omega
      have HBG : Hid (cb ≠ g) := Lib.hid (by rw [hcb]; exact hub)
      clear hcm hck hcj hub hgt hckr hsucc hall hc hln hcb MR hjl
      have hroom : S + ln ≤ n := by
        have h1 := HSU.out
        have h2 := HLN.out
        have h3 := tot_le t.l (j + 1)
        have h4 := HROOMY.out
        omega
      · have hSn : S ≤ n := by omega
        rw [show errV u v (decide (S ≤ n)) = Value.nilIface from by simp [errV, hSn]]
        have hnn : ¬ ((n : Int) - S < ln) := by omega
        have hSlt : (S : Int) < n := by omega
        have hne' : ¬ n = S := by omega
        have hSleI : (S : Int) ≤ n := by omega
        obtain ⟨cur, hgc, hcs, hft⟩ := HFIL.out
        have HGC := Lib.hid hgc; have HCS := Lib.hid hcs; have HFT := Lib.hid (hft (by rw [← HS'.out]; exact hSn))
        obtain ⟨cu, huu, hut⟩ := HCK.out.usr
        have HSRC : Hid (∀ (k : Nat) (y : Value), (c.pc.bytes.map (Value.int .u8))[k]? = some y → wr.cell? ((⟨c.ug, 0, none⟩ : Addr).add k) = some y) := Lib.hid (fun k y hy => by
          have hk : k < c.pc.bytes.length := by have := (List.getElem?_eq_some_iff.1 hy).1; simpa using this
          rw [show (⟨c.ug, 0, none⟩ : Addr).add k = ⟨c.ug, k, none⟩ from by unfold Addr.add; split <;> simp_all, cell_of_block huu]
          rw [← hut, List.getElem?_take_of_lt hk, Array.getElem?_toList] at hy
          exact hy)
        have hwS : IntKind.i64.wrap ((S : Int) + ln) = S + ln := wraps_i64 _ (by omega) (by omega)
        have HSL : Hid ((c.pc.bytes.map (Value.int .u8)).length = Nat.min ln (n - S)) := Lib.hid (by rw [List.length_map, ← HLN.out]; exact (Nat.min_eq_left (by omega)).symm)
        have HFIT : Hid (S + (c.pc.bytes.map (Value.int .u8)).length ≤ cur.size) := Lib.hid (by rw [List.length_map, ← HLN.out, HCS.out]; exact hroom)
        clear hgc hcs hft huu hut
        go_wp2_with fail
        go_region_law (refine step_copy_mod rfl (.tmp 216) (.tmp 220) 29 29 rfl 5 Tryd.underlying29 (by kernel_rfl) ⟨c.ug, 0, none⟩ (n - S) (n - S) ln c.uc g S rfl rfl cur 5 HGC.out (c.pc.bytes.map (Value.int .u8)) HSL.out (fun k y hy => HSRC.out k y hy) HFIT.out (fun y hy => by obtain ⟨_, _, rfl⟩ := List.mem_map.1 hy; rfl) ?_; intro w4 hw4 hM4)
        have c14' : w4.cell? ⟨cb, 14, none⟩ = some (.slice (some ⟨c.ug, 0, none⟩) ln c.uc) := (hM4.cell (p := ⟨cb, 14, none⟩) (lt_of_cell c14) (fun e => HBG.out e)).trans c14
        have HW4 := Lib.hid hw4; have HM4 := Lib.hid hM4
        clear hw4 hM4
        go_wp2_with fail
        go_roundw
        case rel =>
          have e1 : tot (t.l.take (j + 1)) = S + ln := by rw [HSU.out, HLN.out]
          refine ⟨j + 1, by rw [← HL.out]; exact hjn, by go_num, by rw [e1]; go_num, by rw [e1]; simp [errV, hroom], ?_, w4, ?_, Same.refl _⟩
          · rw [e1, HAL.out]
            exact filled_next HCS.out (by rw [HS'.out]; exact HFT.out) (by rw [all_len, HS'.out]) (by rw [HLN.out]) hroom HW4.out.out
          · exact (HMR.out.drew).trans HM4.out
        case measure => simp [intOf]; omega
    · obtain rfl : j = L := by omega
      have hjj : (j : Int) ≤ j := Int.le_refl _
      have hT : S = tot t.l := by rw [HS'.out, HL.out, List.take_length]
      have HT := Lib.hid hT
      have HFL : Hid (Filled wr g n S (allBytes t.l)) := Lib.hid (by have := HFIL.out; rwa [← HS'.out, HL.out, List.take_length] at this)
      have hroom : S ≤ n := by rw [hT]; exact HROOMY.out
      clear hT hjn
      rw [show errV u v (decide (S ≤ n)) = Value.nilIface from by simp [errV, hroom]]
      have hqb : wr.heap[q]? = some (.cells (rCells si x) 64 (0, 0)) := by
        rw [HQ.out]; exact (MR.block _ (Array.getElem?_eq_some_iff.1 H.out.blk).1 (by rw [← HQ.out]; exact HQG.out)).trans H.out.blk
      have q4r : wr.cell? ⟨q, 4, none⟩ = some (.slice (some ⟨ub, 0, none⟩) 1 uc) := (MR.cell (lt_of_cell Q4.out) HQG.out).trans Q4.out
      have q4z : wr.frozen? ⟨q, 4, none⟩ = false := frozen_of_block hqb
      have tsb : wr.heap[ts]? = some (.cells #[.int .u16 t.k, .int .u32 t.ppi, .slice (some ⟨t.g, 0, none⟩) t.l.length t.cap] 81 (0, 0)) := by
        rw [HTS.out]; exact (MR.block _ (Array.getElem?_eq_some_iff.1 HS.out.blk).1 (by rw [← HTS.out]; exact HSG.out)).trans HS.out.blk
      have t1r : wr.cell? ⟨ts, 1, none⟩ = some (.int .u32 t.ppi) := by rw [cell_of_block tsb]; rfl
      have hucI : (1 : Int) ≤ uc := by omega
      have hqs := HQS.out
      have hsq : ts ≠ q := fun e => HQS.out e.symm
      have HQB := Lib.hid hqb; have HTSB := Lib.hid tsb
      clear hqb tsb MR
      by_cases hc1 : uc = 1
      all_goals
        go_wp2_with fail
        generalize hWA : World.setCell _ ⟨q, 4, none⟩ _ = wa
        have hX' : ∃ a4 c4, wa.heap[q]? = some (.cells (rCells si { x with v4 := .slice a4 0 c4 }) 64 (0, 0)) := by
          rw [← hWA]
          by_cases hc2 : uc = 1
          · first
            | exact absurd hc2 hc1
            | exact ⟨some ⟨ub, 0, none⟩, 0, by rw [one_set HQB.out]; simp [rCells]⟩
          · first
            | exact absurd hc1 hc2
            | exact ⟨some ⟨ub, 1, none⟩, uc - 1, by rw [one_set HQB.out]; simp [rCells]⟩
        have MA : Mod (fun k => k = q ∨ k = g) w wa := by
          rw [← hWA]
          exact (HMR.out.mono (fun _ e => .inr e)).setCell (p := ⟨q, 4, none⟩) (.inr (.inl rfl)) _
        have T1A : wa.cell? ⟨ts, 1, none⟩ = some (.int .u32 t.ppi) := by
          rw [← hWA, ← t1r]; exact World.cell?_of_block (heap_setCell_other (p := ⟨q, 4, none⟩) hsq _)
        have FA : Filled wa g n S (allBytes t.l) := by
          obtain ⟨cur, f1, f2, f3⟩ := HFL.out
          refine ⟨cur, ?_, f2, f3⟩
          rw [← hWA, heap_setCell_other (p := ⟨q, 4, none⟩) (fun e => HQG.out e.symm)]
          exact f1
        obtain ⟨a4, c4, hqa⟩ := hX'
        have hnb := H.out.nb
        have hSB := sub_any (q := q) (nb := x.nb) (n := S) (w := wa) (by rw [cell_of_block hqa]; rfl) (frozen_of_block hqa) hnb (by omega)
        unfold ptr at hSB
        have HSB := Lib.hid hSB; have HMA := Lib.hid MA; have HT1A := Lib.hid T1A; have HFA := Lib.hid FA; have HQA := Lib.hid hqa
        clear hWA MA T1A FA hqa hSB hnb q4r q4z t1r
        refine HSB.out.mono ?_
        rintro e w8 ⟨rfl, nb, hnb0, hnb1, hw8⟩
        have T18 : w8.cell? ⟨ts, 1, none⟩ = some (.int .u32 t.ppi) := by rw [hw8]; exact cell_set_blk HT1A.out hsq _
        have HW8 := Lib.hid hw8; have HNB0 := Lib.hid hnb0; have HNB1 := Lib.hid hnb1
        clear hw8 hnb0 hnb1
        go_wp2_with fail
        go_quiet (fail)
        go_wp2_with fail
        go_ret3
        have M8 : Mod (fun k => k = q ∨ k = g) w w8 := by rw [HW8.out]; exact HMA.out.setCell (p := ⟨q, 11, none⟩) (.inr (.inl rfl)) _
        obtain ⟨cur, f1, f2, f3⟩ := HFA.out
        have F8 : Filled w8 g n S (allBytes t.l) := ⟨cur, by rw [HW8.out, heap_setCell_other (fun e => HQG.out e.symm)]; exact f1, f2, f3⟩
        have hq8 := heap_setCell_same (i := 11) HQA.out (.int .u64 nb)
        have hqx := HQ.out
        subst hqx
        have R8 : RAt w8 B f si { x with v4 := .slice a4 0 c4, nb := nb } :=
          H.out.written M8 ⟨buf, HBUF.out⟩ HNE.out (by rw [HW8.out, hq8]; simp [rCells]) rfl rfl (fun i y hy => H.out.row i y hy) (fun y hy => hy) H.out.cap H.out.len ⟨HNB0.out, HNB1.out⟩ H.out.ns
        have hT := HT.out
        subst hT
        exact ⟨rfl, F8, ⟨a4, c4, nb, R8.same ((Mod.refl _ w8).drewN _)⟩, M8.drewN _⟩
end Go.Proofs.YtmniikihkpikdaaDoor
