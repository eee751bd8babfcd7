/- Part of the proofs of the three laws on reassembly: a chunk in order is pushed to a queue that has its message's set; conditions: as each theorem states. -/
import Derived.Test.YtmniikihkpikdaaDoorM7
namespace Go.Proofs.YtmniikihkpikdaaDoor
open Go.RowKit
set_option linter.unusedVariables false

/-- What a push of a chunk of a message that is there leaves. -/
def PushOld (w : World) (B : Nat) (f si : Int) (x : QSt) (i : Nat) (c : Ck) (e : Ending) (w' : World) : Prop :=
  (∃ r : Bool, e = .returned (.tuple #[.bool r, Value.nilIface])) ∧ ∃ t', t'.s = (x.ord.getD i default).s ∧ t'.k = (x.ord.getD i default).k ∧ t'.ppi = (x.ord.getD i default).ppi ∧ t'.l.Perm ((x.ord.getD i default).l ++ [c]) ∧ t'.l.Pairwise (fun a b => a.pc.p ≤ b.pc.p) ∧
    QAt w' B f si { x with ord := x.ord.set i t', nb := x.nb + c.pc.bytes.length } ∧ Kp B w w'

set_option maxHeartbeats 2000000 in
set_option maxRecDepth 20000 in
theorem pushO_old {w : World} {B : Nat} {f si : Int} {x : QSt} {c : Ck} {i : Nat} (h : QAt w B f si x) (hc : CkAt w f si c) (hun : c.pc.un = false) (hi : i < x.ord.length) (hk : ∀ j, j < i → (x.ord.getD j default).k ≠ c.pc.k) (hki : (x.ord.getD i default).k = c.pc.k)
    (hfc : c.pc.frag = true) (hne : (x.ord.getD i default).l ≠ []) (hf0 : ((x.ord.getD i default).l.getD 0 default).pc.frag = true) (hts : ∀ y ∈ (x.ord.getD i default).l, y.pc.p ≠ c.pc.p) (hll : (x.ord.getD i default).l.length < 4000)
    (hs0 : x.nssn = 0) (hl : x.ord.length < 900) (hnb : x.nb ≤ 90000000) (hB : B ≤ w.heap.size) :
    Calls Tryd.prog 19 #[ptr x.q, ptr c.b] w (PushOld w B f si x i c) := by
  obtain ⟨T, hT⟩ : ∃ T, T = x.ord.getD i default := ⟨_, rfl⟩
  have hTi : x.ord[i]? = some T := by rw [hT, List.getD_eq_getElem?_getD, List.getElem?_eq_getElem hi]; rfl
  rw [← hT] at hki hne hf0 hts hll
  have HTI := Lib.hid hTi; have HTT := Lib.hid hT; have HK := Lib.hid hk; have HKI := Lib.hid hki; have HNL := Lib.hid hne; have HF0 := Lib.hid hf0; have HTS := Lib.hid hts; have HLL := Lib.hid hll
  have HIL := Lib.hid hi
  clear hTi hT hk hki hne hf0 hts hll hi
  have HD := Lib.hid (isIData_any hc)
  have HQ := Lib.hid h; have HC := Lib.hid hc
  have hL := fun w => lt16 c.pc.k 0 w (by have := hc.kb; omega) (by omega)
  rw [show decide (c.pc.k < 0) = false from by have := hc.kb; simp; omega] at hL
  have c9 : w.cell? ⟨c.b, 9, none⟩ = some (.int .u16 si) := hc.cell 9
  have c4 : w.cell? ⟨c.b, 4, none⟩ = some (.bool false) := by rw [hc.cell 4, ← hun]; rfl
  have c10 : w.cell? ⟨c.b, 10, none⟩ = some (.int .u16 c.pc.k) := hc.cell 10
  have q0 : w.cell? ⟨x.q, 0, none⟩ = some (.int .u16 si) := h.cell 0
  have q1 : w.cell? ⟨x.q, 1, none⟩ = some (.int .u16 0) := by rw [h.cell 1, ← hs0]; rfl
  have q3 : w.cell? ⟨x.q, 3, none⟩ = some (.slice (some ⟨x.go, 0, none⟩) x.ord.length x.co) := h.cell 3
  obtain ⟨b, hb⟩ : ∃ b, b = c.b := ⟨_, rfl⟩
  obtain ⟨q, hq⟩ : ∃ q, q = x.q := ⟨_, rfl⟩
  obtain ⟨k, hk⟩ : ∃ k, k = c.pc.k := ⟨_, rfl⟩
  obtain ⟨m, hm⟩ : ∃ m, m = x.ord.length := ⟨_, rfl⟩
  obtain ⟨fr, hfr⟩ : ∃ fr, fr = c.pc.frag := ⟨_, rfl⟩
  unfold ptr at HD ⊢
  rw [← hb] at HD c9 c4 c10 ⊢
  rw [← hq] at q0 q1 q3 ⊢
  rw [← hk] at c10 hL
  rw [← hm] at q3 hl
  have HBB := Lib.hid hb; have HQQ := Lib.hid hq; have HKK := Lib.hid hk; have HM := Lib.hid hm; have HFR := Lib.hid hfr
  have hx : ∀ w', Same w w' → Calls Tryd.prog 34 #[.pointer (some ⟨b, 0, none⟩)] w' fun e w'' => e = .returned (.bool fr) ∧ w'' = w' := by
    intro w' hs
    have := isFrag_any ((HC.out).mod' hs.mod)
    unfold ptr at this
    rw [← HBB.out, ← HFR.out] at this
    exact this
  have HX := Lib.hid hx
  clear h hc hun hs0 hb hq hk hm hfr hx
  go_enter Tryd.func19, Tryd.ntmps19
  go_wp2_with fail
  refine HD.out.mono ?_
  rintro e w1 ⟨rfl, hw⟩
  obtain rfl := hw.symm
  go_wp2_with fail
  go_quiet (fail)
  go_wp2_with fail
  go_quiet (exact (hL _).mono fun _ _ ⟨he, hw⟩ => ⟨he, _, hw⟩)
  go_wp2_with fail
  refine (HX.out _ ((Same.refl w).drewN _)).mono ?_
  rintro e w1 ⟨rfl, hw⟩
  have hsm : Same w w1 := by rw [hw]; exact (Same.refl w).drewN _
  have HSM := Lib.hid hsm
  have c14 : w.cell? ⟨b, 14, none⟩ = some (.slice (some ⟨c.ug, 0, none⟩) c.pc.bytes.length c.uc) := by rw [HBB.out]; exact HC.out.cell 14
  rw [← hsm.cell] at c9 c4 c10 q0 q1 q3
  clear hw hsm c14

  obtain ⟨ts, hts⟩ : ∃ ts, ts = T.s := ⟨_, rfl⟩
  obtain ⟨tg, htg⟩ : ∃ tg, tg = T.g := ⟨_, rfl⟩
  obtain ⟨ln, hln⟩ : ∃ ln, ln = T.l.length := ⟨_, rfl⟩
  obtain ⟨b0, hb0⟩ : ∃ b0, b0 = (T.l.getD 0 default).b := ⟨_, rfl⟩
  have hTm : T ∈ x.ord := List.mem_of_getElem? HTI.out
  have hSw := HQ.out.sets T hTm
  have hl0 : 0 < T.l.length := List.length_pos_iff.2 HNL.out
  obtain ⟨hc00, hk0⟩ := hSw.is.at 0 hl0
  have hcw2 : w.cell? ⟨ts, 2, none⟩ = some (.slice (some ⟨tg, 0, none⟩) ln T.cap) := by rw [hts, htg, hln, cell_of_block hSw.blk]; rfl
  have hcw0 : w.cell? ⟨ts, 0, none⟩ = some (.int .u16 k) := by rw [hts, cell_of_block hSw.blk, HKK.out, ← HKI.out]; rfl
  have hcg0 : w.cell? ⟨tg, 0, none⟩ = some (.pointer (some ⟨b0, 0, none⟩)) := by rw [htg, hb0]; exact hc00
  have hlnc : ln ≤ T.cap := by rw [hln]; exact hSw.is.2.1
  have hlnp : 0 < ln := by rw [hln]; exact hl0
  have hFF : Hid (∀ w', Same w w' → Calls Tryd.prog 34 #[.pointer (some ⟨b0, 0, none⟩)] w' fun e w'' => e = .returned (.bool true) ∧ w'' = w') := Lib.hid (by
    intro w' hs
    have := isFrag_any (hk0.mod' hs.mod)
    unfold ptr at this
    rw [HF0.out, ← hb0] at this
    exact this)
  have HLNP := Lib.hid hlnp
  have HSW := Lib.hid hSw
  have HTSS := Lib.hid hts; have HTG := Lib.hid htg; have HLN := Lib.hid hln
  have him : i < m := by rw [HM.out]; exact HIL.out
  clear hSw hl0 hc00 hk0 hts htg hln hb0 hTm
  obtain rfl : fr = true := by rw [HFR.out]; exact hfc
  go_wp2_with fail
  go_loopw [6, 96] (fun v6 v96 wr => ∃ j : Nat, j ≤ i ∧ v6 = .pointer none ∧ v96 = .int .i64 j ∧ Same w1 wr) (fun _ v _ => m - (intOf v).toNat)
  case atStart => exact ⟨0, Nat.zero_le _, rfl, rfl, Same.refl _⟩
  case round =>
    obtain ⟨j, hj, rfl, rfl, hsr⟩ := hrel
    have HSMR : Hid (Same w wr) := Lib.hid (HSM.out.trans hsr)
    have c10r : wr.cell? ⟨b, 10, none⟩ = some (.int .u16 k) := (hsr.cell _).trans c10
    have c4r : wr.cell? ⟨b, 4, none⟩ = some (.bool false) := (hsr.cell _).trans c4
    have hjm : j < m := by omega
    have hjI : (j : Int) < m := by omega
    have hQr := HQ.out.mod' HSMR.out.mod
    have hmc : m ≤ x.co := by rw [HM.out]; obtain ⟨_, _, _, h, _⟩ := own_row hQr.row; exact h
    by_cases hji : j < i
    · obtain ⟨t, ht⟩ : ∃ t, t = x.ord.getD j default := ⟨_, rfl⟩
      have hj' : j < x.ord.length := by rw [← HM.out]; exact hjm
      have hti : x.ord[j]? = some t := by rw [ht, List.getD_eq_getElem?_getD, List.getElem?_eq_getElem hj']; rfl
      have hS := hQr.sets t (List.mem_of_getElem? hti)
      have hcj : wr.cell? ⟨x.go, j, none⟩ = some (.pointer (some ⟨t.s, 0, none⟩)) := own_cell hQr.row (by rw [List.getElem?_map, hti]; rfl)
      have hs0' : wr.cell? ⟨t.s, 0, none⟩ = some (.int .u16 t.k) := by rw [cell_of_block hS.blk]; rfl
      have hne : (t.k == k) = false := by
        simp only [beq_eq_false_iff_ne, ne_eq]
        rw [HKK.out, ht]; exact HK.out j hji
      have w1j := wraps_i64 ((j : Int) + 1) (by omega) (by omega)
      have hsz := lt_of_cell hs0'
      clear hQr ht hti hS
      have HSR := Lib.hid hsr
      clear hsr
      go_wp2_with fail
      go_quiet (fail)
      go_wp2_with fail
      go_roundw
      case rel => exact ⟨j + 1, hji, rfl, by go_num, HSR.out.drewN _⟩
      case measure => simp [intOf]; omega
    · obtain rfl : j = i := by omega
      have hcj : wr.cell? ⟨x.go, j, none⟩ = some (.pointer (some ⟨ts, 0, none⟩)) := own_cell hQr.row (by rw [List.getElem?_map, HTI.out, HTSS.out]; rfl)
      have e0 := (HSMR.out.cell _).trans hcw0
      have e2 := (HSMR.out.cell _).trans hcw2
      have eg := (HSMR.out.cell _).trans hcg0
      have hln0 : (0 : Int) < ln := by omega
      clear hQr
      go_wp2_with fail
      go_quiet (exact (hFF.out _ (HSMR.out.drewN _)).mono fun _ _ ⟨he, hw⟩ => ⟨he, _, hw⟩)
      have c8r : wr.cell? ⟨b, 8, none⟩ = some (.int .u32 (U f c.pc.p)) := by rw [HSMR.out.cell, HBB.out]; exact HC.out.cell 8
      go_wp2_with fail
      generalize hWA : wr.drewN nq = wa
      have HSA : Hid (Same w wa) := Lib.hid (by rw [← hWA]; exact HSMR.out.drewN _)
      have hQa := HQ.out.mod' HSA.out.mod
      have hCa := HC.out.mod' HSA.out.mod
      have hSa := hQa.sets T (List.mem_of_getElem? HTI.out)
      have hh := hasTSN_no (p := c.pc.p) hSa.is HTS.out HC.out.pb (by have := HLL.out; omega)
      unfold ptr at hh
      rw [← HTSS.out] at hh
      have HH := Lib.hid hh
      have q12 : wa.cell? ⟨q, 12, none⟩ = some (.int .u32 0) := by rw [HQQ.out]; exact hQa.cell 12
      have N0 := Lib.hid (noLimit_any q12)
      unfold ptr at N0
      have a11 : wa.cell? ⟨q, 11, none⟩ = some (.int .u64 x.nb) := by rw [HQQ.out]; exact hQa.cell 11
      have y11 : wa.frozen? ⟨q, 11, none⟩ = false := by rw [HQQ.out]; exact hQa.frozen 11
      have b14 : wa.cell? ⟨b, 14, none⟩ = some (.slice (some ⟨c.ug, 0, none⟩) c.pc.bytes.length c.uc) := by rw [HBB.out]; exact hCa.cell 14
      have HQA := Lib.hid hQa; have HCA := Lib.hid hCa
      clear hWA hQa hCa hSa hh q12 c8r e0 e2 eg hcj c10r c4r hcw2 hcw0 hcg0 q0 q1 q3 c9 c4 c10 hsr
      refine HH.out.mono ?_
      rintro e wb ⟨rfl, hwb⟩
      obtain rfl := hwb.symm
      clear hwb
      go_wp2_with fail
      refine N0.out.mono ?_
      rintro e wb ⟨rfl, hwb⟩
      obtain rfl := hwb.symm
      clear hwb N0
      have hnl := HC.out.small
      have hnb0 := HQ.out.nb
      obtain ⟨n, hn⟩ : ∃ n, n = c.pc.bytes.length := ⟨_, rfl⟩
      rw [← hn] at b14 hnl
      have HN := Lib.hid hn
      obtain ⟨hnb1, hnb2⟩ := hnb0
      have wn : IntKind.u64.wrap (n : Int) = n := by rw [IntKind.wrap_u64]; omega
      have hadd := run_call_add (P := Tryd.prog) (f := 30) Tryd.func30 (by kernel_rfl) (by kernel_rfl) (by kernel_rfl) .u64 (by kernel_rfl) (y := n) (s := x.nb + n) (a := ⟨q, 11, none⟩) (w := wa.drew) a11 y11 (by
        have : IntKind.u64.wrap (x.nb + n) = x.nb + n := by rw [IntKind.wrap_u64]; omega
        simp [go_sem, this])
      clear hn hnb1 hnb2
      go_wp2_with fail
      go_region_law (fail)
      have hcn := HQA.out.counted (n := x.nb + n) (by have := HQ.out.nb; omega)
      rw [← HQQ.out] at hcn
      generalize hW7 : (wa.setCell ⟨q, 11, none⟩ (.int .u64 (x.nb + n))) = w7 at hcn ⊢
      obtain ⟨hQ7', hK7'⟩ := hcn
      have MD : Mod (fun _ => False) w7 w7.drew := (Mod.refl _ w7).drew
      have hQ7 := hQ7'.mod' MD
      have hK7 := hK7'.trans (Kp.same B MD)
      have hC7 := HCA.out.kp hK7
      have hput := hQ7.put (i := j) HIL.out hC7 (by show (x.ord.getD j default).l.length < 4000; rw [← HTT.out]; exact HLL.out) (by have := HSA.out.mod.size; have := hK7.size; omega)
      have hPUT : Hid (Calls Tryd.prog 39 #[.pointer (some ⟨ts, 0, none⟩), .pointer (some ⟨b, 0, none⟩)] w7.drew (PutIn w7.drew B f si { q := q, go := x.go, co := x.co, ord := x.ord, nssn := x.nssn, v4 := x.v4, v5 := x.v5, v6 := x.v6, v7 := x.v7, v8 := x.v8, v9 := x.v9, nb := x.nb + n } j c)) := Lib.hid (by
        have e : ptr ({ q := q, go := x.go, co := x.co, ord := x.ord, nssn := x.nssn, v4 := x.v4, v5 := x.v5, v6 := x.v6, v7 := x.v7, v8 := x.v8, v9 := x.v9, nb := x.nb + n : QSt }.ord.getD j default).s = .pointer (some ⟨ts, 0, none⟩) := by
          show ptr (x.ord.getD j default).s = _
          rw [← HTT.out, HTSS.out]; rfl
        rw [← e, HBB.out]; exact hput)
      have HK7 := Lib.hid hK7
      clear hput hK7 hC7 hQ7 MD hQ7' hK7' hW7 hadd a11 y11 b14
      go_wp2_with fail
      refine hPUT.out.mono ?_
      rintro e w8 ⟨⟨r, rfl⟩, t1, h1s, h1k, h1p, h1l, h1w, hQ8, hK8⟩
      have HR := Lib.hid (show ∃ t', t'.s = (x.ord.getD j default).s ∧ t'.k = (x.ord.getD j default).k ∧ t'.ppi = (x.ord.getD j default).ppi ∧ t'.l.Perm ((x.ord.getD j default).l ++ [c]) ∧ t'.l.Pairwise (fun a b => a.pc.p ≤ b.pc.p) ∧
          QAt w8 B f si { x with ord := x.ord.set j t', nb := x.nb + c.pc.bytes.length } ∧ Kp B w w8 from
        ⟨t1, h1s, h1k, h1p, h1l, h1w, by rw [← HN.out, ← HQQ.out]; exact hQ8, ((Kp.same B HSA.out.mod).trans HK7.out).trans hK8⟩)
      clear hQ8 hK8 h1s h1k h1p h1l h1w
      go_wp2_with fail
      go_ret2
      exact ⟨⟨r, rfl⟩, HR.out⟩
end Go.Proofs.YtmniikihkpikdaaDoor
