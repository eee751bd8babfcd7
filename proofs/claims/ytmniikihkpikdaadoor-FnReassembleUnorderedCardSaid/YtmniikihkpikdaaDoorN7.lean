/- Part of the proofs of the three laws on reassembly: what a push does to a queue, with the blocks that it may change; conditions: as each theorem states. -/
import Derived.Test.YtmniikihkpikdaaDoorN6
namespace Go.Proofs.YtmniikihkpikdaaDoor
open Go.RowKit
set_option linter.unusedVariables false

/-- What a push of a chunk of a new message leaves. -/
def PushNewM (w : World) (B : Nat) (f si : Int) (x : QSt) (c : Ck) (e : Ending) (w' : World) : Prop :=
  (∃ r : Bool, e = .returned (.tuple #[.bool r, Value.nilIface])) ∧ ∃ go co ord t0, QAt w' B f si { x with go := go, co := co, ord := ord, nb := x.nb + c.pc.bytes.length } ∧
    t0.k = c.pc.k ∧ t0.ppi = c.pc.proto ∧ t0.l = [c] ∧ ord.Perm (x.ord ++ [t0]) ∧ ord.Pairwise (fun a b => a.k ≤ b.k) ∧ Kp B w w' ∧ Mod (fun k => k = x.go ∨ k = x.q) w w'

set_option maxHeartbeats 2000000 in
set_option maxRecDepth 20000 in
theorem pushO_newM {w : World} {B : Nat} {f si : Int} {x : QSt} {c : Ck} (h : QAt w B f si x) (hc : CkAt w f si c) (hun : c.pc.un = false) (hk : ∀ t ∈ x.ord, t.k ≠ c.pc.k) (hs0 : x.nssn = 0) (hl : x.ord.length < 900) (hnb : x.nb ≤ 90000000) (hB : B ≤ w.heap.size) :
    Calls Tryd.prog 19 #[ptr x.q, ptr c.b] w (PushNewM w B f si x c) := by
  obtain ⟨i1, hi, hz0, hzz1, hzz2⟩ := info_parts (show (Tryd.prog.info? 72).map (fun i => (i.zero, i.size, i.bytes)) = some (some (.pointer none), 1, 8) by kernel_rfl)
  have HK := Lib.hid hk
  have HD := Lib.hid (isIData_any hc)
  have HQ := Lib.hid h; have HC := Lib.hid hc
  have hL := fun w => lt16 c.pc.k 0 w (by have := hc.kb; omega) (by omega)
  rw [show decide (c.pc.k < 0) = false from by have := hc.kb; simp; omega] at hL
  have c9 : w.cell? ⟨c.b, 9, none⟩ = some (.int .u16 si) := hc.cell 9
  have c4 : w.cell? ⟨c.b, 4, none⟩ = some (.bool false) := by rw [hc.cell 4, ← hun]; rfl
  have c10 : w.cell? ⟨c.b, 10, none⟩ = some (.int .u16 c.pc.k) := hc.cell 10
  have q0 : w.cell? ⟨x.q, 0, none⟩ = some (.int .u16 si) := h.cell 0
  have q1 : w.cell? ⟨x.q, 1, none⟩ = some (.int .u16 0) := by rw [h.cell 1, ← hs0]; rfl
  have q3 : w.cell? ⟨x.q, 3, none⟩ = some (.slice (some ⟨x.go, 0, none⟩) x.ord.length x.co) := h.cell 3
  obtain ⟨b, hb⟩ : ∃ b, b = c.b := ⟨_, rfl⟩
  obtain ⟨q, hq⟩ : ∃ q, q = x.q := ⟨_, rfl⟩
  obtain ⟨k, hk⟩ : ∃ k, k = c.pc.k := ⟨_, rfl⟩
  obtain ⟨m, hm⟩ : ∃ m, m = x.ord.length := ⟨_, rfl⟩
  obtain ⟨fr, hfr⟩ : ∃ fr, fr = c.pc.frag := ⟨_, rfl⟩
  unfold ptr at HD ⊢
  rw [← hb] at HD c9 c4 c10 ⊢
  rw [← hq] at q0 q1 q3 ⊢
  rw [← hk] at c10 hL
  rw [← hm] at q3 hl
  have HBB := Lib.hid hb; have HQQ := Lib.hid hq; have HKK := Lib.hid hk; have HM := Lib.hid hm; have HFR := Lib.hid hfr
  have hx : ∀ w', Same w w' → Calls Tryd.prog 34 #[.pointer (some ⟨b, 0, none⟩)] w' fun e w'' => e = .returned (.bool fr) ∧ w'' = w' := by
    intro w' hs
    have := isFrag_any ((HC.out).mod' hs.mod)
    unfold ptr at this
    rw [← HBB.out, ← HFR.out] at this
    exact this
  have HX := Lib.hid hx
  clear h hc hun hs0 hb hq hk hm hfr hx
  go_enter Tryd.func19, Tryd.ntmps19
  go_wp2_with fail
  refine HD.out.mono ?_
  rintro e w1 ⟨rfl, hw⟩
  obtain rfl := hw.symm
  go_wp2_with fail
  go_quiet (fail)
  go_wp2_with fail
  go_quiet (exact (hL _).mono fun _ _ ⟨he, hw⟩ => ⟨he, _, hw⟩)
  go_wp2_with fail
  refine (HX.out _ ((Same.refl w).drewN _)).mono ?_
  rintro e w1 ⟨rfl, hw⟩
  have hsm : Same w w1 := by rw [hw]; exact (Same.refl w).drewN _
  have HSM := Lib.hid hsm
  have c14 : w.cell? ⟨b, 14, none⟩ = some (.slice (some ⟨c.ug, 0, none⟩) c.pc.bytes.length c.uc) := by rw [HBB.out]; exact HC.out.cell 14
  rw [← hsm.cell] at c9 c4 c10 q0 q1 q3
  clear hw hsm c14
  cases fr with
  | true =>
    go_wp2_with fail
    go_loopw [6, 96] (fun v6 v96 wr => ∃ j : Nat, j ≤ m ∧ v6 = .pointer none ∧ v96 = .int .i64 j ∧ Same w1 wr) (fun _ v _ => m - (intOf v).toNat)
    case atStart => exact ⟨0, Nat.zero_le _, rfl, rfl, Same.refl _⟩
    case round =>
      obtain ⟨j, hj, rfl, rfl, hsr⟩ := hrel
      have HSMR : Hid (Same w wr) := Lib.hid (HSM.out.trans hsr)
      have c10r : wr.cell? ⟨b, 10, none⟩ = some (.int .u16 k) := (hsr.cell _).trans c10
      have c4r : wr.cell? ⟨b, 4, none⟩ = some (.bool false) := (hsr.cell _).trans c4
      by_cases hjm : j < m
      · have hjI : (j : Int) < m := by omega
        have hQr := HQ.out.mod' HSMR.out.mod
        obtain ⟨t, ht⟩ : ∃ t, t = x.ord.getD j default := ⟨_, rfl⟩
        have hj' : j < x.ord.length := by rw [← HM.out]; exact hjm
        have hti : x.ord[j]? = some t := by rw [ht, List.getD_eq_getElem?_getD, List.getElem?_eq_getElem hj']; rfl
        have hS := hQr.sets t (List.mem_of_getElem? hti)
        have hcj : wr.cell? ⟨x.go, j, none⟩ = some (.pointer (some ⟨t.s, 0, none⟩)) := own_cell hQr.row (by rw [List.getElem?_map, hti]; rfl)
        have hs0' : wr.cell? ⟨t.s, 0, none⟩ = some (.int .u16 t.k) := by rw [cell_of_block hS.blk]; rfl
        have hne : (t.k == k) = false := by
          simp only [beq_eq_false_iff_ne, ne_eq]
          rw [HKK.out]; exact HK.out t (List.mem_of_getElem? hti)
        have hmc : m ≤ x.co := by rw [HM.out]; obtain ⟨_, _, _, h, _⟩ := own_row hQr.row; exact h
        have w1j := wraps_i64 ((j : Int) + 1) (by omega) (by omega)
        have hsz := lt_of_cell hs0'
        clear hQr ht hti hS
        have HSR := Lib.hid hsr
        clear hsr
        go_wp2_with fail
        go_quiet (fail)
        go_wp2_with fail
        go_roundw
        case rel => exact ⟨j + 1, hjm, rfl, by go_num, HSR.out.drewN _⟩
        case measure => simp [intOf]; omega
      · obtain rfl : m = j := by omega
        have hjj : (m : Int) ≤ m := Int.le_refl _
        clear hsr
        go_wp2_with fail
        have q12 : wr.cell? ⟨q, 12, none⟩ = some (.int .u32 0) := by rw [HSMR.out.cell, HQQ.out]; exact HQ.out.cell 12
        have N0 := Lib.hid (noLimit_any q12)
        unfold ptr at N0
        refine N0.out.mono ?_
        rintro e w2 ⟨rfl, hw2⟩
        obtain rfl := hw2.symm
        clear N0 hw2 q12
        go_wp2_with fail
        have c13 : wr.cell? ⟨b, 13, none⟩ = some (.int .u32 c.pc.proto) := by rw [HSMR.out.cell, HBB.out]; exact HC.out.cell 13
        have S0 : wr.drew.cell? ⟨b, 10, none⟩ = some (.int .u16 k) ∧ wr.drew.cell? ⟨b, 13, none⟩ = some (.int .u32 c.pc.proto) := ⟨c10r, c13⟩
        have NS := Lib.hid (@newSet_any wr.drew k c.pc.proto)
        unfold ptr at NS
        clear c13
        go_region_held3 (fun w' => w'.cell? ⟨b, 10, none⟩ = some (.int .u16 k) ∧ w'.cell? ⟨b, 13, none⟩ = some (.int .u32 c.pc.proto)) (first | with_reducible exact S0 | with_reducible exact S1) (first | (go_at_call 37; refine NS.out.mono ?_; rintro e w3 ⟨rfl, hw3⟩; have S1 : w3.cell? ⟨b, 10, none⟩ = some (.int .u16 k) ∧ w3.cell? ⟨b, 13, none⟩ = some (.int .u32 c.pc.proto) := (by rw [hw3]; exact ⟨cell_alloc (cell_alloc S0.1 _) _, cell_alloc (cell_alloc S0.2 _) _⟩); have HW3 := Lib.hid hw3; clear hw3))
        have hsz : wr.drew.heap.size = w.heap.size := by show wr.heap.size = _; rw [HSMR.out.1]
        have hsz' : wr.heap.size = w.heap.size := hsz
        rw [hsz']
        have M13 : Mod (fun _ => False) w w3 := by rw [HW3.out]; exact ((HSMR.out.mod.drew).alloc _).alloc _
        have T0 : SetAt w3 B f si ⟨w.heap.size + 1, w.heap.size, 0, k, c.pc.proto, []⟩ := by
          have := newSet_at (w := wr.drew) (B := B) (f := f) (si := si) (k := k) (ppi := c.pc.proto) (by rw [hsz]; exact hB) (by rw [HKK.out]; exact HC.out.kb)
          rw [← HW3.out, hsz] at this; exact this
        have hQ3 := HQ.out.mod' M13
        have hC3 := HC.out.mod' M13
        have HM13 := Lib.hid M13; have HT0 := Lib.hid T0; have HQ3 := Lib.hid hQ3; have HC3 := Lib.hid hC3
        have hne := hQ3.q_ne_go
        rw [← HQQ.out] at hne
        have HNE := Lib.hid hne
        have hbq : b ≠ q := by rw [HBB.out, HQQ.out]; exact ne_of_type hC3.blk hQ3.blk (by decide)
        have cq3 : w3.cell? ⟨q, 3, none⟩ = some (.slice (some ⟨x.go, 0, none⟩) m x.co) := by rw [HQQ.out, HM.out]; exact hQ3.cell 3
        have hB3 : B ≤ w3.heap.size := Nat.le_trans hB M13.size
        have hqsz : q < w3.heap.size := by rw [HQQ.out]; exact hQ3.lt
        have HROW3 : Hid (w3.ownsRow B 72 1 (.slice (some ⟨x.go, 0, none⟩) m x.co) m (x.ord.map fun t => ptr t.s)) := Lib.hid (by rw [HM.out]; exact hQ3.row)
        have HSZ : Hid (w.heap.size + 2 ≤ w3.heap.size) := Lib.hid (by rw [HW3.out]; simp; omega)
        have hbsz : b < w3.heap.size := by rw [HBB.out]; exact hC3.lt
        have cb3 : w3.cell? ⟨b, 4, none⟩ = some (.bool false) := by rw [M13.cell (p := ⟨b, 4, none⟩) (lt_of_cell (by rw [← HSMR.out.cell]; exact c4r)) (fun h => h), ← HSMR.out.cell]; exact c4r
        have HBG : Hid (b ≠ x.go) := Lib.hid (by
          obtain ⟨_, cs, hg, _, _⟩ := own_row hQ3.row
          rw [HBB.out]; exact ne_of_type hC3.blk hg (by decide))
        clear S0 NS hsz hsz' M13 T0 hQ3 hC3 hne
        obtain ⟨s0, hs0⟩ : ∃ s0, s0 = w.heap.size + 1 := ⟨_, rfl⟩
        rw [← hs0] at HT0 ⊢
        have HS0 := Lib.hid hs0
        clear hs0
        go_wp2_with (first | (at_builtin; refine wpList_append_one rfl _ _ 58 rfl B 72 i1 (.pointer none) 8 Tryd.underlying58 hi hz0 hzz1 hzz2 rfl (.slice (some ⟨x.go, 0, none⟩) m x.co) m _ (.pointer (some ⟨s0, 0, none⟩)) rfl HROW3.out rfl rfl (by omega) (by omega) hB3 ?_; intro g4 cap4 w4 hown4 hM4 hat4; have hM4' := hM4.mono (T := (· = x.go)) (fun k e => by simp [Value.ownBlock] at e; omega); have hq4 := (hM4'.block q hqsz HNE.out).trans (HQQ.out ▸ HQ3.out.blk); have c3 : w4.cell? ⟨q, 3, none⟩ = some (.slice (some ⟨x.go, 0, none⟩) m x.co) := (by rw [cell_of_block hq4, HM.out]; rfl); have f3 : w4.frozen? ⟨q, 3, none⟩ = false := frozen_of_block hq4; have cb4 := (hM4'.cell (p := ⟨b, 4, none⟩) hbsz HBG.out).trans cb3))
        have hap := HQ3.out.appendedM HT0.out (fun y hy e => by
            have := (Array.getElem?_eq_some_iff.1 (HQ.out.sets y hy).blk).1
            have e : y.s = s0 := e
            have := HS0.out; omega) (fun y hy e => by
            obtain ⟨_, cs, hg⟩ := (HQ.out.sets y hy).g_blk
            have := (Array.getElem?_eq_some_iff.1 hg).1
            have e : y.g = w.heap.size := e
            omega) (g4 := g4) (cap4 := cap4) (w4 := w4) (by rw [← HM.out]; exact hown4) (by rw [← HM.out]; exact hM4) (by rw [← HM.out]; omega)
        rw [← HM.out, ← HQQ.out] at hap
        obtain ⟨t0, ht0⟩ : ∃ t0 : SetSt, t0 = ⟨s0, w.heap.size, 0, k, c.pc.proto, []⟩ := ⟨_, rfl⟩
        rw [← ht0] at hap
        generalize hW5 : w4.setCell ⟨q, 3, none⟩ (.slice (some ⟨g4, 0, none⟩) (m + 1) cap4) = w5 at hap ⊢
        obtain ⟨hQ5, hK5, hF5⟩ := hap
        have hS5 := hQ5.sortedM
        have hlen5 : (x.ord ++ [t0]).length = m + 1 := by rw [HM.out]; simp
        have HS5 : Hid (Calls Tryd.prog 38 #[.slice (some ⟨g4, 0, none⟩) (m + 1) cap4] w5 _) := Lib.hid (by rw [← hlen5]; exact hS5)
        have HK5 := Lib.hid hK5; have HT := Lib.hid ht0; have HF5 := Lib.hid hF5; have HAT4 := Lib.hid hat4; have HLT3 := Lib.hid (show x.go < w3.heap.size from by obtain ⟨_, cs, hg, _, _⟩ := own_row HROW3.out; exact (Array.getElem?_eq_some_iff.1 hg).1)
        clear hF5 hown4 hM4 hat4 hM4' hq4 c3 f3 cb4 cb3 hW5 hQ5 hK5 hS5 hlen5 ht0 cq3 q0 q1 q3 c9 c4 c10 c10r c4r
        refine HS5.out.mono ?_
        rintro e w6 ⟨rfl, ord', hperm, hpw, hQ6, hK6, hF6⟩
        have HF6 := Lib.hid hF6
        have hC6 := (HC3.out.kp HK5.out).kp hK6
        have HQ6 := Lib.hid hQ6; have HC6 := Lib.hid hC6; have HK6 := Lib.hid hK6; have HPERM := Lib.hid hperm; have HPW := Lib.hid hpw
        have a11 : w6.cell? ⟨q, 11, none⟩ = some (.int .u64 x.nb) := hQ6.cell 11
        have y11 : w6.frozen? ⟨q, 11, none⟩ = false := hQ6.frozen 11
        have b14 : w6.cell? ⟨b, 14, none⟩ = some (.slice (some ⟨c.ug, 0, none⟩) c.pc.bytes.length c.uc) := by rw [HBB.out]; exact hC6.cell 14
        clear hC6 hQ6 hK6 hperm hpw HS5
        have hnl := HC.out.small
        have hnb0 := HQ.out.nb
        obtain ⟨n, hn⟩ : ∃ n, n = c.pc.bytes.length := ⟨_, rfl⟩
        rw [← hn] at b14 hnl
        have HN := Lib.hid hn
        obtain ⟨hnb1, hnb2⟩ := hnb0
        have wn : IntKind.u64.wrap (n : Int) = n := by rw [IntKind.wrap_u64]; omega
        have hadd := run_call_add (P := Tryd.prog) (f := 30) Tryd.func30 (by kernel_rfl) (by kernel_rfl) (by kernel_rfl) .u64 (by kernel_rfl) (y := n) (s := x.nb + n) (a := ⟨q, 11, none⟩) (w := w6.drew) a11 y11 (by
          have : IntKind.u64.wrap (x.nb + n) = x.nb + n := by rw [IntKind.wrap_u64]; omega
          simp [go_sem, this])
        clear hn hnb1 hnb2
        go_wp2_with fail
        go_region_law (fail)
        have hcn := HQ6.out.countedM (n := x.nb + n) (by have := HQ.out.nb; omega)
        generalize hW7 : (w6.setCell ⟨q, 11, none⟩ (.int .u64 (x.nb + n))) = w7 at hcn ⊢
        obtain ⟨hQ7', hK7', hF7⟩ := hcn
        have HF7 := Lib.hid hF7
        have MD : Mod (fun _ => False) w7 w7.drew := (Mod.refl _ w7).drew
        have hQ7 := hQ7'.mod' MD
        have hK7 := hK7'.trans (Kp.same B MD)
        have hC7 := HC6.out.kp hK7
        obtain ⟨i, hi0⟩ := List.getElem?_of_mem (HPERM.out.mem_iff.2 (List.mem_append.2 (.inr (List.mem_singleton.2 rfl))) : t0 ∈ ord')
        have hlt : i < ord'.length := (List.getElem?_eq_some_iff.1 hi0).1
        have hgd : ord'.getD i default = t0 := by rw [List.getD_eq_getElem?_getD, hi0]; rfl
        have hput := hQ7.putM (i := i) hlt hC7 (by show (ord'.getD i default).l.length < 4000; rw [hgd, HT.out]; exact Nat.succ_pos _) (by have := HK6.out.size; have := HK5.out.size; have := hK7.size; omega)
        have hst : t0.s = s0 := by rw [HT.out]
        have hPUT : Hid (Calls Tryd.prog 39 #[.pointer (some ⟨s0, 0, none⟩), .pointer (some ⟨b, 0, none⟩)] w7.drew (PutInM w7.drew B f si { q := q, go := g4, co := cap4, ord := ord', nssn := x.nssn, v4 := x.v4, v5 := x.v5, v6 := x.v6, v7 := x.v7, v8 := x.v8, v9 := x.v9, nb := x.nb + n } i c)) := Lib.hid (by
          have e : ptr ({ q := q, go := g4, co := cap4, ord := ord', nssn := x.nssn, v4 := x.v4, v5 := x.v5, v6 := x.v6, v7 := x.v7, v8 := x.v8, v9 := x.v9, nb := x.nb + n : QSt }.ord.getD i default).s = .pointer (some ⟨s0, 0, none⟩) := by
            show ptr (ord'.getD i default).s = _
            rw [hgd, hst]; rfl
          rw [← e, HBB.out]; exact hput)
        have HK7 := Lib.hid hK7; have HI := Lib.hid hi0; have HGD := Lib.hid hgd
        clear hput hst hgd hi0 hK7 hC7 hQ7 MD hQ7' hK7' hW7 hadd a11 y11 b14 hlt
        go_wp2_with fail
        refine hPUT.out.mono ?_
        rintro e w8 ⟨⟨r, rfl⟩, t1, h1s, h1k, h1p, h1l, h1w, hQ8, hK8, hF8⟩
        have h1k : t1.k = (ord'.getD i default).k := h1k
        have h1p : t1.ppi = (ord'.getD i default).ppi := h1p
        have h1l : t1.l.Perm ((ord'.getD i default).l ++ [c]) := h1l
        rw [HGD.out] at h1k h1p h1l
        have HR := Lib.hid (show ∃ go co ord t0, QAt w8 B f si { x with go := go, co := co, ord := ord, nb := x.nb + c.pc.bytes.length } ∧ t0.k = c.pc.k ∧ t0.ppi = c.pc.proto ∧ t0.l = [c] ∧ ord.Perm (x.ord ++ [t0]) ∧ ord.Pairwise (fun a b => a.k ≤ b.k) ∧ Kp B w w8 ∧ Mod (fun k => k = x.go ∨ k = x.q) w w8 from by
          refine ⟨g4, cap4, ord'.set i t1, t1, ?_, ?_, ?_, ?_, perm_set HPERM.out HI.out, ?_, ?_, ?_⟩
          · rw [← HN.out, ← HQQ.out]; exact hQ8
          · rw [h1k, HT.out]; exact HKK.out
          · rw [h1p, HT.out]
          · rw [HT.out] at h1l
            exact List.perm_singleton.1 h1l
          · have e := map_set_same (f := (·.k)) HI.out (b := t1) h1k
            have h1 : ((ord'.set i t1).map (·.k)).Pairwise (· ≤ ·) := by rw [e, List.pairwise_map]; exact HPW.out
            rwa [List.pairwise_map] at h1
          · exact ((((Kp.same B HM13.out).trans HK5.out).trans HK6.out).trans HK7.out).trans hK8
          · rw [HGD.out, HT.out] at hF8
            have hs0 := HS0.out
            have hz3 := HM13.out.size
            have hw3 := HLT3.out
            have b3 : Mod (fun k => k = x.go ∨ k = x.q) w w3 := HM13.out.mono (fun _ h => h.elim)
            have b5 := b3.trans (by have h5 := HF5.out; rw [HQQ.out] at h5; exact h5)
            have b6 : Mod (fun k => k = x.go ∨ k = x.q) w w6 := by
              rcases HAT4.out with e | e
              · have e : x.go = g4 := by simpa [Value.ownBlock] using e
                exact b5.trans (HF6.out.mono (fun k hk => .inl (by have hk : k = g4 := hk; omega)))
              · exact b5.fresh HF6.out (fun k hk => by have hk : k = g4 := hk; omega)
            have b7 := b6.trans (HF7.out.mono (fun k hk => .inr (by have hk : k = q := hk; rw [hk]; exact HQQ.out)))
            exact (b7.drew).fresh hF8 (fun k hk => by rcases hk with hk | hk <;> (have hk2 := hk; simp at hk2; omega)))
        clear hQ8 hK8 h1s h1k h1p h1l h1w
        go_wp2_with fail
        go_ret2
        exact ⟨⟨r, rfl⟩, HR.out⟩
  | false =>
    go_wp2_with fail
    have HSMR := HSM
    have c10r := c10; have c4r := c4
    have q12 : w1.cell? ⟨q, 12, none⟩ = some (.int .u32 0) := by rw [HSMR.out.cell, HQQ.out]; exact HQ.out.cell 12
    have N0 := Lib.hid (noLimit_any q12)
    unfold ptr at N0
    refine N0.out.mono ?_
    rintro e w2 ⟨rfl, hw2⟩
    obtain rfl := hw2.symm
    clear N0 hw2 q12
    go_wp2_with fail
    have c13 : w1.cell? ⟨b, 13, none⟩ = some (.int .u32 c.pc.proto) := by rw [HSMR.out.cell, HBB.out]; exact HC.out.cell 13
    have S0 : w1.drew.cell? ⟨b, 10, none⟩ = some (.int .u16 k) ∧ w1.drew.cell? ⟨b, 13, none⟩ = some (.int .u32 c.pc.proto) := ⟨c10r, c13⟩
    have NS := Lib.hid (@newSet_any w1.drew k c.pc.proto)
    unfold ptr at NS
    clear c13
    go_region_held3 (fun w' => w'.cell? ⟨b, 10, none⟩ = some (.int .u16 k) ∧ w'.cell? ⟨b, 13, none⟩ = some (.int .u32 c.pc.proto)) (first | with_reducible exact S0 | with_reducible exact S1) (first | (go_at_call 37; refine NS.out.mono ?_; rintro e w3 ⟨rfl, hw3⟩; have S1 : w3.cell? ⟨b, 10, none⟩ = some (.int .u16 k) ∧ w3.cell? ⟨b, 13, none⟩ = some (.int .u32 c.pc.proto) := (by rw [hw3]; exact ⟨cell_alloc (cell_alloc S0.1 _) _, cell_alloc (cell_alloc S0.2 _) _⟩); have HW3 := Lib.hid hw3; clear hw3))
    have hsz : w1.drew.heap.size = w.heap.size := by show w1.heap.size = _; rw [HSMR.out.1]
    have hsz' : w1.heap.size = w.heap.size := hsz
    rw [hsz']
    have M13 : Mod (fun _ => False) w w3 := by rw [HW3.out]; exact ((HSMR.out.mod.drew).alloc _).alloc _
    have T0 : SetAt w3 B f si ⟨w.heap.size + 1, w.heap.size, 0, k, c.pc.proto, []⟩ := by
      have := newSet_at (w := w1.drew) (B := B) (f := f) (si := si) (k := k) (ppi := c.pc.proto) (by rw [hsz]; exact hB) (by rw [HKK.out]; exact HC.out.kb)
      rw [← HW3.out, hsz] at this; exact this
    have hQ3 := HQ.out.mod' M13
    have hC3 := HC.out.mod' M13
    have HM13 := Lib.hid M13; have HT0 := Lib.hid T0; have HQ3 := Lib.hid hQ3; have HC3 := Lib.hid hC3
    have hne := hQ3.q_ne_go
    rw [← HQQ.out] at hne
    have HNE := Lib.hid hne
    have hbq : b ≠ q := by rw [HBB.out, HQQ.out]; exact ne_of_type hC3.blk hQ3.blk (by decide)
    have cq3 : w3.cell? ⟨q, 3, none⟩ = some (.slice (some ⟨x.go, 0, none⟩) m x.co) := by rw [HQQ.out, HM.out]; exact hQ3.cell 3
    have hB3 : B ≤ w3.heap.size := Nat.le_trans hB M13.size
    have hqsz : q < w3.heap.size := by rw [HQQ.out]; exact hQ3.lt
    have HROW3 : Hid (w3.ownsRow B 72 1 (.slice (some ⟨x.go, 0, none⟩) m x.co) m (x.ord.map fun t => ptr t.s)) := Lib.hid (by rw [HM.out]; exact hQ3.row)
    have HSZ : Hid (w.heap.size + 2 ≤ w3.heap.size) := Lib.hid (by rw [HW3.out]; simp; omega)
    have hbsz : b < w3.heap.size := by rw [HBB.out]; exact hC3.lt
    have cb3 : w3.cell? ⟨b, 4, none⟩ = some (.bool false) := by rw [M13.cell (p := ⟨b, 4, none⟩) (lt_of_cell (by rw [← HSMR.out.cell]; exact c4r)) (fun h => h), ← HSMR.out.cell]; exact c4r
    have HBG : Hid (b ≠ x.go) := Lib.hid (by
      obtain ⟨_, cs, hg, _, _⟩ := own_row hQ3.row
      rw [HBB.out]; exact ne_of_type hC3.blk hg (by decide))
    clear S0 NS hsz hsz' M13 T0 hQ3 hC3 hne
    obtain ⟨s0, hs0⟩ : ∃ s0, s0 = w.heap.size + 1 := ⟨_, rfl⟩
    rw [← hs0] at HT0 ⊢
    have HS0 := Lib.hid hs0
    clear hs0
    go_wp2_with (first | (at_builtin; refine wpList_append_one rfl _ _ 58 rfl B 72 i1 (.pointer none) 8 Tryd.underlying58 hi hz0 hzz1 hzz2 rfl (.slice (some ⟨x.go, 0, none⟩) m x.co) m _ (.pointer (some ⟨s0, 0, none⟩)) rfl HROW3.out rfl rfl (by omega) (by omega) hB3 ?_; intro g4 cap4 w4 hown4 hM4 hat4; have hM4' := hM4.mono (T := (· = x.go)) (fun k e => by simp [Value.ownBlock] at e; omega); have hq4 := (hM4'.block q hqsz HNE.out).trans (HQQ.out ▸ HQ3.out.blk); have c3 : w4.cell? ⟨q, 3, none⟩ = some (.slice (some ⟨x.go, 0, none⟩) m x.co) := (by rw [cell_of_block hq4, HM.out]; rfl); have f3 : w4.frozen? ⟨q, 3, none⟩ = false := frozen_of_block hq4; have cb4 := (hM4'.cell (p := ⟨b, 4, none⟩) hbsz HBG.out).trans cb3))
    have hap := HQ3.out.appendedM HT0.out (fun y hy e => by
        have := (Array.getElem?_eq_some_iff.1 (HQ.out.sets y hy).blk).1
        have e : y.s = s0 := e
        have := HS0.out; omega) (fun y hy e => by
        obtain ⟨_, cs, hg⟩ := (HQ.out.sets y hy).g_blk
        have := (Array.getElem?_eq_some_iff.1 hg).1
        have e : y.g = w.heap.size := e
        omega) (g4 := g4) (cap4 := cap4) (w4 := w4) (by rw [← HM.out]; exact hown4) (by rw [← HM.out]; exact hM4) (by rw [← HM.out]; omega)
    rw [← HM.out, ← HQQ.out] at hap
    obtain ⟨t0, ht0⟩ : ∃ t0 : SetSt, t0 = ⟨s0, w.heap.size, 0, k, c.pc.proto, []⟩ := ⟨_, rfl⟩
    rw [← ht0] at hap
    generalize hW5 : w4.setCell ⟨q, 3, none⟩ (.slice (some ⟨g4, 0, none⟩) (m + 1) cap4) = w5 at hap ⊢
    obtain ⟨hQ5, hK5, hF5⟩ := hap
    have hS5 := hQ5.sortedM
    have hlen5 : (x.ord ++ [t0]).length = m + 1 := by rw [HM.out]; simp
    have HS5 : Hid (Calls Tryd.prog 38 #[.slice (some ⟨g4, 0, none⟩) (m + 1) cap4] w5 _) := Lib.hid (by rw [← hlen5]; exact hS5)
    have HK5 := Lib.hid hK5; have HT := Lib.hid ht0; have HF5 := Lib.hid hF5; have HAT4 := Lib.hid hat4; have HLT3 := Lib.hid (show x.go < w3.heap.size from by obtain ⟨_, cs, hg, _, _⟩ := own_row HROW3.out; exact (Array.getElem?_eq_some_iff.1 hg).1)
    clear hF5 hown4 hM4 hat4 hM4' hq4 c3 f3 cb4 cb3 hW5 hQ5 hK5 hS5 hlen5 ht0 cq3 q0 q1 q3 c9 c4 c10 c10r c4r
    refine HS5.out.mono ?_
    rintro e w6 ⟨rfl, ord', hperm, hpw, hQ6, hK6, hF6⟩
    have HF6 := Lib.hid hF6
    have hC6 := (HC3.out.kp HK5.out).kp hK6
    have HQ6 := Lib.hid hQ6; have HC6 := Lib.hid hC6; have HK6 := Lib.hid hK6; have HPERM := Lib.hid hperm; have HPW := Lib.hid hpw
    have a11 : w6.cell? ⟨q, 11, none⟩ = some (.int .u64 x.nb) := hQ6.cell 11
    have y11 : w6.frozen? ⟨q, 11, none⟩ = false := hQ6.frozen 11
    have b14 : w6.cell? ⟨b, 14, none⟩ = some (.slice (some ⟨c.ug, 0, none⟩) c.pc.bytes.length c.uc) := by rw [HBB.out]; exact hC6.cell 14
    clear hC6 hQ6 hK6 hperm hpw HS5
    have hnl := HC.out.small
    have hnb0 := HQ.out.nb
    obtain ⟨n, hn⟩ : ∃ n, n = c.pc.bytes.length := ⟨_, rfl⟩
    rw [← hn] at b14 hnl
    have HN := Lib.hid hn
    obtain ⟨hnb1, hnb2⟩ := hnb0
    have wn : IntKind.u64.wrap (n : Int) = n := by rw [IntKind.wrap_u64]; omega
    have hadd := run_call_add (P := Tryd.prog) (f := 30) Tryd.func30 (by kernel_rfl) (by kernel_rfl) (by kernel_rfl) .u64 (by kernel_rfl) (y := n) (s := x.nb + n) (a := ⟨q, 11, none⟩) (w := w6.drew) a11 y11 (by
      have : IntKind.u64.wrap (x.nb + n) = x.nb + n := by rw [IntKind.wrap_u64]; omega
      simp [go_sem, this])
    clear hn hnb1 hnb2
    go_wp2_with fail
    go_region_law (fail)
    have hcn := HQ6.out.countedM (n := x.nb + n) (by have := HQ.out.nb; omega)
    generalize hW7 : (w6.setCell ⟨q, 11, none⟩ (.int .u64 (x.nb + n))) = w7 at hcn ⊢
    obtain ⟨hQ7', hK7', hF7⟩ := hcn
    have HF7 := Lib.hid hF7
    have MD : Mod (fun _ => False) w7 w7.drew := (Mod.refl _ w7).drew
    have hQ7 := hQ7'.mod' MD
    have hK7 := hK7'.trans (Kp.same B MD)
    have hC7 := HC6.out.kp hK7
    obtain ⟨i, hi0⟩ := List.getElem?_of_mem (HPERM.out.mem_iff.2 (List.mem_append.2 (.inr (List.mem_singleton.2 rfl))) : t0 ∈ ord')
    have hlt : i < ord'.length := (List.getElem?_eq_some_iff.1 hi0).1
    have hgd : ord'.getD i default = t0 := by rw [List.getD_eq_getElem?_getD, hi0]; rfl
    have hput := hQ7.putM (i := i) hlt hC7 (by show (ord'.getD i default).l.length < 4000; rw [hgd, HT.out]; exact Nat.succ_pos _) (by have := HK6.out.size; have := HK5.out.size; have := hK7.size; omega)
    have hst : t0.s = s0 := by rw [HT.out]
    have hPUT : Hid (Calls Tryd.prog 39 #[.pointer (some ⟨s0, 0, none⟩), .pointer (some ⟨b, 0, none⟩)] w7.drew (PutInM w7.drew B f si { q := q, go := g4, co := cap4, ord := ord', nssn := x.nssn, v4 := x.v4, v5 := x.v5, v6 := x.v6, v7 := x.v7, v8 := x.v8, v9 := x.v9, nb := x.nb + n } i c)) := Lib.hid (by
      have e : ptr ({ q := q, go := g4, co := cap4, ord := ord', nssn := x.nssn, v4 := x.v4, v5 := x.v5, v6 := x.v6, v7 := x.v7, v8 := x.v8, v9 := x.v9, nb := x.nb + n : QSt }.ord.getD i default).s = .pointer (some ⟨s0, 0, none⟩) := by
        show ptr (ord'.getD i default).s = _
        rw [hgd, hst]; rfl
      rw [← e, HBB.out]; exact hput)
    have HK7 := Lib.hid hK7; have HI := Lib.hid hi0; have HGD := Lib.hid hgd
    clear hput hst hgd hi0 hK7 hC7 hQ7 MD hQ7' hK7' hW7 hadd a11 y11 b14 hlt
    go_wp2_with fail
    refine hPUT.out.mono ?_
    rintro e w8 ⟨⟨r, rfl⟩, t1, h1s, h1k, h1p, h1l, h1w, hQ8, hK8, hF8⟩
    have h1k : t1.k = (ord'.getD i default).k := h1k
    have h1p : t1.ppi = (ord'.getD i default).ppi := h1p
    have h1l : t1.l.Perm ((ord'.getD i default).l ++ [c]) := h1l
    rw [HGD.out] at h1k h1p h1l
    have HR := Lib.hid (show ∃ go co ord t0, QAt w8 B f si { x with go := go, co := co, ord := ord, nb := x.nb + c.pc.bytes.length } ∧ t0.k = c.pc.k ∧ t0.ppi = c.pc.proto ∧ t0.l = [c] ∧ ord.Perm (x.ord ++ [t0]) ∧ ord.Pairwise (fun a b => a.k ≤ b.k) ∧ Kp B w w8 ∧ Mod (fun k => k = x.go ∨ k = x.q) w w8 from by
      refine ⟨g4, cap4, ord'.set i t1, t1, ?_, ?_, ?_, ?_, perm_set HPERM.out HI.out, ?_, ?_, ?_⟩
      · rw [← HN.out, ← HQQ.out]; exact hQ8
      · rw [h1k, HT.out]; exact HKK.out
      · rw [h1p, HT.out]
      · rw [HT.out] at h1l
        exact List.perm_singleton.1 h1l
      · have e := map_set_same (f := (·.k)) HI.out (b := t1) h1k
        have h1 : ((ord'.set i t1).map (·.k)).Pairwise (· ≤ ·) := by rw [e, List.pairwise_map]; exact HPW.out
        rwa [List.pairwise_map] at h1
      · exact ((((Kp.same B HM13.out).trans HK5.out).trans HK6.out).trans HK7.out).trans hK8
      · rw [HGD.out, HT.out] at hF8
        have hs0 := HS0.out
        have hz3 := HM13.out.size
        have hw3 := HLT3.out
        have b3 : Mod (fun k => k = x.go ∨ k = x.q) w w3 := HM13.out.mono (fun _ h => h.elim)
        have b5 := b3.trans (by have h5 := HF5.out; rw [HQQ.out] at h5; exact h5)
        have b6 : Mod (fun k => k = x.go ∨ k = x.q) w w6 := by
          rcases HAT4.out with e | e
          · have e : x.go = g4 := by simpa [Value.ownBlock] using e
            exact b5.trans (HF6.out.mono (fun k hk => .inl (by have hk : k = g4 := hk; omega)))
          · exact b5.fresh HF6.out (fun k hk => by have hk : k = g4 := hk; omega)
        have b7 := b6.trans (HF7.out.mono (fun k hk => .inr (by have hk : k = q := hk; rw [hk]; exact HQQ.out)))
        exact (b7.drew).fresh hF8 (fun k hk => by rcases hk with hk | hk <;> (have hk2 := hk; simp at hk2; omega)))
    clear hQ8 hK8 h1s h1k h1p h1l h1w
    go_wp2_with fail
    go_ret2
    exact ⟨⟨r, rfl⟩, HR.out⟩
end Go.Proofs.YtmniikihkpikdaaDoor
