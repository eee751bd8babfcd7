/- Part of the proofs of the three laws on reassembly: a script of pushes and reads, whatever queue stands behind it; conditions: as the theorem states. -/
import Derived.Test.YtmniikihkpikdaaDoorM14
namespace Go.Proofs.YtmniikihkpikdaaDoor
open Go.RowKit
set_option linter.unusedVariables false

/-- What the queue's words must bear. -/
structure ZzHyp (W : World) (f si : Int) (cs : List Ck) (N : Nat) (sz : Nat → Nat) (res : Nat → Res) (QI : Nat → List Ck → World → Prop) (RI : Nat → Nat → World → Prop) : Prop where
  q0 : ∀ w w' e, Below W.heap.size W w → w.heap.size = W.heap.size → NewQ w f si e w' → ∃ q, e = .returned (ptr q) ∧ QI q [] w' ∧ Below w.heap.size w w'
  qs : ∀ q D w w', QI q D w → Mod (fun _ => False) w w' → QI q D w'
  qp : ∀ q D c w j, QI q D w → CkAt w f si c → j < cs.length → D.map (·.pc) = (cs.take j).map (·.pc) → c.pc = (cs.getD j default).pc → Below W.heap.size W w → Calls Tryd.prog 16 #[ptr q, ptr c.b] w fun e w' => (∃ r : Bool, e = .returned (.bool r)) ∧ QI q (D ++ [c]) w' ∧ Below W.heap.size w w'
  r0 : ∀ q D w, QI q D w → D.map (·.pc) = cs.map (·.pc) → RI q 0 w
  rk : ∀ q j w w', RI q j w → Kt w w' → RI q j w'
  rq : ∀ q j w, RI q j w → W.heap.size ≤ q ∧ ∃ c, w.heap[q]? = some (Obj.cells c 64 (0, 0))
  rs : ∀ q j w, j < N → RI q j w → Below W.heap.size W w → Calls Tryd.prog 18 #[ptr q, .slice (some ⟨w.heap.size, 0, none⟩) (sz j) (sz j)] (w.alloc (.cells (madeCells #[.int .u8 0] (sz j)) 5)) (RdBack (w.alloc (.cells (madeCells #[.int .u8 0] (sz j)) 5)) q w.heap.size (sz j) (res j) (RI q (j + 1)))

set_option maxHeartbeats 2000000 in
set_option maxRecDepth 20000 in
theorem zz_any {w : World} {f si : Int} {cs : List Ck} {N : Nat} {sz : Nat → Nat} {res : Nat → Res} {QI : Nat → List Ck → World → Prop} {RI : Nat → Nat → World → Prop} (hyp : ZzHyp w f si cs N sz res QI RI)
    {ao so : Option Addr} {c sc : Nat} (hrow : RowAt 0 w ao cs.length c 9 (zval f si cs)) (hus : ∀ x ∈ cs, UsAt w x) (hszs : RowAt 0 w so N sc 1 (fun k => .int .i64 (sz k))) (hn0 : 0 < cs.length) (hn1 : cs.length ≤ 5000) (hN : N ≤ 1000) (hsz : ∀ j, sz j ≤ 65536) :
    Calls Tryd.prog 13 #[.slice ao cs.length c, .slice so N sc] w (ZzBack w N res) := by
  obtain ⟨i29, hi29, hz29, hzz1, hzz2⟩ := info_parts (show (Tryd.prog.info? 29).map (fun i => (i.zero, i.size, i.bytes)) = some (some (.slice none 0 0), 1, 24) by kernel_rfl)
  obtain ⟨i22, hi22, hz22, hzy1, hzy2⟩ := info_parts (show (Tryd.prog.info? 22).map (fun i => (i.zero, i.size, i.bytes)) = some (some (.int .u32 0), 1, 4) by kernel_rfl)
  obtain ⟨g, rfl, hcap, hcell⟩ := hrow.at hn0
  have HC := Lib.hid hcell; have HUS := Lib.hid hus; have HS := Lib.hid hszs; have HY := Lib.hid hyp; have HSZ := Lib.hid hsz
  have hgl : g < w.heap.size := lt_of_cell (hcell 0 (by omega))
  obtain ⟨n, hn⟩ : ∃ n, n = cs.length := ⟨_, rfl⟩
  have HN := Lib.hid hn
  rw [← hn] at hn0 hn1 hcap ⊢
  have c05 : w.cell? ⟨g, 5, none⟩ = some (.int .u16 si) := by rw [hcell 5 (by omega)]; rfl
  have hnI : (0 : Int) < n := by omega
  clear hrow hcell hus hszs hyp hn hsz
  go_enter Tryd.func13, Tryd.ntmps13
  go_wp2_with fail
  refine (newQ_any (f := f)).mono ?_
  rintro e w1 hnq
  obtain ⟨q, rfl, hqi, hb1⟩ := HY.out.q0 w w1 e (Below.refl _ w) rfl hnq
  have HQI := Lib.hid hqi; have HB1 := Lib.hid hb1
  unfold ptr
  clear hnq hqi hb1 c05
  go_wp2_with fail
  go_loopw [29] (fun vi wr => PushRel w QI q cs vi wr) (fun vi _ => n - (intOf vi).toNat)
  case atStart => exact ⟨0, [], Nat.zero_le _, rfl, rfl, HQI.out, HB1.out⟩
  case round =>
    obtain ⟨j, D, hj, rfl, hD, hqi, hb⟩ := hrel
    rw [← HN.out] at hj
    have HQ := Lib.hid hqi; have HB := Lib.hid hb; have HD := Lib.hid hD
    by_cases hjn : j < n
    · have hjI : (j : Int) < n := by omega
      obtain ⟨x, hx⟩ : ∃ x, x = cs.getD j default := ⟨_, rfl⟩
      have hjl : j < cs.length := by rw [← HN.out]; exact hjn
      have hxm : x ∈ cs := by rw [hx, List.getD_eq_getElem?_getD, List.getElem?_eq_getElem hjl]; exact List.getElem_mem _
      have hk : ∀ i, i < 9 → wr.cell? ⟨g, j * 9 + i, none⟩ = some ((zCells f si x).getD i undef) := fun i hi => by
        rw [hb.cell (p := ⟨g, j * 9 + i, none⟩) hgl, HC.out _ (by rw [← HN.out]; omega), zval_at _ _ _ _ _ hi, hx]
      have k0 : wr.cell? ⟨g, j * 9, none⟩ = some (.bool x.pc.un) := hk 0 (by omega)
      have k1 : wr.cell? ⟨g, j * 9 + 1, none⟩ = some (.bool x.pc.beg) := hk 1 (by omega)
      have k2 : wr.cell? ⟨g, j * 9 + 2, none⟩ = some (.bool x.pc.fin) := hk 2 (by omega)
      have k3 : wr.cell? ⟨g, j * 9 + 3, none⟩ = some (.bool false) := hk 3 (by omega)
      have k4 : wr.cell? ⟨g, j * 9 + 4, none⟩ = some (.int .u32 (U f x.pc.p)) := hk 4 (by omega)
      have k5 : wr.cell? ⟨g, j * 9 + 5, none⟩ = some (.int .u16 si) := hk 5 (by omega)
      have k6 : wr.cell? ⟨g, j * 9 + 6, none⟩ = some (.int .u16 x.pc.k) := hk 6 (by omega)
      have k7 : wr.cell? ⟨g, j * 9 + 7, none⟩ = some (.int .u32 x.pc.proto) := hk 7 (by omega)
      have k8 : wr.cell? ⟨g, j * 9 + 8, none⟩ = some (.slice (some ⟨x.ug, 0, none⟩) x.pc.bytes.length x.uc) := hk 8 (by omega)
      have hjc : (j : Int) < c := by omega
      have w1j := wraps_i64 ((j : Int) + 1) (by omega) (by omega)
      have HX := Lib.hid hx; have HXM := Lib.hid hxm; have HJL := Lib.hid hjl
      clear hqi hb hD hx hxm hjl hk
      go_wp2_with fail
      generalize hWA : World.alloc wr _ = wa
      have MA : Mod (fun _ => False) wr wa := by rw [← hWA]; exact (Mod.refl _ wr).alloc _
      have hgu : x.ug < w.heap.size := by
        obtain ⟨cur, h1, _⟩ := (HUS.out x HXM.out).usr
        exact (Array.getElem?_eq_some_iff.1 h1).1
      have UA := ((HUS.out x HXM.out).below HB.out hgu).mod MA (fun h => h)
      have PA := payload_any (w := wa) (f := f) (si := si) (c := x)
      unfold ptr at PA
      have CA := pay_ck (f := f) (si := si) UA
      have MP : Mod (fun _ => False) wa (payW wa f si x) := pay_mod
      have BP : Below w.heap.size w (payW wa f si x) := HB.out.trans ((MA.trans MP).below HB.out.size (fun _ h => h.elim))
      have HPU := Lib.hid (HY.out.qp q D _ _ j (HY.out.qs q D _ _ HQ.out (MA.trans MP)) CA HJL.out HD.out (by rw [← HX.out]) BP)
      have HPA := Lib.hid PA; have HBP := Lib.hid BP
      unfold ptr at HPU
      generalize hWP : payW wa f si x = wp at HPU HPA HBP
      generalize hbp : wa.heap.size + 1 = bp at HPU HPA
      clear hWA MA UA PA CA MP BP hgu hWP hbp k0 k1 k2 k3 k4 k5 k6 k7 k8
      refine HPA.out.mono ?_
      rintro e w3 ⟨rfl, hw3⟩
      obtain rfl := hw3.symm
      clear hw3
      go_wp2_with fail
      refine HPU.out.mono ?_
      rintro e w4 ⟨⟨r, rfl⟩, hq4, hb4⟩
      have HQ4 := Lib.hid hq4; have HB4 := Lib.hid hb4
      clear hq4 hb4 HPU HPA
      go_wp2_with fail
      go_roundw
      case rel =>
        refine ⟨j + 1, _, HJL.out, by go_num, ?_, HQ4.out, HBP.out.trans HB4.out⟩
        rw [List.map_append, HD.out, List.take_succ_eq_append_getElem HJL.out, List.map_append, HX.out]
        simp [List.getD_eq_getElem?_getD, HJL.out]
      case measure => simp [intOf]; omega
    · obtain rfl : j = n := by omega
      have hjj : (j : Int) ≤ j := Int.le_refl _
      have hDD : D.map (·.pc) = cs.map (·.pc) := by rw [hD, HN.out, List.take_length]
      have HR := Lib.hid (HY.out.r0 q D wr hqi hDD)
      clear hqi hb hD hDD
      go_wp2_with fail
      go_loopw [10, 11, 40] (fun v10 v11 vi wr => ReadRel w RI q N res v10 v11 vi wr) (fun _ _ vi _ => N - (intOf vi).toNat)
      case atStart => exact ⟨0, [], Nat.zero_le _, rfl, World.ownsRow_nil _ _ _ _, World.ownsRow_nil _ _ _ _, fun k x h => (by cases h), HR.out, HB.out⟩
      case round =>
        clear HR HB HQ HD hjn hj
        obtain ⟨j, vals, hj, rfl, ho1, ho2, hout, hri, hb⟩ := hrel
        have HO1 := Lib.hid ho1; have HO2 := Lib.hid ho2; have HOUT := Lib.hid hout; have HR := Lib.hid hri; have HB := Lib.hid hb
        have hsB := hb.size
        by_cases hjN : j < N
        · have hjI : (j : Int) < N := by omega
          obtain ⟨s, rfl, hsc, hscell⟩ := HS.out.at (by omega)
          have c0 : wr.cell? ⟨s, j, none⟩ = some (.int .i64 (sz j)) := by
            have h0 := hscell j (by omega)
            rw [hb.cell (p := ⟨s, j, none⟩) (lt_of_cell h0)]; exact h0
          have hz := HSZ.out j
          have HRS := Lib.hid (HY.out.rs q j wr hjN hri hb)
          obtain ⟨n, hn⟩ : ∃ n, n = sz j := ⟨_, rfl⟩
          rw [← hn] at c0 hz HRS
          have hmk := mk29 n (by omega)
          have hscI : (j : Int) < sc := by omega
          have w1j := wraps_i64 ((j : Int) + 1) (by omega) (by omega)
          clear ho1 ho2 hout hri hb hscell hn
          go_wp2_with fail
          unfold ptr at HRS
          obtain ⟨gb, hgb⟩ : ∃ gb, gb = wr.heap.size := ⟨_, rfl⟩
          have HGB := Lib.hid hgb
          rw [← hgb] at HRS
          rw [← hgb]
          obtain ⟨hqB, hqt⟩ := HY.out.rq q j wr HR.out
          have HQT := Lib.hid hqt
          clear hmk hgb hqt
          refine HRS.out.mono ?_
          rintro e w2 ⟨hri2, hM2, hcase⟩
          have HR2 := Lib.hid hri2
          have HO12 := Lib.hid (own_read HO1.out HGB.out hM2 HQT.out (by decide))
          have HO22 := Lib.hid (own_read HO2.out HGB.out hM2 HQT.out (by decide))
          have HOUT2 : Hid (∀ k x, vals[k]? = some x → OutAt w.heap.size w2 x (res k)) := Lib.hid (fun k x hk => (HOUT.out k x hk).read HGB.out hM2 HQT.out)
          have HB2 : Hid (Below w.heap.size w w2) := Lib.hid ((HB.out.alloc hsB _).trans (hM2.below (by simp; omega) (fun k hk => by have := HGB.out; rcases hk with hk | hk <;> omega)))
          have hsB2 := HB2.out.size
          have hvl : vals.length = j := by have := HO1.out.1; simpa using this
          have HVL := Lib.hid hvl
          clear HRS hri2 hM2 hvl hsB
          rcases hcase with ⟨hres, k, u, v, rfl⟩ | ⟨l, p, hres, hle, rfl, hfil⟩
          · have HRES := Lib.hid hres
            clear hres
            go_wp2_with (first
              | (at_builtin; refine wpList_append_one rfl _ _ 23 rfl w.heap.size 29 i29 (.slice none 0 0) 24 Tryd.underlying23 hi29 hz29 hzz1 hzz2 rfl u10 j vals _ rfl HO12.out rfl rfl (by omega) (by omega) hsB2 ?_; intro g5 cap5 w5 hown5 hM5 hat5; have HO5 := Lib.hid hown5; have HM5 := Lib.hid hM5; have HO25 := Lib.hid (owned_modS HO22.out hM5 (fun b hb hk => own_apart HO12.out HO22.out (by decide) b hk hb)); have hsB5 : w.heap.size ≤ w5.heap.size := Nat.le_trans hsB2 hM5.size; clear hown5 hM5 hat5)
              | (at_builtin; refine wpList_append_one rfl _ _ 44 rfl w.heap.size 22 i22 (.int .u32 0) 4 Tryd.underlying44 hi22 hz22 hzy1 hzy2 rfl u11 j _ _ rfl HO25.out rfl rfl (by omega) (by omega) hsB5 ?_; intro g6 cap6 w6 hown6 hM6 hat6; have HO6 := Lib.hid hown6; have HM6 := Lib.hid hM6; clear hown6 hM6 hat6))
            have K25 : Kt w2 w6 := (own_kt HO12.out HM5.out (by unfold rT; decide)).trans (own_kt HO25.out HM6.out (by unfold rT; decide))
            refine ⟨⟨j + 1, vals ++ [.slice none 0 0], hjN, by go_num, owned_modS HO5.out HM6.out (fun b hb hk => own_apart HO25.out HO5.out (by decide) b hk hb), ?_, fun k x hk => ?_, HY.out.rk q (j + 1) w2 w6 HR2.out K25, ?_⟩, by simp [intOf]; omega⟩
            · rw [List.range_succ, List.map_append, List.map_cons, List.map_nil, HRES.out]
              exact HO6.out
            · rcases Nat.lt_or_ge k j with h | h
              · rw [List.getElem?_append_left (by rw [HVL.out]; exact h)] at hk
                exact (HOUT2.out k x hk).kt K25
              · have hkl := (List.getElem?_eq_some_iff.1 hk).1
                rw [List.length_append, HVL.out, List.length_singleton] at hkl
                obtain rfl : k = j := by omega
                rw [List.getElem?_append_right (by rw [HVL.out]; exact Nat.le_refl _), HVL.out, Nat.sub_self] at hk
                obtain rfl := Option.some.inj hk
                rw [HRES.out]
                exact .inl ⟨rfl, none, 0, rfl⟩
            · exact (HB2.out.trans (own_below HO12.out hsB2 HM5.out)).trans (own_below HO25.out hsB5 HM6.out)
          · obtain ⟨ll, hll⟩ : ∃ ll, ll = l.length := ⟨_, rfl⟩
            have HRES := Lib.hid hres; have HLL := Lib.hid hll; have HFIL := Lib.hid hfil
            rw [← hll] at hle ⊢
            have hleI : (ll : Int) ≤ n := by omega
            clear hres hll hfil
            go_wp2_with (first
              | (at_builtin; refine wpList_append_one rfl _ _ 23 rfl w.heap.size 29 i29 (.slice none 0 0) 24 Tryd.underlying23 hi29 hz29 hzz1 hzz2 rfl u10 j vals _ rfl HO12.out rfl rfl (by omega) (by omega) hsB2 ?_; intro g5 cap5 w5 hown5 hM5 hat5; have HO5 := Lib.hid hown5; have HM5 := Lib.hid hM5; have HO25 := Lib.hid (owned_modS HO22.out hM5 (fun b hb hk => own_apart HO12.out HO22.out (by decide) b hk hb)); have hsB5 : w.heap.size ≤ w5.heap.size := Nat.le_trans hsB2 hM5.size; clear hown5 hM5 hat5)
              | (at_builtin; refine wpList_append_one rfl _ _ 44 rfl w.heap.size 22 i22 (.int .u32 0) 4 Tryd.underlying44 hi22 hz22 hzy1 hzy2 rfl u11 j _ _ rfl HO25.out rfl rfl (by omega) (by omega) hsB5 ?_; intro g6 cap6 w6 hown6 hM6 hat6; have HO6 := Lib.hid hown6; have HM6 := Lib.hid hM6; clear hown6 hM6 hat6))
            have K25 : Kt w2 w6 := (own_kt HO12.out HM5.out (by unfold rT; decide)).trans (own_kt HO25.out HM6.out (by unfold rT; decide))
            refine ⟨⟨j + 1, vals ++ [.slice (some ⟨gb, 0, none⟩) ll n], hjN, by go_num, owned_modS HO5.out HM6.out (fun b hb hk => own_apart HO25.out HO5.out (by decide) b hk hb), ?_, fun k x hk => ?_, HY.out.rk q (j + 1) w2 w6 HR2.out K25, ?_⟩, by simp [intOf]; omega⟩
            · rw [List.range_succ, List.map_append, List.map_cons, List.map_nil, HRES.out]
              exact HO6.out
            · rcases Nat.lt_or_ge k j with h | h
              · rw [List.getElem?_append_left (by rw [HVL.out]; exact h)] at hk
                exact (HOUT2.out k x hk).kt K25
              · have hkl := (List.getElem?_eq_some_iff.1 hk).1
                rw [List.length_append, HVL.out, List.length_singleton] at hkl
                obtain rfl : k = j := by omega
                rw [List.getElem?_append_right (by rw [HVL.out]; exact Nat.le_refl _), HVL.out, Nat.sub_self] at hk
                obtain rfl := Option.some.inj hk
                rw [HRES.out]
                exact (OutAt.kt (.inr ⟨l, p, gb, n, rfl, by rw [HLL.out], by rw [← HLL.out]; exact hle, by rw [HGB.out]; exact HB.out.size, by rw [← HLL.out]; omega, by obtain ⟨cs, h1, h2, h3⟩ := HFIL.out; exact ⟨cs, h1, h3 (by rw [← HLL.out]; exact hle)⟩⟩) K25)
            · exact (HB2.out.trans (own_below HO12.out hsB2 HM5.out)).trans (own_below HO25.out hsB5 HM6.out)
        · obtain rfl : j = N := by omega
          have hjj2 : (j : Int) ≤ j := Int.le_refl _
          clear ho1 ho2 hout hri hb
          go_wp2_with fail
          go_ret2
          exact ⟨_, _, vals, rfl, HO1.out, HO2.out, HOUT.out, HB.out⟩
end Go.Proofs.YtmniikihkpikdaaDoor
