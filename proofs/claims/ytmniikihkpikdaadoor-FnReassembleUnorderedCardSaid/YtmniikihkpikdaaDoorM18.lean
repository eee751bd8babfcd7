/- Part of the proofs of the three laws on reassembly: impl.Reassemble walked whole, whatever queue stands behind it; conditions: as the theorem states. -/
import Derived.Test.YtmniikihkpikdaaDoorM17
namespace Go.Proofs.YtmniikihkpikdaaDoor
open Go.RowKit
set_option linter.unusedVariables false

/-- The loop that copies the chunks. -/
def CopyRel (w : World) (f si : Int) (ds : List Dk) (v9 vi : Value) (wr : World) : Prop :=
  ∃ (j : Nat) (zs : List Ck), j ≤ ds.length ∧ vi = .int .i64 j ∧ zs.map (·.pc) = (ds.take j).map (·.pc) ∧ wr.ownsRow w.heap.size 42 9 v9 j (zs.flatMap fun z => (zCells f si z).toList) ∧ (∀ z ∈ zs, UsAt wr z ∧ w.heap.size ≤ z.ug) ∧ Below w.heap.size w wr
/-- The loop that copies what was read. -/
def TextRel (w : World) (N : Nat) (res : Nat → Res) (v14 v15 vi : Value) (wr : World) : Prop :=
  ∃ (j : Nat) (vals : List Value), j ≤ N ∧ vi = .int .i64 j ∧ wr.ownsRow w.heap.size 29 1 v14 j vals ∧ wr.ownsRow w.heap.size 3 1 v15 j ((List.range j).map fun k => .int .i64 (res k).pr) ∧ (∀ k x, vals[k]? = some x → OutAt w.heap.size wr x (res k)) ∧ Below w.heap.size w wr
theorem us_ext {w w' : World} {z : Ck} {B e n s : Nat} {v : Value} {xs : List Value} (h : UsAt w z) (ho : w.ownsRow B e s v n xs) (hM : Mod (fun k => v.ownBlock = some k) w w') (he : e ≠ 5) : UsAt w' z := by
  refine h.mod hM (fun hk => ?_)
  obtain ⟨cur, h1, _⟩ := h.usr
  rcases ho.2 with ⟨rfl, _⟩ | ⟨g, cap, cu, rfl, _, hg, _⟩
  · cases hk
  · have e1 : g = z.ug := by simpa [Value.ownBlock] using hk
    rw [e1] at hg
    exact ne_of_type hg h1 he rfl
theorem own_far {w w' : World} {B e s n : Nat} {v : Value} {xs : List Value} (h : w.ownsRow B e s v n xs) (hb : Below w.heap.size w w') : w'.ownsRow B e s v n xs := by
  refine ⟨h.1, ?_⟩
  rcases h.2 with hn | ⟨g, cap, cur, rfl, hB, hg, hr⟩
  · exact .inl hn
  · exact .inr ⟨g, cap, cur, rfl, hB, (hb.block g (Array.getElem?_eq_some_iff.1 hg).1).trans hg, hr⟩
theorem out_far {B : Nat} {w w' : World} {v : Value} {r : Res} (h : OutAt B w v r) (hb : Below w.heap.size w w') : OutAt B w' v r :=
  h.kt (fun k cs T hk _ => hb.block k (Array.getElem?_eq_some_iff.1 hk).1)
theorem out_mono {B C : Nat} {w : World} {v : Value} {r : Res} (h : OutAt B w v r) (hC : C ≤ B) : OutAt C w v r := by
  rcases h with h | ⟨l, p, g, c, h1, h2, h3, h4, h5⟩
  · exact .inl h
  · exact .inr ⟨l, p, g, c, h1, h2, h3, Nat.le_trans hC h4, h5⟩

/-- The form of a value that owns a row. -/
theorem own_form {w : World} {B e n : Nat} {v : Value} {xs : List Value} (h : w.ownsRow B e 1 v n xs) : ∃ ao c, v = .slice ao n c ∧ n ≤ c ∧ ∀ k x, xs[k]? = some x → ∃ g, ao = some ⟨g, 0, none⟩ ∧ B ≤ g ∧ w.cell? ⟨g, k, none⟩ = some x := by
  have hl := h.1
  rcases h.2 with ⟨rfl, rfl⟩ | ⟨g, cap, cur, rfl, hB, hg, hr⟩
  · refine ⟨none, 0, rfl, Nat.le_refl _, fun k x hx => ?_⟩
    have := (List.getElem?_eq_some_iff.1 hx).1
    omega
  · exact ⟨_, cap, rfl, hr.1, fun k x hx => ⟨g, rfl, hB, own_cell h hx⟩⟩
theorem bytes_of_block {w : World} {g c : Nat} {l : List Int} {cs : Array Value} (h : w.heap[g]? = some (.cells cs 5 (0, 0))) (ht : cs.toList.take l.length = l.map (Value.int .u8)) (hc : l.length ≤ c) (hb : ∀ i, 0 ≤ l.getD i 0 ∧ l.getD i 0 < 256) : BytesAt w (some ⟨g, 0, none⟩) l.length c l := by
  refine ⟨rfl, hc, (fun h => by cases h), fun a ha i hi => ?_, hb⟩
  obtain rfl := Option.some.inj ha
  rw [show (⟨g, 0, none⟩ : Addr).add i = ⟨g, i, none⟩ from by unfold Addr.add; split <;> simp_all, cell_of_block h]
  have : (cs.toList.take l.length)[i]? = some (.int .u8 (l.getD i 0)) := by
    rw [ht, List.getElem?_map, List.getElem?_eq_getElem hi]; simp [List.getD_eq_getElem?_getD, List.getElem?_eq_getElem hi]
  rw [List.getElem?_take_of_lt hi, Array.getElem?_toList] at this
  exact this
set_option maxHeartbeats 2000000 in
set_option maxRecDepth 20000 in
theorem re_any {w : World} {f si : Int} {ds : List Dk} {N : Nat} {sz : Nat → Nat} {res : Nat → Res} {ao so : Option Addr} {c sc : Nat}
    (hyp : ∀ (W : World) (zs : List Ck), Below w.heap.size w W → zs.map (·.pc) = ds.map (·.pc) → ∃ QI RI, ZzHyp W f si zs N sz res QI RI)
    (hrow : RowAt 0 w ao ds.length c 9 (dval f si ds)) (hds : ∀ d ∈ ds, DkAt w d) (hszs : RowAt 0 w so N sc 1 (fun k => .int .i64 (sz k))) (hn0 : 0 < ds.length) (hn1 : ds.length ≤ 5000) (hN : N ≤ 1000) (hsz : ∀ j, sz j ≤ 65536) (hsi : 0 ≤ si ∧ si < 65536)
    (hres : ∀ k l p, res k = some (l, p) → 0 < l.length ∧ (∀ i, 0 ≤ l.getD i 0 ∧ l.getD i 0 < 256) ∧ 0 ≤ p ∧ p < 4294967296) :
    Calls Tryd.prog 9 #[.slice ao ds.length c, .slice so N sc] w (ReBack w N res) := by
  obtain ⟨i42, hi42, hz42, hzz1, hzz2⟩ := info_parts (show (Tryd.prog.info? 42).map (fun i => (i.zero, i.size, i.bytes)) = some (some (.agg zz0), 9, 40) by kernel_rfl)
  obtain ⟨i3, hi3, hz3, hzy1, hzy2⟩ := info_parts (show (Tryd.prog.info? 3).map (fun i => (i.zero, i.size, i.bytes)) = some (some (.int .i64 0), 1, 8) by kernel_rfl)
  obtain ⟨i29, hi29, hz29, hzx1, hzx2⟩ := info_parts (show (Tryd.prog.info? 29).map (fun i => (i.zero, i.size, i.bytes)) = some (some (.slice none 0 0), 1, 24) by kernel_rfl)
  obtain ⟨g, rfl, hcap, hcell⟩ := hrow.at hn0
  have HC := Lib.hid hcell; have HDS := Lib.hid hds; have HS := Lib.hid hszs; have HY := Lib.hid hyp; have HSZ := Lib.hid hsz; have HRES := Lib.hid hres; have HSI := Lib.hid hsi
  have hgl : g < w.heap.size := lt_of_cell (hcell 0 (by omega))
  obtain ⟨n, hn⟩ : ∃ n, n = ds.length := ⟨_, rfl⟩
  have HNN := Lib.hid hn
  rw [← hn] at hn0 hn1 hcap ⊢
  have hnI : (0 : Int) < n := by omega
  clear hrow hcell hds hszs hyp hn hsz hres hsi
  go_enter Tryd.func9, Tryd.ntmps9
  go_wp2_with fail
  go_loopw [20] (fun vi wr => ∃ j : Nat, j ≤ N ∧ vi = .int .i64 j ∧ wr = w) (fun vi _ => N - (intOf vi).toNat)
  case atStart => exact ⟨0, Nat.zero_le _, rfl, rfl⟩
  case round =>
    obtain ⟨j, hj, rfl, hwr⟩ := hrel
    obtain rfl := hwr.symm
    by_cases hjn : j < N
    · have hjI : (j : Int) < N := by omega
      obtain ⟨s, rfl, hsc, hscell⟩ := HS.out.at (by omega)
      have c0 : w.cell? ⟨s, j, none⟩ = some (.int .i64 (sz j)) := hscell j (by omega)
      have hz := HSZ.out j
      obtain ⟨n, hn⟩ : ∃ n, n = sz j := ⟨_, rfl⟩
      rw [← hn] at c0 hz
      have hzI : (n : Int) ≤ 65536 := by omega
      have hz0 : ¬ (n : Int) < 0 := by omega
      have hz1 : ¬ (65536 : Int) < n := by omega
      have hscI : (j : Int) < sc := by omega
      have w1j := wraps_i64 ((j : Int) + 1) (by omega) (by omega)
      clear hscell hn
      go_wp2_with fail
      go_roundw
      case rel => exact ⟨j + 1, by omega, by go_num, trivial⟩
      case measure => simp [intOf]; omega
    · obtain rfl : j = N := by omega
      have hjj : (j : Int) ≤ j := Int.le_refl _
      go_wp2_with fail
      go_loopw [9, 33] (fun v9 vi wr => CopyRel w f si ds v9 vi wr) (fun _ vi _ => n - (intOf vi).toNat)
      case atStart => exact ⟨0, [], Nat.zero_le _, rfl, rfl, World.ownsRow_nil _ _ _ _, fun z hz => (by cases hz), Below.refl _ _⟩
      case round =>
        obtain ⟨k, zs, hk, rfl, hpc, hown, hzs, hb⟩ := hrel
        rw [← HNN.out] at hk
        have HPC := Lib.hid hpc; have HO := Lib.hid hown; have HZS := Lib.hid hzs; have HB := Lib.hid hb
        have hsB := hb.size
        by_cases hkn : k < n
        · have hkI : (k : Int) < n := by omega
          obtain ⟨x, hx⟩ : ∃ x, x = ds.getD k default := ⟨_, rfl⟩
          have hkl : k < ds.length := by rw [← HNN.out]; exact hkn
          have hxm : x ∈ ds := by rw [hx, List.getD_eq_getElem?_getD, List.getElem?_eq_getElem hkl]; exact List.getElem_mem _
          have hkc : ∀ i, i < 9 → wr.cell? ⟨g, k * 9 + i, none⟩ = some ((dCells f si x).getD i undef) := fun i hi => by
            rw [hb.cell (p := ⟨g, k * 9 + i, none⟩) hgl, HC.out _ (by rw [← HNN.out]; omega), dval_at _ _ _ _ _ hi, hx]
          have k0 : wr.cell? ⟨g, k * 9, none⟩ = some (.bool x.pc.un) := hkc 0 (by omega)
          have k1 : wr.cell? ⟨g, k * 9 + 1, none⟩ = some (.bool x.pc.beg) := hkc 1 (by omega)
          have k2 : wr.cell? ⟨g, k * 9 + 2, none⟩ = some (.bool x.pc.fin) := hkc 2 (by omega)
          have k3 : wr.cell? ⟨g, k * 9 + 3, none⟩ = some (.bool false) := hkc 3 (by omega)
          have k4 : wr.cell? ⟨g, k * 9 + 4, none⟩ = some (.int .u32 (U f x.pc.p)) := hkc 4 (by omega)
          have k5 : wr.cell? ⟨g, k * 9 + 5, none⟩ = some (.int .i64 si) := hkc 5 (by omega)
          have k6 : wr.cell? ⟨g, k * 9 + 6, none⟩ = some (.int .i64 x.pc.k) := hkc 6 (by omega)
          have k7 : wr.cell? ⟨g, k * 9 + 7, none⟩ = some (.int .u32 x.pc.proto) := hkc 7 (by omega)
          have k8 : wr.cell? ⟨g, k * 9 + 8, none⟩ = some (.slice (some ⟨x.ug, x.uo, none⟩) x.pc.bytes.length x.uc) := hkc 8 (by omega)
          have hjc : (k : Int) < c := by omega
          have w1j := wraps_i64 ((k : Int) + 1) (by omega) (by omega)
          have HX := Lib.hid hx; have HXM := Lib.hid hxm; have HKL := Lib.hid hkl
          clear hpc hown hzs hb hx hxm hkl hkc
          go_wp2_with fail
          generalize hWA : World.alloc wr _ = wa
          have MA : Mod (fun _ => False) wr wa := by rw [← hWA]; exact (Mod.refl _ wr).alloc _
          have DX := (HDS.out x HXM.out).mod (S := fun k => w.heap.size ≤ k) ((Mod.mono (T := fun k => w.heap.size ≤ k) (Mod.of_below (S := fun _ => False) (HB.out)) (fun _ h => h.elim)).trans (MA.mono (fun _ h => h.elim))) (by have := (HDS.out x HXM.out).lt; omega)
          have HDC := Lib.hid (dataOf_any (f := f) (si := si) DX HSI.out)
          have HMA := Lib.hid MA
          unfold dCells at HDC
          clear hWA MA DX k0 k1 k2 k3 k4 k5 k6 k7 k8
          refine HDC.out.mono ?_
          rintro e w3 ⟨ug, uc, rfl, hus, hug, hb3⟩
          obtain ⟨z, hz⟩ : ∃ z : Ck, z = ⟨0, x.pc, ug, uc⟩ := ⟨_, rfl⟩
          rw [← hz] at hus ⊢
          have HZ := Lib.hid hz; have HU3 := Lib.hid hus; have HB3 := Lib.hid hb3; have HUG := Lib.hid hug
          have hsA := HMA.out.size
          have hsB3 : w.heap.size ≤ w3.heap.size := by have := hb3.size; omega
          have HO3 : Hid (w3.ownsRow w.heap.size 42 9 u9 k (zs.flatMap fun z => (zCells f si z).toList)) := Lib.hid (own_far (owned_modS HO.out HMA.out (fun _ _ h => h)) hb3)
          clear hz hus hug hb3 HDC
          unfold zCells
          go_wp2_with (first | (at_builtin; refine wpList_append_rec rfl _ _ 39 rfl w.heap.size 42 i42 (.agg zz0) 9 40 Tryd.underlying39 hi42 hz42 hzz1 hzz2 rfl (by decide) u9 k _ (zCells f si z) rfl HO3.out rfl rfl (by intro u hu; simp [zCells] at hu; rcases hu with rfl | rfl | rfl | rfl | rfl | rfl | rfl | rfl | rfl <;> rfl) (by omega) (by omega) hsB3 ?_; intro g5 cap5 w5 hown5 hM5; have HO5 := Lib.hid hown5; have HM5 := Lib.hid hM5; clear hown5 hM5))
          have BA3 : Below w.heap.size wr w3 := (HMA.out.below hsB (fun _ h => h.elim)).trans (HB3.out.mono hsA |>.mono hsB)
          refine ⟨⟨k + 1, zs ++ [z], HKL.out, by go_num, ?_, by rw [List.flatMap_append, List.flatMap_singleton]; exact HO5.out, fun y hy => ?_, (HB.out.trans BA3).trans (HM5.out.below hsB3 (fun b hb => (HO3.out.lt b hb).1))⟩, by simp [intOf]; omega⟩
          · rw [List.map_append, HPC.out, List.take_succ_eq_append_getElem HKL.out, List.map_append, HZ.out, HX.out]
            simp [List.getD_eq_getElem?_getD, HKL.out]
          · rcases List.mem_append.1 hy with hy | hy
            · obtain ⟨h1, h2⟩ := HZS.out y hy
              have h3 := (h1.mod HMA.out (fun h => h)).below HB3.out (by obtain ⟨cur, h4, _⟩ := h1.usr; have := (Array.getElem?_eq_some_iff.1 h4).1; omega)
              exact ⟨us_ext h3 HO3.out HM5.out (by decide), h2⟩
            · obtain rfl := List.mem_singleton.1 hy
              exact ⟨us_ext HU3.out HO3.out HM5.out (by decide), by have := HUG.out; have e : y.ug = ug := (by rw [HZ.out]); omega⟩
        · obtain rfl : k = n := by omega
          have hkk : (k : Int) ≤ k := Int.le_refl _
          have hpc' : zs.map (·.pc) = ds.map (·.pc) := by rw [hpc, HNN.out, List.take_length]
          have hzl : zs.length = k := by have := congrArg List.length hpc'; simpa [HNN.out] using this
          obtain ⟨za, zc, rfl, hzr⟩ := row_of_own9 (zCells f si) (fun _ => rfl) default hzl hown
          have HZR := Lib.hid hzr; have HPC := Lib.hid hpc'; have HZL := Lib.hid hzl
          have HSR := Lib.hid (HS.out.mod (Mod.of_below (S := fun _ => False) hb) (fun _ h => h.elim))
          clear hpc hpc' hzl hown hzr hjn hj hkn hk hzs hb
          go_wp2_with (first | (at_builtin; refine wpList_copied _ rfl _ _ 24 rfl 3 i3 (.int .i64 0) 8 Tryd.underlying24 hi3 hz3 hzy1 hzy2 rfl rfl _ _ _ _ _ rfl HSR.out (fun _ => rfl) (by omega) (by omega) ?_; intro a1 c1 w1 hr1 hb1))
          have hs1 := hb1.size
          have B1 := HB.out.trans (hb1.mono hsB)
          have HB1 := Lib.hid B1
          obtain ⟨QI, RI, hz⟩ := HY.out w1 zs B1 HPC.out
          have HZZ := Lib.hid (zz_any hz (c := zc) (ao := za) ((by rw [HZL.out]; exact (HZR.out.mod (Mod.of_below (S := fun _ => False) hb1) (fun _ h => h.elim)).mono (Nat.zero_le _)) : RowAt 0 w1 za zs.length zc 9 (zval f si zs)) (fun z hz => ((HZS.out z hz).1).mod (Mod.of_below (S := fun _ => False) hb1) (fun h => h)) (hr1.mono (Nat.zero_le _)) (by rw [HZL.out]; omega) (by rw [HZL.out]; omega) hN HSZ.out)
          rw [HZL.out] at HZZ
          clear hr1 hb1 B1 hz
          go_wp2_with fail
          refine HZZ.out.mono ?_
          rintro e w2 ⟨v1, v2, vals, rfl, ho1, ho2, hout, hb2⟩
          obtain ⟨ta, tc, rfl, htc, hta⟩ := own_form ho1
          obtain ⟨pa, pc, rfl, hpc2, hpa⟩ := own_form ho2
          have hvl : vals.length = j := by have := ho1.1; simpa using this
          have HVL := Lib.hid hvl; have HTA := Lib.hid hta; have HPA := Lib.hid hpa; have HOUT := Lib.hid hout; have HB2 := Lib.hid (HB1.out.trans (hb2.mono HB1.out.size))
          have hs2 := hb2.size
          clear ho1 ho2 hout hb2 hta hpa hvl HZZ HSR HZS HZR HO HPC hs1
          go_wp2_with fail
          go_loopw [14, 15, 52] (fun v14 v15 vi wr => TextRel w2 j res v14 v15 vi wr) (fun _ _ vi _ => j - (intOf vi).toNat)
          case atStart => exact ⟨0, [], Nat.zero_le _, rfl, World.ownsRow_nil _ _ _ _, World.ownsRow_nil _ _ _ _, fun k x h => (by cases h), Below.refl _ _⟩
          case round =>
            obtain ⟨i, outs, hi, rfl, ho1, ho2, hout, hb⟩ := hrel
            have HO1 := Lib.hid ho1; have HO2 := Lib.hid ho2; have HOU := Lib.hid hout; have HBR := Lib.hid hb
            have hsR := hb.size
            by_cases hij : i < j
            · have hiI : (i : Int) < j := by omega
              have hiv : i < vals.length := by rw [HVL.out]; exact hij
              obtain ⟨x, hx⟩ : ∃ x, vals[i]? = some x := ⟨_, List.getElem?_eq_getElem hiv⟩
              obtain ⟨t, rfl, _, htx⟩ := HTA.out i x hx
              obtain ⟨p, rfl, _, hpx⟩ := HPA.out i (.int .u32 (res i).pr) (by rw [List.getElem?_map, List.getElem?_range hij]; rfl)
              have c0 : wr.cell? ⟨t, i, none⟩ = some x := (hb.cell (p := ⟨t, i, none⟩) (lt_of_cell htx)).trans htx
              have c1 : wr.cell? ⟨p, i, none⟩ = some (.int .u32 (res i).pr) := (hb.cell (p := ⟨p, i, none⟩) (lt_of_cell hpx)).trans hpx
              have hpp : 0 ≤ (res i).pr ∧ (res i).pr < 4294967296 := by
                cases hr : res i with
                | none => exact ⟨by show (0 : Int) ≤ 0; omega, by show (0 : Int) < 4294967296; omega⟩
                | some y => obtain ⟨l, p⟩ := y; exact (HRES.out i l p hr).2.2
              have hox := out_far (HOUT.out i x hx) hb
              have hvo : outs.length = i := by have := ho1.1; simpa using this
              have HVO := Lib.hid hvo
              obtain ⟨pr, hpr⟩ : ∃ pr, pr = (res i).pr := ⟨_, rfl⟩
              rw [← hpr] at c1 hpp
              have HPR := Lib.hid hpr
              obtain ⟨hp0, hp1⟩ := hpp
              have wpr : IntKind.i64.wrap pr = pr := wraps_i64 _ hp0 (by omega)
              have w1i := wraps_i64 ((i : Int) + 1) (by omega) (by omega)
              have hitc : (i : Int) < tc := by omega
              have hipc : (i : Int) < pc := by omega
              have hcp : ∃ m ca bs aa, x = .slice aa m ca ∧ m ≤ 65536 ∧ BytesAt wr aa m ca bs ∧ ∀ (w3 : World) (g : Option Addr) (cc : Nat), w3.ownsRow wr.heap.size 5 1 (.slice g m cc) m (bs.map (Value.int .u8)) → OutAt w2.heap.size w3 (.slice g m cc) (res i) := by
                rcases hox with ⟨h1, aa, ca, h2⟩ | ⟨l, p, gg, ca, h1, h2, h3, h4, h5, cs, h6, h7⟩
                · exact ⟨0, ca, [], aa, h2, by omega, ⟨rfl, Nat.zero_le _, fun _ => rfl, (fun _ _ i h => absurd h (Nat.not_lt_zero i)), (fun i => ⟨Int.le_refl 0, (by omega : (0 : Int) < 256)⟩)⟩, fun w3 g cc ho => .inl ⟨h1, g, cc, rfl⟩⟩
                · obtain ⟨r1, r2, _⟩ := HRES.out i l p h1
                  refine ⟨l.length, ca, l, _, h2, h5, bytes_of_block h6 h7 h3 r2, fun w3 g cc ho => ?_⟩
                  obtain ⟨g', rfl⟩ : ∃ g', g = some ⟨g', 0, none⟩ := by
                    rcases ho.2 with ⟨_, h0⟩ | ⟨g', cap, cur, e, _⟩
                    · omega
                    · exact ⟨g', (Value.slice.inj e).1⟩
                  obtain ⟨hBg, cur, hg, hnc, htk⟩ := own_row ho
                  exact .inr ⟨l, p, g', cc, h1, rfl, hnc, by omega, h5, cur, hg, htk⟩
              obtain ⟨m, ca, bs, aa, rfl, hm, hbs, hcp⟩ := hcp
              have HCO := Lib.hid (copied_own aa m ca bs wr hbs (by omega))
              have HCP := Lib.hid hcp
              clear ho1 ho2 hout hb hox hbs hcp hx htx hpx hpr hvo
              go_wp2_with fail
              refine HCO.out.mono ?_
              rintro e w3 ⟨a3, c3, rfl, hown, hb3⟩
              have HNEW := Lib.hid (HCP.out w3 a3 c3 hown)
              have HO13 := Lib.hid (own_far HO1.out hb3); have HO23 := Lib.hid (own_far HO2.out hb3); have HB3 := Lib.hid hb3
              have hs3 : w2.heap.size ≤ w3.heap.size := by have := hb3.size; omega
              have HOU3 : Hid (∀ k x, outs[k]? = some x → OutAt w2.heap.size w3 x (res k)) := Lib.hid (fun k x hk => out_far (HOU.out k x hk) hb3)
              have p3 : w3.cell? ⟨p, i, none⟩ = some (.int .u32 pr) := (hb3.cell (p := ⟨p, i, none⟩) (lt_of_cell c1)).trans c1
              have hp2 : p < w2.heap.size := by
                obtain ⟨p', e', _, h⟩ := HPA.out i (.int .u32 (res i).pr) (by rw [List.getElem?_map, List.getElem?_range hij]; rfl)
                have := lt_of_cell h
                have e' := congrArg Addr.block (Option.some.inj e')
                have e' : p = p' := e'
                have : p' < w2.heap.size := this
                omega
              clear hown hb3 HCO
              go_wp2_with (first
                | (at_builtin; refine wpList_append_one rfl _ _ 23 rfl w2.heap.size 29 i29 (.slice none 0 0) 24 Tryd.underlying23 hi29 hz29 hzx1 hzx2 rfl u14 i outs _ rfl HO13.out rfl rfl (by omega) (by omega) hs3 ?_; intro g5 cap5 w5 hown5 hM5 hat5; have HO5 := Lib.hid hown5; have HM5 := Lib.hid hM5; have HO25 := Lib.hid (owned_modS HO23.out hM5 (fun b hb hk => own_apart HO13.out HO23.out (by decide) b hk hb)); have hsB5 : w2.heap.size ≤ w5.heap.size := Nat.le_trans hs3 hM5.size; have p5 : w5.cell? ⟨p, i, none⟩ = some (.int .u32 pr) := (((own_below HO13.out hs3 hM5).cell (p := ⟨p, i, none⟩) hp2).trans p3); clear hown5 hM5 hat5)
                | (at_builtin; refine wpList_append_one rfl _ _ 24 rfl w2.heap.size 3 i3 (.int .i64 0) 8 Tryd.underlying24 hi3 hz3 hzy1 hzy2 rfl u15 i _ _ rfl HO25.out rfl rfl (by omega) (by omega) hsB5 ?_; intro g6 cap6 w6 hown6 hM6 hat6; have HO6 := Lib.hid hown6; have HM6 := Lib.hid hM6; clear hown6 hM6 hat6))
              have K36 : Kt w3 w6 := (own_kt HO13.out HM5.out (by unfold rT; decide)).trans (own_kt HO25.out HM6.out (by unfold rT; decide))
              refine ⟨⟨i + 1, outs ++ [.slice a3 m c3], hij, by go_num, owned_modS HO5.out HM6.out (fun b hb hk => own_apart HO25.out HO5.out (by decide) b hk hb), ?_, fun k x hk => ?_, ?_⟩, by simp [intOf]; omega⟩
              · rw [List.range_succ, List.map_append, List.map_cons, List.map_nil, ← HPR.out]
                exact HO6.out
              · rcases Nat.lt_or_ge k i with h | h
                · rw [List.getElem?_append_left (by rw [HVO.out]; exact h)] at hk
                  exact (HOU3.out k x hk).kt K36
                · have hkl := (List.getElem?_eq_some_iff.1 hk).1
                  rw [List.length_append, HVO.out, List.length_singleton] at hkl
                  obtain rfl : k = i := by omega
                  rw [List.getElem?_append_right (by rw [HVO.out]; exact Nat.le_refl _), HVO.out, Nat.sub_self] at hk
                  obtain rfl := Option.some.inj hk
                  exact HNEW.out.kt K36
              · exact ((HBR.out.trans (HB3.out.mono hsR)).trans (own_below HO13.out hs3 HM5.out)).trans (own_below HO25.out hsB5 HM6.out)
            · obtain rfl : i = j := by omega
              have hii : (i : Int) ≤ i := Int.le_refl _
              clear ho1 ho2 hout hb
              go_wp2_with fail
              go_ret3
              exact ⟨_, _, outs, rfl, HO1.out.mono (by have := HB2.out.size; exact this), HO2.out.mono (by have := HB2.out.size; exact this), fun k x hk => out_mono (HOU.out k x hk) (by have := HB2.out.size; exact this), HB2.out.trans (HBR.out.mono (by have := HB2.out.size; exact this))⟩
end Go.Proofs.YtmniikihkpikdaaDoor
