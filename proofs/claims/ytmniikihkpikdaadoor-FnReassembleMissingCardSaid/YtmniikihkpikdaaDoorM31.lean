/- laws.FnReassembleMissing returns true for every input, and leaves the memory that was there as it was; conditions: the package's errors are there (GlobErr). -/
import Derived.Test.YtmniikihkpikdaaDoorM28
namespace Go.Proofs.YtmniikihkpikdaaDoor
open Go.RowKit
set_option linter.unusedVariables false

/-- The loop that makes the sizes. -/
def SizeRel (w : World) (n : Nat) (v16 v17 : Value) (wr : World) : Prop :=
  ∃ i : Nat, i ≤ n + 1 ∧ v17 = .int .i64 i ∧ wr.ownsRow w.heap.size 3 1 v16 i ((List.range (i * 1)).map fun _ => (.int .i64 4096 : Value)) ∧ Below w.heap.size w wr

set_option maxHeartbeats 4000000 in
set_option maxRecDepth 20000 in
theorem missing_all {w : World} {ao oo : Option Addr} {n c on oc : Nat} {ms : List (List Int)} {order : List Int} {f st sz kz : Int} (hm : MsAt w ao n c ms) (ho : IntsAt w oo on oc order) (hf : 0 ≤ f ∧ f < 4294967296) (hg0 : GlobErr w 0) (hg1 : GlobErr w 1) :
    Calls Tryd.prog 3 #[.int .u32 f, .int .i64 st, .slice ao n c, .int .i64 sz, .slice oo on oc, .int .i64 kz] w (IsTrue w) := by
  obtain ⟨i31, hi31, hz31, hzz1, hzz2⟩ := info_parts (show (Tryd.prog.info? 31).map (fun i => (i.zero, i.size, i.bytes)) = some (some (.agg im0), 9, 56) by kernel_rfl)
  obtain ⟨i3, hi3, hz3, hzy1, hzy2⟩ := info_parts (show (Tryd.prog.info? 3).map (fun i => (i.zero, i.size, i.bytes)) = some (some (.int .i64 0), 1, 8) by kernel_rfl)
  have HZ := Lib.hid (zzfits_any hm)
  have HFT := Lib.hid (fits_any (st := st) (sz := sz) hm ho)
  have HMS := Lib.hid hm; have HO := Lib.hid ho; have HG0 := Lib.hid hg0; have HG1 := Lib.hid hg1; have HF := Lib.hid hf
  have hnc := hm.cap
  clear hm ho hg0 hg1 hf
  go_enter Tryd.func3, Tryd.ntmps3
  go_wp2_with fail
  refine HZ.out.mono ?_
  rintro e w1 ⟨bz, rfl, _, hw1⟩
  obtain rfl := hw1.symm
  clear HZ hw1
  cases bz with
  | false =>
    go_wp2_with fail
    go_ret
    exact ⟨rfl, Below.refl _ _⟩
  | true =>
    by_cases h2 : (2147483647 : Int) < on
    · go_wp2_with fail
      go_ret
      exact ⟨rfl, Below.refl _ _⟩
    have h2' : (on : Int) ≤ 2147483647 := by omega
    go_wp2_with fail
    refine HFT.out.mono ?_
    rintro e w1 ⟨bf, rfl, hfit, hw1⟩
    obtain rfl := hw1.symm
    have HFIT := Lib.hid hfit
    clear HFT hfit hw1
    cases bf with
    | false =>
      go_wp2_with fail
      go_ret
      exact ⟨rfl, Below.refl _ _⟩
    | true =>
      have HFP := Lib.hid (HFIT.out rfl)
      clear HFIT
      by_cases h3 : kz < 0
      · go_wp2_with fail
        go_ret
        exact ⟨rfl, Below.refl _ _⟩
      obtain ⟨s, hs⟩ : ∃ s : Nat, sz = s := ⟨sz.toNat, by have := HFP.out.hsz; omega⟩
      subst hs
      obtain ⟨k, hk⟩ : ∃ k : Nat, kz = k := ⟨kz.toNat, by omega⟩
      subst hk
      have hfs := HFP.out.hsz
      have hfn := HFP.out.hn
      have hs0 : 1 ≤ s := by omega
      have hs1 : s ≤ 200 := by omega
      have hn1 : 1 ≤ n := hfn.1
      have hn20 : n ≤ 20 := hfn.2
      have HP := Lib.hid (pieces_any (f := f) (si := st) (s := s) HMS.out hn20 (HFP.out.len) hs0 hs1 HF.out)
      clear hfs hfn
      go_wp2_with fail
      refine HP.out.mono ?_
      rintro e w2 ⟨ds, g2, c2, rfl, hpc, hown, hdk, hb2⟩
      have hdl := congrArg List.length hpc
      rw [List.length_map] at hdl
      have htot := HFP.out.tot
      rw [Int.toNat_natCast] at htot
      obtain ⟨hcap2, hg2B, hg2, _⟩ := own_cap hown
      have HDK := Lib.hid hdk; have HPC := Lib.hid hpc; have HB2 := Lib.hid hb2
      obtain ⟨m, hm⟩ : ∃ m, m = ds.length := ⟨_, rfl⟩
      rw [← hm] at hdl hcap2 ⊢
      have HM := Lib.hid hm; have HDL := Lib.hid hdl; have HOWN := Lib.hid hown
      have hmt : m ≤ 1000 := by omega
      have hs2 := hb2.size
      clear hpc hdl htot hown hdk hb2 hm HP
      by_cases h4 : (m : Int) ≤ k
      · go_wp2_with fail
        go_ret
        exact ⟨rfl, HB2.out⟩
      by_cases h5 : (m : Int) < 2
      · go_wp2_with fail
        go_ret
        exact ⟨rfl, HB2.out⟩
      have hkm : k < m := by omega
      have hkI : (k : Int) < m := by omega
      have hkL : k < ds.length := by rw [← HM.out]; exact hkm
      obtain ⟨x, hx⟩ : ∃ x, x = ds.getD k default := ⟨_, rfl⟩
      have hxu : x.pc = (upTo ms s n).getD k default := by
        rw [← HPC.out, hx, List.getD_eq_getElem?_getD, List.getD_eq_getElem?_getD, List.getElem?_map, List.getElem?_eq_getElem hkL]; rfl
      obtain ⟨lo, hlo, hloE⟩ : ∃ lo : Nat, lo < n ∧ x.pc.k = (lo : Int) := by
        have : (upTo ms s n).getD k default ∈ upTo ms s n := by
          have hk2 : k < (upTo ms s n).length := by rw [← HDL.out]; exact hkm
          rw [List.getD_eq_getElem?_getD, List.getElem?_eq_getElem hk2]; exact List.getElem_mem _
        obtain ⟨kk, hkk, i, _, e⟩ := upTo_mem this
        exact ⟨kk, hkk, by rw [hxu, e]; rfl⟩
      have k6 : w2.cell? ⟨g2, k * 9 + 6, none⟩ = some (.int .i64 lo) := by
        rw [← hloE, hx]; exact own_cells HOWN.out _ _ (recs_at f st ds k 6 (by omega) hkL)
      have HXU := Lib.hid hxu; have HLO := Lib.hid hloE; have HKL := Lib.hid hkL
      have hkc : (k : Int) < c2 := by omega
      clear hx hxu hloE hkL
      go_wp2_with fail
      have O6 : Hid ((w2.drew.alloc (.cells #[] 31)).ownsRow w.heap.size 31 9 (.slice (some ⟨w2.heap.size, 0, none⟩) 0 0) 0 []) := Lib.hid (World.ownsRow_made (base := w.heap.size) (e := 31) (size := 9) w2.drew #[] 0 hs2 (by unfold maxLen; omega) rfl)
      have HN1 : Hid (∀ j u, (recs f st (ds.take k))[j]? = some u → (w2.drew.alloc (.cells #[] 31)).cell? ((⟨g2, 0, none⟩ : Addr).add j) = some u) := Lib.hid (fun j u hu => by
        rw [show (⟨g2, 0, none⟩ : Addr).add j = ⟨g2, j, none⟩ from by unfold Addr.add; split <;> simp_all]
        exact cell_alloc (w := w2.drew) (own_cells HOWN.out j u (recs_take f st ds k (Nat.le_of_lt HKL.out) j u hu)) _)
      have HL1 : Hid ((recs f st (ds.take k)).length = k * 9) := Lib.hid (by rw [recs_len, List.length_take, Nat.min_eq_left (Nat.le_of_lt HKL.out)])
      have HL2 : Hid ((recs f st (ds.drop (k + 1))).length = (m - (k + 1)) * 9) := Lib.hid (by rw [recs_len, List.length_drop, HM.out])
      have HBD : Hid (k ≤ maxLen ∧ k + (m - (k + 1)) ≤ maxLen) := Lib.hid (by unfold maxLen; omega)
      have HRL : Hid ((ds.take k ++ ds.drop (k + 1)).length = k + (m - (k + 1))) := Lib.hid (by rw [List.length_append, List.length_take, Nat.min_eq_left (Nat.le_of_lt HKL.out), List.length_drop, ← HM.out])
      have hk1 : (k : Int) + 1 ≤ m := by omega
      have hkc0 : (k : Int) ≤ c2 := by omega
      have hkc1 : (k : Int) + 1 ≤ c2 := by omega
      have hlcI : (m : Int) ≤ c2 := by omega
      have hk01 : (0 : Int) ≤ (k : Int) + 1 := by omega
      have tk : ((k : Int) + 1).toNat = k + 1 := by omega
      have w1k := wraps_i64 ((k : Int) + 1) (by omega) (by omega)
      clear k6 hkc
      by_cases hcc : c2 = k + 1
      · have hlk : m = k + 1 := by omega
        have HDN : Hid (ds.drop (k + 1) = []) := Lib.hid (List.drop_eq_nil_of_le (by rw [← HM.out]; omega))
        have hsub : m - (k + 1) = 0 := by omega
        have HHC := Lib.hid hcc; have HHL := Lib.hid hlk; have HSUB := Lib.hid hsub
        have HL3 : Hid ((recs f st (ds.drop (k + 1))).length = 0 * 9) := Lib.hid (by rw [HDN.out]; rfl)
        have HN3 : Hid (∀ (w6 : World) j u, (recs f st (ds.drop (k + 1)))[j]? = some u → w6.cell? ((⟨g2, 0, none⟩ : Addr).add j) = some u) := Lib.hid (fun w6 j u hu => by rw [HDN.out] at hu; cases hu)
        clear hlk
        have a1 : (k : Int) ≤ (k : Int) + 1 := by omega
        have a2 : (m : Int) ≤ (k : Int) + 1 := by have := HHL.out; omega
        go_region_law (first
          | (refine step_append_blk rfl _ _ 27 rfl w.heap.size 31 i31 (.agg im0) 9 56 Tryd.underlying27 hi31 hz31 hzz1 hzz2 rfl (by decide) w2.heap.size 0 0 [] rfl O6.out ⟨g2, 0, none⟩ k _ (recs f st (ds.take k)) rfl HL1.out HN1.out (recs_one f st _) (by rw [Nat.zero_add]; exact HBD.out.1) (by omega) (by simp; omega) ?_; intro g6 cap6 w6 h6 hM6 hat6; rw [Nat.zero_add, List.nil_append] at h6; have HO6 := Lib.hid h6; have HM6 := Lib.hid hM6; have HAT6 := Lib.hid hat6; have HOL6 := Lib.hid (owned_modS (w := (w2.alloc (.cells #[] 31)).drew) (S := (· = w2.heap.size)) (HOWN.out.alloc (.cells #[] 31)) hM6 (fun b hb hk => by have e : g2 = b := (by simpa [Value.ownBlock] using hb); omega)); have HN2 : Hid (∀ j u, (recs f st (ds.drop (k + 1)))[j]? = some u → w6.cell? ((⟨g2, (k + 1) * 9, none⟩ : Addr).add j) = some u) := Lib.hid (fun j u hu => by (rw [show (⟨g2, (k + 1) * 9, none⟩ : Addr).add j = ⟨g2, (k + 1) * 9 + j, none⟩ from by unfold Addr.add; split <;> simp_all]); exact own_cells HOL6.out _ u (recs_drop f st ds (k + 1) HKL.out j u hu)); have hs6 : w.heap.size ≤ w6.heap.size := (by have := hM6.size; simp at this; omega); clear h6 hM6 hat6)
          | (refine step_append_blk rfl _ _ 27 rfl w.heap.size 31 i31 (.agg im0) 9 56 Tryd.underlying27 hi31 hz31 hzz1 hzz2 rfl (by decide) g6 k cap6 (recs f st (ds.take k)) rfl HO6.out ⟨g2, 0, none⟩ 0 0 (recs f st (ds.drop (k + 1))) rfl HL3.out (HN3.out _) (recs_one f st _) HBD.out.1 (by omega) hs6 ?_; intro g7 cap7 w7 h7 hM7 hat7; have HO7 := Lib.hid h7; have HM7 := Lib.hid hM7; clear h7 hM7 hat7))
        all_goals
          have HRN : Hid ((ds.take k ++ ds.drop (k + 1)).length = k) := Lib.hid (by rw [HRL.out, HSUB.out]; rfl)
          have HO8 : Hid (w7.ownsRow w.heap.size 31 9 (.slice (some ⟨g7, 0, none⟩) k cap7) k (recs f st (ds.take k ++ ds.drop (k + 1)))) := Lib.hid (by rw [recs_append]; exact HO7.out)
          have B27 : Below w.heap.size w2 w7 := (((Below.refl w.heap.size w2).alloc hs2 (.cells #[] 31)).drew.trans (HM6.out.below (by simp; omega) (fun k hk => by omega))).trans (HM7.out.below hs6 (fun k hk => by rcases HAT6.out with h | h <;> (rw [hk, h]; first | omega | (simp; omega))))
          have HB7 := Lib.hid (HB2.out.trans B27)
          clear B27 HOL6 HO6 HO7 HN1 HN2 HL1 HL2 HM6 HM7 HAT6 O6 hs6
          go_wp2_with fail
          have hs7 := HB7.out.size
          have HSR : Hid (SizeRel w7 n (.slice (some ⟨w7.heap.size, 0, none⟩) 0 0) (.int .i64 0) (w7.alloc (.cells #[] 3))) := Lib.hid ⟨0, Nat.zero_le _, rfl, World.ownsRow_made (e := 3) (size := 1) w7 #[] 0 (Nat.le_refl _) (by unfold maxLen; omega) rfl, (Below.refl _ w7).alloc (Nat.le_refl _) _⟩
          go_loopw [16, 17] (fun v16 v17 wr => SizeRel w7 n v16 v17 wr) (fun _ v17 _ => n + 1 - (intOf v17).toNat)
          case atStart => exact HSR.out
          case round =>
            clear HSR
            obtain ⟨i, hi, rfl, hos, hbs⟩ := hrel
            have HOS := Lib.hid hos; have HBS := Lib.hid hbs
            have hsS := hbs.size
            clear hos hbs
            by_cases hin : i ≤ n
            · have hinI : (i : Int) ≤ n := by omega
              have w1i := wraps_i64 ((i : Int) + 1) (by omega) (by omega)
              go_wp2_with (first | (at_builtin; refine wpList_append_one rfl _ _ 24 rfl w7.heap.size 3 i3 (.int .i64 0) 8 Tryd.underlying24 hi3 hz3 hzy1 hzy2 rfl u16 i _ _ rfl HOS.out rfl rfl (by omega) (by omega) hsS ?_; intro g5 cap5 w5 hown5 hM5 hat5; have HO5 := Lib.hid hown5; have HM5 := Lib.hid hM5; clear hown5 hM5 hat5))
              go_roundw
              case rel =>
                refine ⟨i + 1, by omega, by go_num, ?_, HBS.out.trans (HM5.out.below hsS (fun b hb => (HOS.out.lt b hb).1))⟩
                rw [range_one]; exact HO5.out
              case measure => simp [intOf]; omega
            · obtain rfl : i = n + 1 := by omega
              have hin' : ¬ ((n + 1 : Nat) : Int) ≤ n := by omega
              have hin2 : ¬ (n : Int) + 1 ≤ n := by omega
              obtain ⟨sa, sc, rfl, hsr⟩ := RowAt.of_owns HOS.out
              have HSR := Lib.hid hsr
              obtain ⟨rs0, hrs0⟩ : ∃ rs0, rs0 = ds.take k ++ ds.drop (k + 1) := ⟨_, rfl⟩
              have HRS0 := Lib.hid hrs0
              have ho8 := HO8.out
              have hrn := HRN.out
              rw [← hrs0] at ho8 hrn
              have HRN0 := Lib.hid hrn
              rw [← hrn] at ho8
              have ho9 := own_far ho8 HBS.out
              have LR := HB7.out.trans (HBS.out.mono hs7)
              have HLR := Lib.hid LR
              obtain ⟨hcap9, _, _, _⟩ := own_cap ho9
              have HX := Lib.hid (mixed_any (f := f) (si := st) (rs := rs0) hcap9 (fun j u hu => own_cells ho9 j u hu) (HO.out.mod (Mod.of_below (S := fun _ => False) LR) (fun _ _ h => h)) (by omega) (by omega) HFP.out.hon HFP.out.ord)
              rw [hrn] at HX
              clear hsr hrs0 ho8 hrn ho9 LR hcap9 hsS
              go_wp2_with fail
              refine HX.out.mono ?_
              rintro e w8 ⟨rs, g8, c8, hperm, rfl, hown8, hb8⟩
              have hrl8 := hperm.length_eq
              rw [HRN0.out] at hrl8 hown8 ⊢
              have hs9 := HLR.out.size
              have L8 := HLR.out.trans (hb8.mono hs9)
              have hpp : (rs.map (·.pc)).Perm ((upTo ms s n).take k ++ (upTo ms s n).drop (k + 1)) := by
                have := hperm.map (·.pc)
                rw [HRS0.out, List.map_append, List.map_take, List.map_drop, HPC.out] at this
                exact this
              have hmemp : ∀ d ∈ rs, d.pc ∈ upTo ms s n := fun d hd => by
                have := hpp.mem_iff.1 (List.mem_map.2 ⟨d, hd, rfl⟩)
                rcases List.mem_append.1 this with h1 | h1
                · exact List.mem_of_mem_take h1
                · exact List.mem_of_mem_drop h1
              have hdk8 : ∀ d ∈ rs, DkAt w8 d := fun d hd => by
                have h0 := hperm.mem_iff.1 hd
                rw [HRS0.out] at h0
                have h1 : d ∈ ds := by
                  rcases List.mem_append.1 h0 with h1 | h1
                  · exact List.mem_of_mem_take h1
                  · exact List.mem_of_mem_drop h1
                exact (HDK.out d h1).mod (Mod.of_below (S := fun _ => False) L8) (fun h => h)
              have hsub : ((upTo ms s n).take k ++ (upTo ms s n).drop (k + 1)).Sublist (upTo ms s n) := by
                have h1 : ((upTo ms s n).take k ++ (upTo ms s n).drop (k + 1)).Sublist ((upTo ms s n).take k ++ (upTo ms s n).drop k) := (List.Sublist.refl _).append (List.drop_sublist_drop_left _ (Nat.le_succ k))
                rwa [List.take_append_drop] at h1
              have hpw : (rs.map (·.pc)).Pairwise ApartP := ((upTo_apart).sublist hsub).perm hpp.symm (fun h => apart_symm h)
              have hlost : Lost ms s n k lo (rs.map (·.pc)) := by
                refine ⟨by omega, fun i hi => ?_, fun i => ?_, by rw [← HDL.out]; exact hkm, hlo, by rw [← HXU.out]; exact HLO.out, hpp⟩
                · have him : i < ms.length := by rw [HMS.out.len]; exact hi
                  rw [List.getD_eq_getElem?_getD, List.getElem?_eq_getElem him]
                  exact (HFP.out.len _ (List.getElem_mem _)).1
                · rcases Nat.lt_or_ge i ms.length with him | him
                  · rw [List.getD_eq_getElem?_getD, List.getElem?_eq_getElem him]
                    have := (HFP.out.len _ (List.getElem_mem him)).2
                    show ms[i].length ≤ 4096; omega
                  · rw [List.getD_eq_getElem?_getD, List.getElem?_eq_none him]; exact Nat.zero_le _
              have hre := re_ord (w := w8) (f := f) (si := st) (rs := rs) (sz := fun _ => 4096) (res := lostRes ms lo) (R := LostR (rs.map (·.pc)) lo) (N := n + 1) (by rw [hrl8]; exact hown8) hdk8
                (glob_below HG0.out L8 (by obtain ⟨u, v, h⟩ := HG0.out; exact lt_of_cell h)) (glob_below HG1.out L8 (by obtain ⟨u, v, h⟩ := HG1.out; exact lt_of_cell h)) hpw
                (fun d hd => (upTo_k (hmemp d hd)).1) (fun d hd => by have := (upTo_k (hmemp d hd)).2; omega) (by rw [hrl8]; omega) (by rw [hrl8]; omega)
                ((HSR.out.mod (Mod.of_below (S := fun _ => False) hb8) (fun _ h => h.elim)).mono (Nat.zero_le _)) (by omega) (fun _ => by omega) (by have := HFP.out.hst; omega) ?c0 (fun ord h => ⟨ord, h, by rw [Nat.zero_min, List.drop_zero], by rw [Nat.zero_min]; rfl⟩) (fun j ord nssn _ hR => hlost.next (n + 1) j ord nssn hR)
              case c0 =>
                intro i l p hi
                unfold lostRes at hi
                split at hi
                · rename_i hil
                  obtain ⟨rfl, rfl⟩ : ms.getD i [] = l ∧ ((50 + i : Nat) : Int) = p := by simpa using hi
                  have hin3 : i < n := by omega
                  obtain ⟨_, _, _, _, _, _, hb⟩ := HMS.out.cell i hin3
                  exact ⟨hlost.hlen i hin3, hb.byte, by omega, by omega⟩
                · cases hi
              rw [hrl8] at hre
              have HRE := Lib.hid hre; have HL8 := Lib.hid L8
              clear hrl8 hs9 L8 hpp hmemp hdk8 hsub hpw hlost hre hown8 hb8 hperm HX
              go_wp2_with fail
              refine HRE.out.mono ?_
              rintro e w9 ⟨v1, v2, vals, rfl, ho1, ho2, hout, hb9⟩
              obtain ⟨a1, c1, rfl, hc1, hv1⟩ := own_form ho1
              obtain ⟨a2, c2', rfl, hc2, hv2⟩ := own_form ho2
              have hvl : vals.length = n + 1 := by have := ho1.1; simpa using this
              have hs8 := HL8.out.size
              have HL9 := Lib.hid (HL8.out.trans (hb9.mono hs8))
              have HV1 := Lib.hid hv1; have HOUT := Lib.hid hout; have HVL := Lib.hid hvl
              clear ho1 ho2 hout hb9 hv1 hv2 hvl HRE hs8
              obtain ⟨N, hN⟩ : ∃ N, N = n + 1 := ⟨_, rfl⟩
              have HN := Lib.hid hN
              rw [← hN] at hc1 hc2 ⊢
              have hNb : N ≤ 21 := by omega
              clear hN hin' hin2 hi
              go_wp2_with fail
              go_loopw [99] (fun vi wr => ∃ i : Nat, i ≤ N ∧ vi = .int .i64 i ∧ Same w9 wr) (fun vi _ => N - (intOf vi).toNat)
              case atStart => exact ⟨0, Nat.zero_le _, rfl, Same.refl _⟩
              case round =>
                obtain ⟨i, hi, rfl, hsm⟩ := hrel
                have HSM := Lib.hid hsm
                by_cases hiN : i < N
                · have hiI : (i : Int) < N := by omega
                  have hiv : i < vals.length := by rw [HVL.out, ← HN.out]; exact hiN
                  obtain ⟨y, hy⟩ : ∃ y, vals[i]? = some y := ⟨_, List.getElem?_eq_getElem hiv⟩
                  obtain ⟨t, rfl, _, hty⟩ := HV1.out i y hy
                  have hyo := HOUT.out i y hy
                  have c0 : wr.cell? ⟨t, i, none⟩ = some y := (hsm.cell _).trans hty
                  have hic1 : (i : Int) < c1 := by omega
                  have w1i := wraps_i64 ((i : Int) + 1) (by omega) (by omega)
                  by_cases hil : i < lo
                  · have hilI : (i : Int) < lo := by omega
                    have hin : i < n := by omega
                    have hinI : (i : Int) < n := by omega
                    obtain ⟨gm, off, mo, mc, rfl, hcm, hbm⟩ := HMS.out.cell i hin
                    have cm : wr.cell? ⟨gm, off + i, none⟩ = some (.slice mo (ms.getD i []).length mc) := (hsm.cell _).trans ((HL9.out.cell (p := ⟨gm, off + i, none⟩) (lt_of_cell hcm)).trans hcm)
                    unfold lostRes at hyo
                    rw [if_pos hil] at hyo
                    obtain ⟨yg, yc, rfl, hyb⟩ : ∃ yg yc, y = .slice (some ⟨yg, 0, none⟩) (ms.getD i []).length yc ∧ BytesAt w9 (some ⟨yg, 0, none⟩) (ms.getD i []).length yc (ms.getD i []) := by
                      rcases hyo with ⟨h, _⟩ | ⟨l, p, g, c, h, h2, h3, h4, h5, cs, h6, h7⟩
                      · cases h
                      · obtain ⟨rfl, _⟩ : ms.getD i [] = l ∧ ((50 + i : Nat) : Int) = p := by simpa using h
                        exact ⟨g, c, h2, bytes_of_block h6 h7 h3 hbm.byte⟩
                    have hic : (i : Int) < c := by omega
                    obtain ⟨b, hb⟩ : ∃ b, b = ms.getD i [] := ⟨_, rfl⟩
                    rw [← hb] at hbm hyb cm c0
                    have HBM := Lib.hid hbm; have HYB := Lib.hid hyb
                    have hsame : ∀ wq, Same w9 wq → Calls Tryd.prog 11 #[.slice (some ⟨yg, 0, none⟩) b.length yc, .slice mo b.length mc] wq fun e w' => e = .returned (.bool true) ∧ w' = wq := fun wq hq => by
                      have := same_any _ _ _ _ _ _ b b wq (HYB.out.mod hq.mod (fun _ _ h => h)) ((HBM.out.mod (Mod.of_below (S := fun _ => False) HL9.out) (fun _ _ h => h)).mod hq.mod (fun _ _ h => h))
                      rwa [show decide (b = b) = true from by simp] at this
                    have HSAME := Lib.hid hsame
                    clear hsm hy hty hyo hbm hyb hb hcm hsame hiv
                    go_wp2_with fail
                    go_quiet (exact (HSAME.out _ (HSM.out.drewN _)).mono fun _ _ ⟨he, hw⟩ => ⟨he, _, hw⟩)
                    go_wp2_with fail
                    go_roundw
                    case rel => exact ⟨i + 1, by omega, by go_num, HSM.out.drewN _⟩
                    case measure => simp [intOf]; omega
                  · have hilI : ¬ (i : Int) < lo := by omega
                    unfold lostRes at hyo
                    rw [if_neg hil] at hyo
                    obtain ⟨ya, yc, rfl⟩ : ∃ ya yc, y = .slice ya 0 yc := by
                      rcases hyo with ⟨_, ya, yc, h⟩ | ⟨l, p, g, c, h, _⟩
                      · exact ⟨ya, yc, h⟩
                      · cases h
                    clear hsm hy hty hyo hiv
                    go_wp2_with fail
                    go_roundw
                    case rel => exact ⟨i + 1, by omega, by go_num, HSM.out⟩
                    case measure => simp [intOf]; omega
                · obtain rfl : i = N := by omega
                  have hii : (i : Int) ≤ i := Int.le_refl _
                  clear hsm
                  go_wp2_with fail
                  go_ret
                  exact ⟨rfl, HL9.out.trans (HSM.out.mod.below HL9.out.size (fun _ h => h.elim))⟩
      · go_region_law (first
          | (refine step_append_blk rfl _ _ 27 rfl w.heap.size 31 i31 (.agg im0) 9 56 Tryd.underlying27 hi31 hz31 hzz1 hzz2 rfl (by decide) w2.heap.size 0 0 [] rfl O6.out ⟨g2, 0, none⟩ k _ (recs f st (ds.take k)) rfl HL1.out HN1.out (recs_one f st _) (by rw [Nat.zero_add]; exact HBD.out.1) (by omega) (by simp; omega) ?_; intro g6 cap6 w6 h6 hM6 hat6; rw [Nat.zero_add, List.nil_append] at h6; have HO6 := Lib.hid h6; have HM6 := Lib.hid hM6; have HAT6 := Lib.hid hat6; have HOL6 := Lib.hid (owned_modS (w := (w2.alloc (.cells #[] 31)).drew) (S := (· = w2.heap.size)) (HOWN.out.alloc (.cells #[] 31)) hM6 (fun b hb hk => by have e : g2 = b := (by simpa [Value.ownBlock] using hb); omega)); have HN2 : Hid (∀ j u, (recs f st (ds.drop (k + 1)))[j]? = some u → w6.cell? ((⟨g2, (k + 1) * 9, none⟩ : Addr).add j) = some u) := Lib.hid (fun j u hu => by (rw [show (⟨g2, (k + 1) * 9, none⟩ : Addr).add j = ⟨g2, (k + 1) * 9 + j, none⟩ from by unfold Addr.add; split <;> simp_all]); exact own_cells HOL6.out _ u (recs_drop f st ds (k + 1) HKL.out j u hu)); have hs6 : w.heap.size ≤ w6.heap.size := (by have := hM6.size; simp at this; omega); clear h6 hM6 hat6)
          | (refine step_append_blk rfl _ _ 27 rfl w.heap.size 31 i31 (.agg im0) 9 56 Tryd.underlying27 hi31 hz31 hzz1 hzz2 rfl (by decide) g6 k cap6 (recs f st (ds.take k)) rfl HO6.out ⟨g2, (k + 1) * 9, none⟩ (m - (k + 1)) (c2 - (k + 1)) (recs f st (ds.drop (k + 1))) rfl HL2.out HN2.out (recs_one f st _) HBD.out.2 (by omega) hs6 ?_; intro g7 cap7 w7 h7 hM7 hat7; have HO7 := Lib.hid h7; have HM7 := Lib.hid hM7; clear h7 hM7 hat7))
        all_goals
          have HO8' : Hid (w7.ownsRow w.heap.size 31 9 (.slice (some ⟨g7, 0, none⟩) (k + (m - (k + 1))) cap7) (k + (m - (k + 1))) (recs f st (ds.take k ++ ds.drop (k + 1)))) := Lib.hid (by rw [recs_append]; exact HO7.out)
          have HRN' := HRL
          generalize hrl : k + (m - (k + 1)) = rl at HO8' HRN' ⊢
          have HO8 := HO8'; have HRN := HRN'
          have hrl5 : rl ≤ 1000 := by omega
          have hrl0 : 0 < rl := by omega
          clear HO8' HRN' hrl
          have B27 : Below w.heap.size w2 w7 := (((Below.refl w.heap.size w2).alloc hs2 (.cells #[] 31)).drew.trans (HM6.out.below (by simp; omega) (fun k hk => by omega))).trans (HM7.out.below hs6 (fun k hk => by rcases HAT6.out with h | h <;> (rw [hk, h]; first | omega | (simp; omega))))
          have HB7 := Lib.hid (HB2.out.trans B27)
          clear B27 HOL6 HO6 HO7 HN1 HN2 HL1 HL2 HM6 HM7 HAT6 O6 hs6
          go_wp2_with fail
          have hs7 := HB7.out.size
          have HSR : Hid (SizeRel w7 n (.slice (some ⟨w7.heap.size, 0, none⟩) 0 0) (.int .i64 0) (w7.alloc (.cells #[] 3))) := Lib.hid ⟨0, Nat.zero_le _, rfl, World.ownsRow_made (e := 3) (size := 1) w7 #[] 0 (Nat.le_refl _) (by unfold maxLen; omega) rfl, (Below.refl _ w7).alloc (Nat.le_refl _) _⟩
          go_loopw [16, 17] (fun v16 v17 wr => SizeRel w7 n v16 v17 wr) (fun _ v17 _ => n + 1 - (intOf v17).toNat)
          case atStart => exact HSR.out
          case round =>
            clear HSR
            obtain ⟨i, hi, rfl, hos, hbs⟩ := hrel
            have HOS := Lib.hid hos; have HBS := Lib.hid hbs
            have hsS := hbs.size
            clear hos hbs
            by_cases hin : i ≤ n
            · have hinI : (i : Int) ≤ n := by omega
              have w1i := wraps_i64 ((i : Int) + 1) (by omega) (by omega)
              go_wp2_with (first | (at_builtin; refine wpList_append_one rfl _ _ 24 rfl w7.heap.size 3 i3 (.int .i64 0) 8 Tryd.underlying24 hi3 hz3 hzy1 hzy2 rfl u16 i _ _ rfl HOS.out rfl rfl (by omega) (by omega) hsS ?_; intro g5 cap5 w5 hown5 hM5 hat5; have HO5 := Lib.hid hown5; have HM5 := Lib.hid hM5; clear hown5 hM5 hat5))
              go_roundw
              case rel =>
                refine ⟨i + 1, by omega, by go_num, ?_, HBS.out.trans (HM5.out.below hsS (fun b hb => (HOS.out.lt b hb).1))⟩
                rw [range_one]; exact HO5.out
              case measure => simp [intOf]; omega
            · obtain rfl : i = n + 1 := by omega
              have hin' : ¬ ((n + 1 : Nat) : Int) ≤ n := by omega
              have hin2 : ¬ (n : Int) + 1 ≤ n := by omega
              obtain ⟨sa, sc, rfl, hsr⟩ := RowAt.of_owns HOS.out
              have HSR := Lib.hid hsr
              obtain ⟨rs0, hrs0⟩ : ∃ rs0, rs0 = ds.take k ++ ds.drop (k + 1) := ⟨_, rfl⟩
              have HRS0 := Lib.hid hrs0
              have ho8 := HO8.out
              have hrn := HRN.out
              rw [← hrs0] at ho8 hrn
              have HRN0 := Lib.hid hrn
              rw [← hrn] at ho8
              have ho9 := own_far ho8 HBS.out
              have LR := HB7.out.trans (HBS.out.mono hs7)
              have HLR := Lib.hid LR
              obtain ⟨hcap9, _, _, _⟩ := own_cap ho9
              have HX := Lib.hid (mixed_any (f := f) (si := st) (rs := rs0) hcap9 (fun j u hu => own_cells ho9 j u hu) (HO.out.mod (Mod.of_below (S := fun _ => False) LR) (fun _ _ h => h)) (by omega) (by omega) HFP.out.hon HFP.out.ord)
              rw [hrn] at HX
              clear hsr hrs0 ho8 hrn ho9 LR hcap9 hsS
              go_wp2_with fail
              refine HX.out.mono ?_
              rintro e w8 ⟨rs, g8, c8, hperm, rfl, hown8, hb8⟩
              have hrl8 := hperm.length_eq
              rw [HRN0.out] at hrl8 hown8 ⊢
              have hs9 := HLR.out.size
              have L8 := HLR.out.trans (hb8.mono hs9)
              have hpp : (rs.map (·.pc)).Perm ((upTo ms s n).take k ++ (upTo ms s n).drop (k + 1)) := by
                have := hperm.map (·.pc)
                rw [HRS0.out, List.map_append, List.map_take, List.map_drop, HPC.out] at this
                exact this
              have hmemp : ∀ d ∈ rs, d.pc ∈ upTo ms s n := fun d hd => by
                have := hpp.mem_iff.1 (List.mem_map.2 ⟨d, hd, rfl⟩)
                rcases List.mem_append.1 this with h1 | h1
                · exact List.mem_of_mem_take h1
                · exact List.mem_of_mem_drop h1
              have hdk8 : ∀ d ∈ rs, DkAt w8 d := fun d hd => by
                have h0 := hperm.mem_iff.1 hd
                rw [HRS0.out] at h0
                have h1 : d ∈ ds := by
                  rcases List.mem_append.1 h0 with h1 | h1
                  · exact List.mem_of_mem_take h1
                  · exact List.mem_of_mem_drop h1
                exact (HDK.out d h1).mod (Mod.of_below (S := fun _ => False) L8) (fun h => h)
              have hsub : ((upTo ms s n).take k ++ (upTo ms s n).drop (k + 1)).Sublist (upTo ms s n) := by
                have h1 : ((upTo ms s n).take k ++ (upTo ms s n).drop (k + 1)).Sublist ((upTo ms s n).take k ++ (upTo ms s n).drop k) := (List.Sublist.refl _).append (List.drop_sublist_drop_left _ (Nat.le_succ k))
                rwa [List.take_append_drop] at h1
              have hpw : (rs.map (·.pc)).Pairwise ApartP := ((upTo_apart).sublist hsub).perm hpp.symm (fun h => apart_symm h)
              have hlost : Lost ms s n k lo (rs.map (·.pc)) := by
                refine ⟨by omega, fun i hi => ?_, fun i => ?_, by rw [← HDL.out]; exact hkm, hlo, by rw [← HXU.out]; exact HLO.out, hpp⟩
                · have him : i < ms.length := by rw [HMS.out.len]; exact hi
                  rw [List.getD_eq_getElem?_getD, List.getElem?_eq_getElem him]
                  exact (HFP.out.len _ (List.getElem_mem _)).1
                · rcases Nat.lt_or_ge i ms.length with him | him
                  · rw [List.getD_eq_getElem?_getD, List.getElem?_eq_getElem him]
                    have := (HFP.out.len _ (List.getElem_mem him)).2
                    show ms[i].length ≤ 4096; omega
                  · rw [List.getD_eq_getElem?_getD, List.getElem?_eq_none him]; exact Nat.zero_le _
              have hre := re_ord (w := w8) (f := f) (si := st) (rs := rs) (sz := fun _ => 4096) (res := lostRes ms lo) (R := LostR (rs.map (·.pc)) lo) (N := n + 1) (by rw [hrl8]; exact hown8) hdk8
                (glob_below HG0.out L8 (by obtain ⟨u, v, h⟩ := HG0.out; exact lt_of_cell h)) (glob_below HG1.out L8 (by obtain ⟨u, v, h⟩ := HG1.out; exact lt_of_cell h)) hpw
                (fun d hd => (upTo_k (hmemp d hd)).1) (fun d hd => by have := (upTo_k (hmemp d hd)).2; omega) (by rw [hrl8]; omega) (by rw [hrl8]; omega)
                ((HSR.out.mod (Mod.of_below (S := fun _ => False) hb8) (fun _ h => h.elim)).mono (Nat.zero_le _)) (by omega) (fun _ => by omega) (by have := HFP.out.hst; omega) ?c0 (fun ord h => ⟨ord, h, by rw [Nat.zero_min, List.drop_zero], by rw [Nat.zero_min]; rfl⟩) (fun j ord nssn _ hR => hlost.next (n + 1) j ord nssn hR)
              case c0 =>
                intro i l p hi
                unfold lostRes at hi
                split at hi
                · rename_i hil
                  obtain ⟨rfl, rfl⟩ : ms.getD i [] = l ∧ ((50 + i : Nat) : Int) = p := by simpa using hi
                  have hin3 : i < n := by omega
                  obtain ⟨_, _, _, _, _, _, hb⟩ := HMS.out.cell i hin3
                  exact ⟨hlost.hlen i hin3, hb.byte, by omega, by omega⟩
                · cases hi
              rw [hrl8] at hre
              have HRE := Lib.hid hre; have HL8 := Lib.hid L8
              clear hrl8 hs9 L8 hpp hmemp hdk8 hsub hpw hlost hre hown8 hb8 hperm HX
              go_wp2_with fail
              refine HRE.out.mono ?_
              rintro e w9 ⟨v1, v2, vals, rfl, ho1, ho2, hout, hb9⟩
              obtain ⟨a1, c1, rfl, hc1, hv1⟩ := own_form ho1
              obtain ⟨a2, c2', rfl, hc2, hv2⟩ := own_form ho2
              have hvl : vals.length = n + 1 := by have := ho1.1; simpa using this
              have hs8 := HL8.out.size
              have HL9 := Lib.hid (HL8.out.trans (hb9.mono hs8))
              have HV1 := Lib.hid hv1; have HOUT := Lib.hid hout; have HVL := Lib.hid hvl
              clear ho1 ho2 hout hb9 hv1 hv2 hvl HRE hs8
              obtain ⟨N, hN⟩ : ∃ N, N = n + 1 := ⟨_, rfl⟩
              have HN := Lib.hid hN
              rw [← hN] at hc1 hc2 ⊢
              have hNb : N ≤ 21 := by omega
              clear hN hin' hin2 hi
              go_wp2_with fail
              go_loopw [99] (fun vi wr => ∃ i : Nat, i ≤ N ∧ vi = .int .i64 i ∧ Same w9 wr) (fun vi _ => N - (intOf vi).toNat)
              case atStart => exact ⟨0, Nat.zero_le _, rfl, Same.refl _⟩
              case round =>
                obtain ⟨i, hi, rfl, hsm⟩ := hrel
                have HSM := Lib.hid hsm
                by_cases hiN : i < N
                · have hiI : (i : Int) < N := by omega
                  have hiv : i < vals.length := by rw [HVL.out, ← HN.out]; exact hiN
                  obtain ⟨y, hy⟩ : ∃ y, vals[i]? = some y := ⟨_, List.getElem?_eq_getElem hiv⟩
                  obtain ⟨t, rfl, _, hty⟩ := HV1.out i y hy
                  have hyo := HOUT.out i y hy
                  have c0 : wr.cell? ⟨t, i, none⟩ = some y := (hsm.cell _).trans hty
                  have hic1 : (i : Int) < c1 := by omega
                  have w1i := wraps_i64 ((i : Int) + 1) (by omega) (by omega)
                  by_cases hil : i < lo
                  · have hilI : (i : Int) < lo := by omega
                    have hin : i < n := by omega
                    have hinI : (i : Int) < n := by omega
                    obtain ⟨gm, off, mo, mc, rfl, hcm, hbm⟩ := HMS.out.cell i hin
                    have cm : wr.cell? ⟨gm, off + i, none⟩ = some (.slice mo (ms.getD i []).length mc) := (hsm.cell _).trans ((HL9.out.cell (p := ⟨gm, off + i, none⟩) (lt_of_cell hcm)).trans hcm)
                    unfold lostRes at hyo
                    rw [if_pos hil] at hyo
                    obtain ⟨yg, yc, rfl, hyb⟩ : ∃ yg yc, y = .slice (some ⟨yg, 0, none⟩) (ms.getD i []).length yc ∧ BytesAt w9 (some ⟨yg, 0, none⟩) (ms.getD i []).length yc (ms.getD i []) := by
                      rcases hyo with ⟨h, _⟩ | ⟨l, p, g, c, h, h2, h3, h4, h5, cs, h6, h7⟩
                      · cases h
                      · obtain ⟨rfl, _⟩ : ms.getD i [] = l ∧ ((50 + i : Nat) : Int) = p := by simpa using h
                        exact ⟨g, c, h2, bytes_of_block h6 h7 h3 hbm.byte⟩
                    have hic : (i : Int) < c := by omega
                    obtain ⟨b, hb⟩ : ∃ b, b = ms.getD i [] := ⟨_, rfl⟩
                    rw [← hb] at hbm hyb cm c0
                    have HBM := Lib.hid hbm; have HYB := Lib.hid hyb
                    have hsame : ∀ wq, Same w9 wq → Calls Tryd.prog 11 #[.slice (some ⟨yg, 0, none⟩) b.length yc, .slice mo b.length mc] wq fun e w' => e = .returned (.bool true) ∧ w' = wq := fun wq hq => by
                      have := same_any _ _ _ _ _ _ b b wq (HYB.out.mod hq.mod (fun _ _ h => h)) ((HBM.out.mod (Mod.of_below (S := fun _ => False) HL9.out) (fun _ _ h => h)).mod hq.mod (fun _ _ h => h))
                      rwa [show decide (b = b) = true from by simp] at this
                    have HSAME := Lib.hid hsame
                    clear hsm hy hty hyo hbm hyb hb hcm hsame hiv
                    go_wp2_with fail
                    go_quiet (exact (HSAME.out _ (HSM.out.drewN _)).mono fun _ _ ⟨he, hw⟩ => ⟨he, _, hw⟩)
                    go_wp2_with fail
                    go_roundw
                    case rel => exact ⟨i + 1, by omega, by go_num, HSM.out.drewN _⟩
                    case measure => simp [intOf]; omega
                  · have hilI : ¬ (i : Int) < lo := by omega
                    unfold lostRes at hyo
                    rw [if_neg hil] at hyo
                    obtain ⟨ya, yc, rfl⟩ : ∃ ya yc, y = .slice ya 0 yc := by
                      rcases hyo with ⟨_, ya, yc, h⟩ | ⟨l, p, g, c, h, _⟩
                      · exact ⟨ya, yc, h⟩
                      · cases h
                    clear hsm hy hty hyo hiv
                    go_wp2_with fail
                    go_roundw
                    case rel => exact ⟨i + 1, by omega, by go_num, HSM.out⟩
                    case measure => simp [intOf]; omega
                · obtain rfl : i = N := by omega
                  have hii : (i : Int) ≤ i := Int.le_refl _
                  clear hsm
                  go_wp2_with fail
                  go_ret
                  exact ⟨rfl, HL9.out.trans (HSM.out.mod.below HL9.out.size (fun _ h => h.elim))⟩
end Go.Proofs.YtmniikihkpikdaaDoor
