/- Part of the proofs of the three laws on reassembly: spec.Mixed gives the same chunks in another order; conditions: as each theorem states. -/
import Derived.Test.YtmniikihkpikdaaDoorM19
namespace Go.Proofs.YtmniikihkpikdaaDoor
open Go.RowKit
set_option linter.unusedVariables false

/-- What is left, and what was taken. -/
structure Two (w wr : World) (f si : Int) (v5 v6 : Value) (L O : List Dk) : Prop where
  left : ∃ gl cl, v5 = .slice (some ⟨gl, 0, none⟩) L.length cl ∧ wr.ownsRow w.heap.size 31 9 v5 L.length (recs f si L)
  out : ∃ go co, v6 = .slice (some ⟨go, 0, none⟩) O.length co ∧ wr.ownsRow w.heap.size 31 9 v6 O.length (recs f si O)
  ne : v5.ownBlock ≠ v6.ownBlock
  below : Below w.heap.size w wr
/-- The loop's relation. -/
def MixRel (w : World) (f si : Int) (rs : List Dk) (on : Nat) (v5 v6 vi : Value) (wr : World) : Prop :=
  ∃ (j : Nat) (L O : List Dk), j ≤ on ∧ vi = .int .i64 j ∧ (O ++ L).Perm rs ∧ Two w wr f si v5 v6 L O
/-- What is handed back. -/
def MixBack (w : World) (f si : Int) (rs : List Dk) (e : Ending) (w' : World) : Prop :=
  ∃ rs' g c, rs'.Perm rs ∧ e = .returned (.slice (some ⟨g, 0, none⟩) rs.length c) ∧ w'.ownsRow w.heap.size 31 9 (.slice (some ⟨g, 0, none⟩) rs.length c) rs.length (recs f si rs') ∧ Below w.heap.size w w'
def im0 : Array Value := #[.bool false, .bool false, .bool false, .bool false, .int .u32 0, .int .i64 0, .int .i64 0, .int .u32 0, .slice none 0 0]

set_option maxHeartbeats 2000000 in
set_option maxRecDepth 20000 in
theorem mixed_any {w : World} {f si : Int} {rs : List Dk} {g0 c on oc : Nat} {oo : Option Addr} {order : List Int} (hcap : rs.length ≤ c) (hrow : ∀ j u, (recs f si rs)[j]? = some u → w.cell? ⟨g0, j, none⟩ = some u) (hord : IntsAt w oo on oc order) (hn0 : 0 < rs.length) (hn1 : rs.length ≤ 2000) (hon : on ≤ 5000) (hpos : ∀ o ∈ order, 0 ≤ o) :
    Calls Tryd.prog 10 #[.slice (some ⟨g0, 0, none⟩) rs.length c, .slice oo on oc] w (MixBack w f si rs) := by
  obtain ⟨i31, hi31, hz31, hzz1, hzz2⟩ := info_parts (show (Tryd.prog.info? 31).map (fun i => (i.zero, i.size, i.bytes)) = some (some (.agg im0), 9, 56) by kernel_rfl)
  have HROW := Lib.hid hrow; have HORD := Lib.hid hord; have HPOS := Lib.hid hpos
  obtain ⟨n, hn⟩ : ∃ n, n = rs.length := ⟨_, rfl⟩
  have HN := Lib.hid hn
  rw [← hn] at hn0 hn1 hcap ⊢
  have O0 := Lib.hid (World.ownsRow_made (base := w.heap.size) (e := 31) (size := 9) w #[] 0 (Nat.le_refl _) (by unfold maxLen; omega) rfl)
  have B0 := Lib.hid ((Below.refl w.heap.size w).alloc (Nat.le_refl _) (.cells #[] 31))
  clear hrow hord hpos hn
  have HNEWS : Hid (∀ j u, (recs f si rs)[j]? = some u → (w.alloc (.cells #[] 31)).cell? ((⟨g0, 0, none⟩ : Addr).add j) = some u) := Lib.hid (fun j u hu => by
    rw [show (⟨g0, 0, none⟩ : Addr).add j = ⟨g0, j, none⟩ from by unfold Addr.add; split <;> simp_all]
    exact cell_alloc (HROW.out j u hu) _)
  have HLEN : Hid ((recs f si rs).length = n * 9) := Lib.hid (by rw [recs_len, HN.out])
  go_enter Tryd.func10, Tryd.ntmps10
  go_wp2_with (first | (at_builtin; refine wpList_append_blk _ rfl _ _ 27 rfl w.heap.size 31 i31 (.agg im0) 9 56 Tryd.underlying27 hi31 hz31 hzz1 hzz2 rfl (by decide) w.heap.size 0 0 [] rfl O0.out ⟨g0, 0, none⟩ n c (recs f si rs) rfl HLEN.out HNEWS.out (recs_one f si rs) (by unfold maxLen; omega) (by omega) (by simp) ?_; intro g5 cap5 w5 hown5 hM5 hat5; have HO5 := Lib.hid hown5; have HM5 := Lib.hid hM5; clear hown5 hM5 hat5))
  have hs5 : w.heap.size < w5.heap.size := by have := HM5.out.size; simp at this; omega
  have HT : Hid (Two w (w5.alloc (.cells #[] 31)) f si (.slice (some ⟨g5, 0, none⟩) n cap5) (.slice (some ⟨w5.heap.size, 0, none⟩) 0 0) rs []) := Lib.hid (by
    have ho := HO5.out
    rw [Nat.zero_add, List.nil_append] at ho
    have hg := (own_cap ho).2.2.1
    refine ⟨⟨g5, cap5, by rw [HN.out], by rw [← HN.out]; exact ho.alloc _⟩, ⟨w5.heap.size, 0, rfl, World.ownsRow_made (e := 31) (size := 9) w5 #[] 0 (by omega) (by unfold maxLen; omega) rfl⟩, fun e => ?_, ?_⟩
    · have e : g5 = w5.heap.size := by simpa [Value.ownBlock] using e
      omega
    · exact (B0.out.trans (HM5.out.below (by simp) (fun k hk => by omega))).alloc (by omega) _)
  go_loopw [5, 6, 16] (fun v5 v6 vi wr => MixRel w f si rs on v5 v6 vi wr) (fun _ _ vi _ => on - (intOf vi).toNat)
  case atStart => exact ⟨0, rs, [], Nat.zero_le _, rfl, List.Perm.refl _, HT.out⟩
  case round =>
    clear HT hs5
    obtain ⟨j, L, O, hj, rfl, hperm, htwo⟩ := hrel
    have HPERM := Lib.hid hperm; have HTWO := Lib.hid htwo
    obtain ⟨⟨gl, cl, rfl, hol⟩, ⟨go, co, rfl, hoo⟩, hne, hb⟩ := htwo
    have hplen := hperm.length_eq
    rw [List.length_append, ← HN.out] at hplen
    have HOL := Lib.hid hol; have HOO := Lib.hid hoo; have HB := Lib.hid hb
    have hsB := hb.size
    obtain ⟨hlc, hglB, hgl, hclm⟩ := own_cap hol
    have hgne : gl ≠ go := fun e => hne (by rw [e]; rfl)
    have HGNE := Lib.hid hgne
    obtain ⟨ln, hln⟩ : ∃ ln, ln = L.length := ⟨_, rfl⟩
    obtain ⟨om, hom⟩ : ∃ om, om = O.length := ⟨_, rfl⟩
    have HLN := Lib.hid hln; have HOM := Lib.hid hom
    rw [← hln, ← hom] at hplen
    rw [← hln] at HOL hlc ⊢
    rw [← hom] at HOO ⊢
    clear hperm hol hoo hne hb hgne hln hom
    have HFIN : Hid (∀ j u, (recs f si L)[j]? = some u → wr.cell? ((⟨gl, 0, none⟩ : Addr).add j) = some u) := Lib.hid (fun j u hu => by
      rw [show (⟨gl, 0, none⟩ : Addr).add j = ⟨gl, j, none⟩ from by unfold Addr.add; split <;> simp_all]
      exact own_cells HOL.out j u hu)
    have HLL : Hid ((recs f si L).length = ln * 9) := Lib.hid (by rw [recs_len, HLN.out])
    by_cases hjn : j < on ∧ 0 < ln
    · obtain ⟨hjn, hlp⟩ := hjn
      have hjI : (j : Int) < on := by omega
      have hlI : ((ln : Int) == 0) = false := by simp; omega
      obtain ⟨gb, off, rfl, hgc, hcell⟩ := HORD.out.mod (Mod.of_below (S := fun _ => False) HB.out) (fun _ _ h => h) |>.open (by omega)
      obtain ⟨o, ho⟩ : ∃ o, o = order.getD j 0 := ⟨_, rfl⟩
      have c0 : wr.cell? ⟨gb, off + j, none⟩ = some (.int .i64 o) := by rw [hcell j hjn, ho]
      have hjol : j < order.length := by rw [HORD.out.len]; exact hjn
      have ho0 : 0 ≤ o := by
        rw [ho, List.getD_eq_getElem?_getD, List.getElem?_eq_getElem hjol]
        exact HPOS.out _ (List.getElem_mem _)
      obtain ⟨k, hk⟩ : ∃ k : Nat, (k : Int) = o % (ln : Int) := ⟨(o % (ln : Int)).toNat, by have := Int.emod_nonneg o (show (ln : Int) ≠ 0 by omega); omega⟩
      have hkl : k < ln := by have := Int.emod_lt_of_pos o (show (0 : Int) < ln by omega); omega
      have hk' := hk.symm
      clear hcell ho hjol hk
      have hkI : (k : Int) < ln := by omega
      have hln0 : ¬ (ln : Int) = 0 := by omega
      have hkL : k < L.length := by rw [← HLN.out]; exact hkl
      obtain ⟨x, hx⟩ : ∃ x, x = L.getD k default := ⟨_, rfl⟩
      have hkc : ∀ i, i < 9 → wr.cell? ⟨gl, k * 9 + i, none⟩ = some ((dCells f si x).getD i undef) := fun i hi => by
        rw [hx]; exact own_cells HOL.out _ _ (recs_at f si L k i hi hkL)
      have k0 : wr.cell? ⟨gl, k * 9, none⟩ = some (.bool x.pc.un) := hkc 0 (by omega)
      have k1 : wr.cell? ⟨gl, k * 9 + 1, none⟩ = some (.bool x.pc.beg) := hkc 1 (by omega)
      have k2 : wr.cell? ⟨gl, k * 9 + 2, none⟩ = some (.bool x.pc.fin) := hkc 2 (by omega)
      have k3 : wr.cell? ⟨gl, k * 9 + 3, none⟩ = some (.bool false) := hkc 3 (by omega)
      have k4 : wr.cell? ⟨gl, k * 9 + 4, none⟩ = some (.int .u32 (U f x.pc.p)) := hkc 4 (by omega)
      have k5 : wr.cell? ⟨gl, k * 9 + 5, none⟩ = some (.int .i64 si) := hkc 5 (by omega)
      have k6 : wr.cell? ⟨gl, k * 9 + 6, none⟩ = some (.int .i64 x.pc.k) := hkc 6 (by omega)
      have k7 : wr.cell? ⟨gl, k * 9 + 7, none⟩ = some (.int .u32 x.pc.proto) := hkc 7 (by omega)
      have k8 : wr.cell? ⟨gl, k * 9 + 8, none⟩ = some (.slice (some ⟨x.ug, x.uo, none⟩) x.pc.bytes.length x.uc) := hkc 8 (by omega)
      have HX := Lib.hid hx; have HKL := Lib.hid hkL
      have w1j := wraps_i64 ((j : Int) + 1) (by omega) (by omega)
      have w1k := wraps_i64 ((k : Int) + 1) (by omega) (by omega)
      clear hx hkc hkL
      go_wp2_with (first | (at_builtin; refine wpList_append_rec rfl _ _ 27 rfl w.heap.size 31 i31 (.agg im0) 9 56 Tryd.underlying27 hi31 hz31 hzz1 hzz2 rfl (by decide) (.slice (some ⟨go, 0, none⟩) om co) om _ (dCells f si x) rfl HOO.out rfl rfl (by intro u hu; simp [dCells] at hu; rcases hu with rfl | rfl | rfl | rfl | rfl | rfl | rfl | rfl | rfl <;> rfl) (by omega) (by omega) hsB ?_; intro g5 cap5 w5 hown5 hM5; have HO5 := Lib.hid hown5; have HM5 := Lib.hid hM5; clear hown5 hM5))
      have hs5 : w.heap.size ≤ w5.heap.size := by have := HM5.out.size; omega
      have hmod5 : Mod (fun k => k = go) wr w5 := HM5.out.mono (fun k e => by have e : go = k := (by simpa [Value.ownBlock] using e); exact e.symm)
      have HOL5 := Lib.hid (owned_modS HOL.out hmod5 (fun b hb hk => by have e : gl = b := (by simpa [Value.ownBlock] using hb); exact HGNE.out (e.trans hk)))
      have O6 : Hid ((w5.drew.alloc (.cells #[] 31)).ownsRow w.heap.size 31 9 (.slice (some ⟨w5.heap.size, 0, none⟩) 0 0) 0 []) := Lib.hid (World.ownsRow_made (base := w.heap.size) (e := 31) (size := 9) w5.drew #[] 0 hs5 (by unfold maxLen; omega) rfl)
      have hgl5 : gl < w5.heap.size := (own_cap HOL5.out).2.2.1
      have HN1 : Hid (∀ j u, (recs f si (L.take k))[j]? = some u → (w5.drew.alloc (.cells #[] 31)).cell? ((⟨gl, 0, none⟩ : Addr).add j) = some u) := Lib.hid (fun j u hu => by
        rw [show (⟨gl, 0, none⟩ : Addr).add j = ⟨gl, j, none⟩ from by unfold Addr.add; split <;> simp_all]
        exact cell_alloc (w := w5.drew) (own_cells HOL5.out j u (recs_take f si L k (Nat.le_of_lt HKL.out) j u hu)) _)
      have HL1 : Hid ((recs f si (L.take k)).length = k * 9) := Lib.hid (by rw [recs_len, List.length_take, Nat.min_eq_left (Nat.le_of_lt HKL.out)])
      have HL2 : Hid ((recs f si (L.drop (k + 1))).length = (ln - (k + 1)) * 9) := Lib.hid (by rw [recs_len, List.length_drop, HLN.out])
      have HBD : Hid (k ≤ maxLen ∧ k + (ln - (k + 1)) ≤ maxLen) := Lib.hid (by unfold maxLen; omega)
      have hk1 : (k : Int) + 1 ≤ ln := by omega
      have hkc : (k : Int) ≤ cl := by omega
      have hkc1 : (k : Int) + 1 ≤ cl := by omega
      have hlcI : (ln : Int) ≤ cl := by omega
      have hk01 : (0 : Int) ≤ (k : Int) + 1 := by omega
      have tk : ((k : Int) + 1).toNat = k + 1 := by omega
      clear k0 k1 k2 k3 k4 k5 k6 k7 k8 hmod5 hk'
      by_cases hcc : cl = k + 1
      · have hlk : ln = k + 1 := by omega
        have HDN : Hid (L.drop (k + 1) = []) := Lib.hid (List.drop_eq_nil_of_le (by rw [← HLN.out]; omega))
        have hsub : ln - (k + 1) = 0 := by omega
        have HHC := Lib.hid hcc; have HHL := Lib.hid hlk; have HSUB := Lib.hid hsub
        have HL3 : Hid ((recs f si (L.drop (k + 1))).length = 0 * 9) := Lib.hid (by rw [HDN.out]; rfl)
        have HN3 : Hid (∀ (w6 : World) j u, (recs f si (L.drop (k + 1)))[j]? = some u → w6.cell? ((⟨gl, 0, none⟩ : Addr).add j) = some u) := Lib.hid (fun w6 j u hu => by rw [HDN.out] at hu; cases hu)
        clear hlk
        have a1 : (k : Int) ≤ (k : Int) + 1 := by omega
        have a2 : (ln : Int) ≤ (k : Int) + 1 := by have := HHL.out; omega
        go_region_law (first
          | (refine step_append_blk rfl _ _ 27 rfl w.heap.size 31 i31 (.agg im0) 9 56 Tryd.underlying27 hi31 hz31 hzz1 hzz2 rfl (by decide) w5.heap.size 0 0 [] rfl O6.out ⟨gl, 0, none⟩ k _ (recs f si (L.take k)) rfl HL1.out HN1.out (recs_one f si _) (by rw [Nat.zero_add]; exact HBD.out.1) (by omega) (by simp; omega) ?_; intro g6 cap6 w6 h6 hM6 hat6; rw [Nat.zero_add, List.nil_append] at h6; have HO6 := Lib.hid h6; have HM6 := Lib.hid hM6; have HAT6 := Lib.hid hat6; have HOL6 := Lib.hid (owned_modS (w := (w5.alloc (.cells #[] 31)).drew) (S := (· = w5.heap.size)) (HOL5.out.alloc (.cells #[] 31)) hM6 (fun b hb hk => by have e : gl = b := (by simpa [Value.ownBlock] using hb); omega)); have HN2 : Hid (∀ j u, (recs f si (L.drop (k + 1)))[j]? = some u → w6.cell? ((⟨gl, (k + 1) * 9, none⟩ : Addr).add j) = some u) := Lib.hid (fun j u hu => by (rw [show (⟨gl, (k + 1) * 9, none⟩ : Addr).add j = ⟨gl, (k + 1) * 9 + j, none⟩ from by unfold Addr.add; split <;> simp_all]); exact own_cells HOL6.out _ u (recs_drop f si L (k + 1) HKL.out j u hu)); have hs6 : w.heap.size ≤ w6.heap.size := (by have := hM6.size; simp at this; omega); clear h6 hM6 hat6)
          | (refine step_append_blk rfl _ _ 27 rfl w.heap.size 31 i31 (.agg im0) 9 56 Tryd.underlying27 hi31 hz31 hzz1 hzz2 rfl (by decide) g6 k cap6 (recs f si (L.take k)) rfl HO6.out ⟨gl, 0, none⟩ 0 0 (recs f si (L.drop (k + 1))) rfl HL3.out (HN3.out _) (recs_one f si _) HBD.out.1 (by omega) hs6 ?_; intro g7 cap7 w7 h7 hM7 hat7; have HO7 := Lib.hid h7; have HM7 := Lib.hid hM7; have HAT7 := Lib.hid hat7; clear h7 hM7 hat7))
        all_goals
          go_wp2_with fail
          have hg5 : g5 < w5.heap.size := (own_cap HO5.out).2.2.1
          have A6 : w5.heap.size ≤ g6 := by rcases HAT6.out with h | h <;> (rw [h]; first | exact Nat.le_refl _ | simp)
          have A7 : w5.heap.size ≤ g7 := by
            have h6 := HM6.out.size
            simp at h6
            rcases HAT7.out with h | h <;> omega
          have O57 := owned_modS (owned_modS (w := (w5.alloc (.cells #[] 31)).drew) (S := (· = w5.heap.size)) (HO5.out.alloc (.cells #[] 31)) HM6.out (fun b hb hk => by have e : g5 = b := (by simpa [Value.ownBlock] using hb); omega)) HM7.out (fun b hb hk => by have e : g5 = b := (by simpa [Value.ownBlock] using hb); omega)
          have B57 : Below w.heap.size w5 w7 := (((Below.refl w.heap.size w5).alloc hs5 (.cells #[] 31)).drew.trans (HM6.out.below (by simp; omega) (fun k hk => by omega))).trans (HM7.out.below hs6 (fun k hk => by omega))
          have B07 := (HB.out.trans (HM5.out.below hsB (fun b hb => (HOO.out.lt b hb).1))).trans B57
          refine ⟨⟨j + 1, L.take k ++ L.drop (k + 1), O ++ [x], hjn, by go_num, ?_, ⟨⟨g7, cap7, ?_, ?_⟩, ⟨g5, cap5, by rw [List.length_append, ← HOM.out]; rfl, ?_⟩, fun e => ?_, B07⟩⟩, by simp [intOf]; omega⟩
          · have hxk : [x] = [L[k]'HKL.out] := by rw [HX.out, List.getD_eq_getElem?_getD, List.getElem?_eq_getElem HKL.out]; rfl
            rw [hxk, List.append_assoc]
            exact (List.Perm.append_left O (pick_perm L k HKL.out)).trans HPERM.out
          · rw [List.length_append, List.length_take, Nat.min_eq_left (Nat.le_of_lt HKL.out), List.length_drop, ← HLN.out, HSUB.out]; rfl
          · rw [recs_append, List.length_append, List.length_take, Nat.min_eq_left (Nat.le_of_lt HKL.out), List.length_drop, ← HLN.out, HSUB.out]; exact HO7.out
          · rw [recs_append, List.length_append, ← HOM.out]; exact O57
          · have e : g7 = g5 := by simpa [Value.ownBlock] using e
            omega
      · go_region_law (first
          | (refine step_append_blk rfl _ _ 27 rfl w.heap.size 31 i31 (.agg im0) 9 56 Tryd.underlying27 hi31 hz31 hzz1 hzz2 rfl (by decide) w5.heap.size 0 0 [] rfl O6.out ⟨gl, 0, none⟩ k _ (recs f si (L.take k)) rfl HL1.out HN1.out (recs_one f si _) (by rw [Nat.zero_add]; exact HBD.out.1) (by omega) (by simp; omega) ?_; intro g6 cap6 w6 h6 hM6 hat6; rw [Nat.zero_add, List.nil_append] at h6; have HO6 := Lib.hid h6; have HM6 := Lib.hid hM6; have HAT6 := Lib.hid hat6; have HOL6 := Lib.hid (owned_modS (w := (w5.alloc (.cells #[] 31)).drew) (S := (· = w5.heap.size)) (HOL5.out.alloc (.cells #[] 31)) hM6 (fun b hb hk => by have e : gl = b := (by simpa [Value.ownBlock] using hb); omega)); have HN2 : Hid (∀ j u, (recs f si (L.drop (k + 1)))[j]? = some u → w6.cell? ((⟨gl, (k + 1) * 9, none⟩ : Addr).add j) = some u) := Lib.hid (fun j u hu => by (rw [show (⟨gl, (k + 1) * 9, none⟩ : Addr).add j = ⟨gl, (k + 1) * 9 + j, none⟩ from by unfold Addr.add; split <;> simp_all]); exact own_cells HOL6.out _ u (recs_drop f si L (k + 1) HKL.out j u hu)); have hs6 : w.heap.size ≤ w6.heap.size := (by have := hM6.size; simp at this; omega); clear h6 hM6 hat6)
          | (refine step_append_blk rfl _ _ 27 rfl w.heap.size 31 i31 (.agg im0) 9 56 Tryd.underlying27 hi31 hz31 hzz1 hzz2 rfl (by decide) g6 k cap6 (recs f si (L.take k)) rfl HO6.out ⟨gl, (k + 1) * 9, none⟩ (ln - (k + 1)) (cl - (k + 1)) (recs f si (L.drop (k + 1))) rfl HL2.out HN2.out (recs_one f si _) HBD.out.2 (by omega) hs6 ?_; intro g7 cap7 w7 h7 hM7 hat7; have HO7 := Lib.hid h7; have HM7 := Lib.hid hM7; have HAT7 := Lib.hid hat7; clear h7 hM7 hat7))
        all_goals
          go_wp2_with fail
          have hg5 : g5 < w5.heap.size := (own_cap HO5.out).2.2.1
          have A6 : w5.heap.size ≤ g6 := by rcases HAT6.out with h | h <;> (rw [h]; first | exact Nat.le_refl _ | simp)
          have A7 : w5.heap.size ≤ g7 := by
            have h6 := HM6.out.size
            simp at h6
            rcases HAT7.out with h | h <;> omega
          have O57 := owned_modS (owned_modS (w := (w5.alloc (.cells #[] 31)).drew) (S := (· = w5.heap.size)) (HO5.out.alloc (.cells #[] 31)) HM6.out (fun b hb hk => by have e : g5 = b := (by simpa [Value.ownBlock] using hb); omega)) HM7.out (fun b hb hk => by have e : g5 = b := (by simpa [Value.ownBlock] using hb); omega)
          have B57 : Below w.heap.size w5 w7 := (((Below.refl w.heap.size w5).alloc hs5 (.cells #[] 31)).drew.trans (HM6.out.below (by simp; omega) (fun k hk => by omega))).trans (HM7.out.below hs6 (fun k hk => by omega))
          have B07 := (HB.out.trans (HM5.out.below hsB (fun b hb => (HOO.out.lt b hb).1))).trans B57
          refine ⟨⟨j + 1, L.take k ++ L.drop (k + 1), O ++ [x], hjn, by go_num, ?_, ⟨⟨g7, cap7, ?_, ?_⟩, ⟨g5, cap5, by rw [List.length_append, ← HOM.out]; rfl, ?_⟩, fun e => ?_, B07⟩⟩, by simp [intOf]; omega⟩
          · have hxk : [x] = [L[k]'HKL.out] := by rw [HX.out, List.getD_eq_getElem?_getD, List.getElem?_eq_getElem HKL.out]; rfl
            rw [hxk, List.append_assoc]
            exact (List.Perm.append_left O (pick_perm L k HKL.out)).trans HPERM.out
          · rw [List.length_append, List.length_take, Nat.min_eq_left (Nat.le_of_lt HKL.out), List.length_drop, ← HLN.out]
          · rw [recs_append, List.length_append, List.length_take, Nat.min_eq_left (Nat.le_of_lt HKL.out), List.length_drop, ← HLN.out]; exact HO7.out
          · rw [recs_append, List.length_append, ← HOM.out]; exact O57
          · have e : g7 = g5 := by simpa [Value.ownBlock] using e
            omega
    · have HFN : Hid (ln * 9 = ln * 9) := Lib.hid rfl
      have hmx : om + ln ≤ 2000 := by omega
      by_cases hjn' : j < on
      · have hl0 : ln = 0 := by omega
        subst hl0
        obtain ⟨gb, off, rfl, hgc, hcell⟩ := HORD.out.mod (Mod.of_below (S := fun _ => False) HB.out) (fun _ _ h => h) |>.open (by omega)
        have c0 := hcell j hjn'
        have hjI : (j : Int) < on := by omega
        clear hcell
        go_wp2_with (first | (at_builtin; refine wpList_append_blk _ rfl _ _ 27 rfl w.heap.size 31 i31 (.agg im0) 9 56 Tryd.underlying27 hi31 hz31 hzz1 hzz2 rfl (by decide) go om co (recs f si O) rfl HOO.out ⟨gl, 0, none⟩ 0 cl (recs f si L) rfl HLL.out HFIN.out (recs_one f si _) (by unfold maxLen; omega) (by omega) hsB ?_; intro g7 cap7 w7 h7 hM7 hat7; have HO7 := Lib.hid h7; have HM7 := Lib.hid hM7; clear h7 hM7 hat7))
        go_ret
        have ho := HO7.out
        have hB7 := HB.out.trans (HM7.out.below hsB (fun b hb => by have := (HOO.out.lt go rfl).1; omega))
        rw [← recs_append] at ho
        have hn := HN.out
        refine ⟨O ++ L, g7, cap7, HPERM.out, ?_, ?_, hB7⟩
        · first | (rw [← hn]; rfl) | (rw [← hn, ← hplen]; rfl)
        · rw [← hn]; first | exact ho | (rw [← hplen]; exact ho)
      · obtain rfl : j = on := by omega
        have hjj : (j : Int) ≤ j := Int.le_refl _
        go_wp2_with (first | (at_builtin; refine wpList_append_blk _ rfl _ _ 27 rfl w.heap.size 31 i31 (.agg im0) 9 56 Tryd.underlying27 hi31 hz31 hzz1 hzz2 rfl (by decide) go om co (recs f si O) rfl HOO.out ⟨gl, 0, none⟩ ln cl (recs f si L) rfl HLL.out HFIN.out (recs_one f si _) (by unfold maxLen; omega) (by omega) hsB ?_; intro g7 cap7 w7 h7 hM7 hat7; have HO7 := Lib.hid h7; have HM7 := Lib.hid hM7; clear h7 hM7 hat7))
        go_ret
        have ho := HO7.out
        have hB7 := HB.out.trans (HM7.out.below hsB (fun b hb => by have := (HOO.out.lt go rfl).1; omega))
        rw [← recs_append] at ho
        have hn := HN.out
        refine ⟨O ++ L, g7, cap7, HPERM.out, ?_, ?_, hB7⟩
        · first | (rw [← hn]; rfl) | (rw [← hn, ← hplen]; rfl)
        · rw [← hn]; first | exact ho | (rw [← hplen]; exact ho)
end Go.Proofs.YtmniikihkpikdaaDoor
