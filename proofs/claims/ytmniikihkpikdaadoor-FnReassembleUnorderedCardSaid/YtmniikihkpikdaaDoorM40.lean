/- Part of the proof of laws.FnReassembleUnordered: pieces marked in place, and what the marked pieces are; conditions: as each theorem states. -/
import Derived.Test.YtmniikihkpikdaaDoorM39
namespace Go.Proofs.YtmniikihkpikdaaDoor
open Go.RowKit
set_option linter.unusedVariables false

/-- The first i pieces are marked. -/
def marked (i : Nat) (ds : List Dk) : List Dk := (ds.take i).map unDk ++ ds.drop i
theorem own_upd {w : World} {B e s n g cap k : Nat} {xs : List Value} (h : w.ownsRow B e s (.slice (some ⟨g, 0, none⟩) n cap) n xs) (u : Value) : (w.setCell ⟨g, k, none⟩ u).ownsRow B e s (.slice (some ⟨g, 0, none⟩) n cap) n (xs.set k u) := by
  refine ⟨by rw [List.length_set]; exact h.1, ?_⟩
  rcases h.2 with ⟨h0, _⟩ | ⟨g', cap', cs, e', hb, hg, hnc, hm, hs, ht⟩
  · cases h0
  · obtain ⟨rfl, rfl⟩ : g = g' ∧ cap = cap' := by simpa using e'
    refine .inr ⟨g, cap, cs.setIfInBounds k u, rfl, hb, heap_setCell_same hg u, hnc, hm, by simpa using hs, ?_⟩
    rw [Array.toList_setIfInBounds, List.take_set, ht]
theorem recs_cons (f si : Int) (d : Dk) (l : List Dk) : recs f si (d :: l) = (dCells f si d).toList ++ recs f si l := by unfold recs; rw [List.flatMap_cons]
theorem marked_step (f si : Int) (ds : List Dk) (i : Nat) (hi : i < ds.length) : (recs f si (marked i ds)).set (i * 9) (.bool true) = recs f si (marked (i + 1) ds) := by
  unfold marked
  rw [List.drop_eq_getElem_cons hi, List.take_succ_eq_append_getElem hi, List.map_append, List.map_cons, List.map_nil, List.append_assoc, recs_append, recs_append]
  have hl : (recs f si ((ds.take i).map unDk)).length = i * 9 := by rw [recs_len, List.length_map, List.length_take, Nat.min_eq_left (Nat.le_of_lt hi)]
  rw [List.set_append_right _ _ (by omega), hl, Nat.sub_self]
  congr 1
theorem marked_all (ds : List Dk) : marked ds.length ds = ds.map unDk := by unfold marked; rw [List.take_length, List.drop_length, List.append_nil]
theorem marked_at (f si : Int) (ds : List Dk) (i : Nat) (hi : i < ds.length) : ∃ v, (recs f si (marked i ds))[i * 9]? = some v := by
  have hl : (recs f si (marked i ds)).length = ds.length * 9 := by rw [recs_len]; unfold marked; rw [List.length_append, List.length_map, List.length_take, List.length_drop]; congr 1 <;> omega
  exact ⟨_, List.getElem?_eq_getElem (by omega)⟩
def MarkRel (w : World) (f si : Int) (g m c : Nat) (ds : List Dk) (vi : Value) (wr : World) : Prop :=
  ∃ i : Nat, i ≤ m ∧ vi = .int .i64 i ∧ wr.ownsRow w.heap.size 31 9 (.slice (some ⟨g, 0, none⟩) m c) m (recs f si (marked i ds)) ∧ Below w.heap.size w wr

set_option maxHeartbeats 4000000 in
set_option maxRecDepth 20000 in
theorem unord_all {w : World} {mo oo : Option Addr} {n mc on oc : Nat} {b order : List Int} {f st sz : Int} (hb : BytesAt w mo n mc b) (ho : IntsAt w oo on oc order) (hf : 0 ≤ f ∧ f < 4294967296) (hg0 : GlobErr w 0) (hg1 : GlobErr w 1) :
    Calls Tryd.prog 5 #[.int .u32 f, .int .i64 st, .slice mo n mc, .int .i64 sz, .slice oo on oc] w (IsTrue w) := by
  obtain ⟨i31, hi31, hz31, hzz1, hzz2⟩ := info_parts (show (Tryd.prog.info? 31).map (fun i => (i.zero, i.size, i.bytes)) = some (some (.agg im0), 9, 56) by kernel_rfl)
  have HB := Lib.hid hb; have HO := Lib.hid ho; have HG0 := Lib.hid hg0; have HG1 := Lib.hid hg1; have HF := Lib.hid hf
  have HL := Lib.hid hb.len
  clear hb ho hg0 hg1 hf
  by_cases h1 : (2147483647 : Int) < n
  · go_enter Tryd.func5, Tryd.ntmps5
    go_wp2_with fail
    go_ret
    exact ⟨rfl, Below.refl _ _⟩
  have h1' : (n : Int) ≤ 2147483647 := by omega
  by_cases h2 : (2147483647 : Int) < on
  · go_enter Tryd.func5, Tryd.ntmps5
    go_wp2_with fail
    go_ret
    exact ⟨rfl, Below.refl _ _⟩
  have h2' : (on : Int) ≤ 2147483647 := by omega
  have M1 : Mod (fun _ => False) w (w.alloc (.cells #[.slice mo n mc] 29)) := (Mod.refl _ w).alloc _
  have HFT := Lib.hid (fits_any (st := st) (sz := sz) (ms_one HB.out) (HO.out.mod M1 (fun _ _ h => h)))
  have HM1 := Lib.hid M1
  have B1 : Below w.heap.size w (w.alloc (.cells #[.slice mo n mc] 29)) := (Below.refl _ w).alloc (Nat.le_refl _) _
  have HB1 := Lib.hid B1
  clear M1 B1
  go_enter Tryd.func5, Tryd.ntmps5
  go_wp2_with fail
  refine HFT.out.mono ?_
  rintro e w1 ⟨bf, rfl, hfit, hw1⟩
  obtain rfl := hw1.symm
  have HFIT := Lib.hid hfit
  clear HFT hfit hw1
  cases bf with
  | false =>
    go_wp2_with fail
    go_ret
    exact ⟨rfl, HB1.out⟩
  | true =>
    have HFP := Lib.hid (HFIT.out rfl)
    clear HFIT
    obtain ⟨s, hs⟩ : ∃ s : Nat, sz = s := ⟨sz.toNat, by have := HFP.out.hsz; omega⟩
    subst hs
    have hfs := HFP.out.hsz
    have hs0 : 1 ≤ s := by omega
    have hs1 : s ≤ 200 := by omega
    clear hfs
    go_wp2_with fail
    generalize hWA : w.alloc (.cells #[.slice mo n mc] 29) = wa at HM1 HB1 ⊢
    have hsza : wa.heap.size = w.heap.size + 1 := by rw [← hWA]; simp
    clear hWA
    obtain ⟨ga, hga⟩ : ∃ ga, ga = w.heap.size + 1 := ⟨_, rfl⟩
    rw [← hga] at hsza ⊢
    have hMS := ms_one (HB.out.mod HM1.out (fun _ _ h => h))
    rw [hsza] at hMS
    have M2 : Mod (fun _ => False) wa (wa.alloc (.cells #[.slice mo n mc] 29)) := (Mod.refl _ wa).alloc _
    have HM2 := Lib.hid (HM1.out.trans M2)
    generalize hWB : wa.alloc (.cells #[.slice mo n mc] 29) = wb at hMS HM2 ⊢
    have HGA := Lib.hid hga
    have HP := Lib.hid (pieces_any (f := f) (si := st) (s := s) hMS (by omega) (HFP.out.len) hs0 hs1 HF.out)
    clear hWB hMS M2 hsza hga
    refine HP.out.mono ?_
    rintro e w2 ⟨ds, g2, c2, rfl, hpc, hown, hdk, hb2⟩
    have hdl := congrArg List.length hpc
    rw [List.length_map] at hdl
    have hlen := (HFP.out.len b (by simp))
    have hcnt : (upTo [b] s 1).length = cnt b.length s := by
      show ([] ++ msgPcs 0 0 b s).length = _
      rw [List.nil_append, msgPcs_len]
    have hpos : 0 < cnt b.length s := cnt_pos (by omega) hlen.1
    have hcl := cnt_le (L := b.length) (s := s) (by omega)
    obtain ⟨m, hm⟩ : ∃ m, m = ds.length := ⟨_, rfl⟩
    have hmc : m = cnt b.length s := by omega
    have hm0 : 0 < m := by omega
    have hm2 : m ≤ 200 := by omega
    have HDK := Lib.hid hdk; have HPC := Lib.hid hpc; have HB2 := Lib.hid hb2; have HM := Lib.hid hm; have HMC := Lib.hid hmc; have HLEN := Lib.hid hlen
    rw [← hm] at hown ⊢
    have hcap2 := (own_cap hown).1
    have HOWN := Lib.hid hown
    have hwb : w.heap.size ≤ wb.heap.size := HM2.out.size
    clear hpc hdl hlen hcnt hpos hcl hown hdk hb2 hm hmc HP
    go_wp2_with fail
    have HMR : Hid (MarkRel wb f st g2 m c2 ds (.int .i64 0) w2) := Lib.hid ⟨0, Nat.zero_le _, rfl, by have := HOWN.out; unfold marked; simpa using this, HB2.out⟩
    go_loopw [40] (fun vi wr => MarkRel wb f st g2 m c2 ds vi wr) (fun vi _ => m - (intOf vi).toNat)
    case atStart => exact HMR.out
    case round =>
      clear HMR
      obtain ⟨i, hi, rfl, hor, hbr⟩ := hrel
      have HOR := Lib.hid hor; have HBR := Lib.hid hbr
      have hwr := hbr.size
      clear hor hbr
      by_cases him : i < m
      · have hiI : (i : Int) < m := by omega
        have hic : (i : Int) < c2 := by omega
        have hid : i < ds.length := by rw [← HM.out]; exact him
        obtain ⟨v0, hv0⟩ := marked_at f st ds i hid
        have k0 : wr.cell? ⟨g2, i * 9, none⟩ = some v0 := own_cells HOR.out _ _ hv0
        have z0 : wr.frozen? ⟨g2, i * 9, none⟩ = false := by
          rcases HOR.out.2 with ⟨h0, _⟩ | ⟨g', cap', cs, e', hb, hg, _⟩
          · cases h0
          · obtain ⟨rfl, rfl⟩ : g2 = g' ∧ c2 = cap' := by simpa using e'
            exact frozen_of_block hg
        have w1i := wraps_i64 ((i : Int) + 1) (by omega) (by omega)
        have HID := Lib.hid hid
        clear hv0 hid
        go_wp2_with fail
        go_roundw
        case rel =>
          refine ⟨i + 1, him, by go_num, ?_, HBR.out.trans (((Mod.refl (· = g2) wr).set1 _).below hwr (fun k hk => by have hk : k = g2 := hk; have := (own_cap HOR.out).2.1; omega))⟩
          rw [← marked_step f st ds i HID.out]
          exact own_upd HOR.out _
        case measure => simp [intOf]; omega
      · obtain rfl : m = i := by omega
        have hii : (m : Int) ≤ m := Int.le_refl _
        go_wp2_with fail
        refine wp_region_any (by kernel_rfl) ?_
        obtain ⟨wd, hWD⟩ : ∃ wd : World, wd = ((wr.alloc (.cells #[.int .u8 9] 5)).alloc (.cells #[.bool false, .bool true, .bool false, .bool false, .int .u32 ((f + 1000) % 4294967296), .int .i64 st, .int .i64 0, .int .u32 7, .slice (some ⟨wr.heap.size, 0, none⟩) 1 1] 31)).drew := ⟨_, rfl⟩
        show wpAny _ _ _ _ _ _ _ ((wr.alloc (.cells #[.int .u8 9] 5)).alloc (.cells #[.bool false, .bool true, .bool false, .bool false, .int .u32 ((f + 1000) % 4294967296), .int .i64 st, .int .i64 0, .int .u32 7, .slice (some ⟨wr.heap.size, 0, none⟩) 1 1] 31)).drew
        rw [← hWD]
        have hbd : Below wb.heap.size wb wd := by rw [hWD]; exact ((HBR.out.alloc hwr _).alloc (by simp; omega) _).drew
        have hbr : Below wr.heap.size wr wd := by rw [hWD]; exact (((Below.refl _ wr).alloc (Nat.le_refl _) _).alloc (by simp) _).drew
        have hb5 : wd.heap[wr.heap.size]? = some (.cells #[.int .u8 9] 5 (0, 0)) := by rw [hWD]; exact (heap_alloc_old _ _ (by simp)).trans (heap_new wr _)
        have hb31 : wd.heap[wr.heap.size + 1]? = some (.cells #[.bool false, .bool true, .bool false, .bool false, .int .u32 ((f + 1000) % 4294967296), .int .i64 st, .int .i64 0, .int .u32 7, .slice (some ⟨wr.heap.size, 0, none⟩) 1 1] 31 (0, 0)) := by
          rw [hWD]
          have e : (wr.alloc (.cells #[.int .u8 9] 5)).heap.size = wr.heap.size + 1 := by simp
          have := heap_new (wr.alloc (.cells #[.int .u8 9] 5)) (.cells #[.bool false, .bool true, .bool false, .bool false, .int .u32 ((f + 1000) % 4294967296), .int .i64 st, .int .i64 0, .int .u32 7, .slice (some ⟨wr.heap.size, 0, none⟩) 1 1] 31)
          rw [e] at this; exact this
        clear hWD
        have hown := own_far HOR.out hbr
        rw [HM.out, marked_all, ← HM.out] at hown
        have hrl : (ds.map unDk).length = m := by rw [List.length_map, HM.out]
        have hbwd : Below w.heap.size w wd := (HM2.out.below (Nat.le_refl _) (fun _ h => h.elim)).trans (hbd.mono hwb)
        obtain ⟨bk, hbk⟩ : ∃ bk : Dk, bk = ⟨{ p := 1000, k := 0, beg := true, fin := false, un := false, proto := 7, bytes := [9] }, wr.heap.size, 0, 1⟩ := ⟨_, rfl⟩
        have hcell : wd.heap[wr.heap.size + 1]? = some (.cells (dCells f st bk) 31 (0, 0)) := by rw [hb31, hbk]; rfl
        have hbkat : DkAt wd bk := by
          rw [hbk]
          refine ⟨bytes_of_block hb5 rfl (Nat.le_refl _) (fun i => ?_), by simp, by simp, by simp, by simp⟩
          show 0 ≤ ([9] : List Int).getD i 0 ∧ ([9] : List Int).getD i 0 < 256
          rcases i with _ | i
          · decide
          · simp
        have HMX : Hid (∀ W, Below wd.heap.size wd W → Calls Tryd.prog 10 #[.slice (some ⟨g2, 0, none⟩) m c2, .slice oo on oc] W (MixBack W f st (ds.map unDk))) := Lib.hid (fun W hW => by
          have h1 := own_far hown hW
          have := mixed_any (w := W) (f := f) (si := st) (rs := ds.map unDk) (g0 := g2) (c := c2) (by rw [hrl]; exact hcap2) (fun j u hu => own_cells h1 j u hu) ((HO.out.mod HM2.out (fun _ _ h => h)).mod (Mod.of_below (S := fun _ => False) (hbd.trans (hW.mono hbd.size))) (fun _ _ h => h)) (by omega) (by omega) HFP.out.hon HFP.out.ord
          rw [hrl] at this
          exact this)
        have HCON : Hid (∀ W v5 v6, Below wd.heap.size wd W → Row59 W wd.heap.size f st (ds.map unDk) bk v5 → Row60 W v6 → Calls Tryd.prog 9 #[v5, v6] W (ReBack W 2 (unRes b))) := Lib.hid (fun W v5 v6 hW h59 h60 => by
          have hLW := hbwd.trans (hW.mono hbwd.size)
          have hst := HFP.out.hst
          exact un_re h59 h60 HPC.out HM.out HMC.out hs0 hm2 hm0 (fun d hd => (HDK.out d hd).mod (Mod.of_below (S := fun _ => False) (hbd.trans (hW.mono hbd.size))) (fun h => h)) (hbkat.mod (Mod.of_below (S := fun _ => False) hW) (fun h => h)) (by rw [hbk]) (by rw [hbk]) (by rw [hbk]) HLEN.out HB.out.byte (glob_below HG0.out hLW (by obtain ⟨u, v, h⟩ := HG0.out; exact lt_of_cell h)) (glob_below HG1.out hLW (by obtain ⟨u, v, h⟩ := HG1.out; exact lt_of_cell h)) (by omega))
        have HCELL := Lib.hid hcell; have HRL := Lib.hid hrl; have HBWD := Lib.hid hbwd
        clear hbd hbr hb5 hb31 hown hbk hcell hbkat hrl hbwd
        refine wpAny_take (i := 0) (oi := { dst := some 54, op := .move (.tmp 11), type := _, pos := _, after := _, guard := none }) (v := .slice (some ⟨g2, 0, none⟩) m c2) rfl (by kernel_rfl) (by kernel_rfl) (by kernel_rfl) (fun _ _ _ h => h) (Or.inl ⟨by rfl, by intro w; go_simp⟩) ?_
        simp only [Act.put, List.setIfInBounds_toArray, List.set_cons_zero, List.set_cons_succ]
        refine wpAny_take (i := 1) (oi := { dst := some 55, op := .move (.tmp 4), type := _, pos := _, after := _, guard := none }) (v := .slice oo on oc) rfl (by kernel_rfl) (by kernel_rfl) (by kernel_rfl) (fun _ _ _ h => h) (Or.inl ⟨by rfl, by intro w; go_simp⟩) ?_
        simp only [Act.put, List.setIfInBounds_toArray, List.set_cons_zero, List.set_cons_succ]
        refine un_draw HRL.out.symm (by omega) HMX.out HCELL.out (fun b2 b3 b4 b5 b6 => by cases b2 <;> cases b3 <;> cases b4 <;> cases b5 <;> cases b6 <;> kernel_rfl) ⟨_, rfl, rfl, rfl, rfl⟩ ⟨_, rfl, rfl, rfl, rfl⟩ ⟨_, rfl, rfl, rfl, rfl⟩ ⟨_, rfl, rfl, rfl, rfl⟩ ⟨_, rfl, rfl, rfl, rfl⟩ (by simp) rfl rfl rfl rfl rfl rfl rfl rfl ?_
        intro v2 v3 v4 v5 v6 w4 hb4 h59 h60
        have HR := Lib.hid (HCON.out _ _ _ hb4 h59 h60)
        have HB4 := Lib.hid (HBWD.out.trans (hb4.mono HBWD.out.size))
        clear hb4 h59 h60
        simp only [mkA, Act.put, List.setIfInBounds_toArray, List.set_cons_zero, List.set_cons_succ]
        refine wpAny_ready (rs := [7]) (by kernel_rfl) (by simp) ?_
        refine AllReady.cons rfl (fun K hK => ?_) AllReady.nil
        go_simp
        refine HR.out.mono ?_
        rintro e w5 ⟨t1, t2, vals, rfl, ho1, ho2, hout, hb5⟩
        refine hK _ _ ?_
        clear hK K
        refine wpAny_take (i := 8) (oi := { dst := some 53, op := .move (.tmp 61), type := _, pos := _, after := _, guard := none }) (v := .tuple #[t1, t2, .bool true]) rfl (by kernel_rfl) (by kernel_rfl) (by kernel_rfl) (fun _ _ _ h => h) (Or.inl ⟨by rfl, by intro w; go_simp⟩) ?_
        simp only [Act.put, List.setIfInBounds_toArray, List.set_cons_zero, List.set_cons_succ]
        refine wpAny_take (i := 9) (oi := { dst := some 62, op := .extract (.tmp 53) 0, type := _, pos := _, after := _, guard := none }) (v := t1) rfl (by kernel_rfl) (by kernel_rfl) (by kernel_rfl) (fun _ _ _ h => h) (Or.inl ⟨by rfl, by intro w; go_simp⟩) ?_
        simp only [Act.put, List.setIfInBounds_toArray, List.set_cons_zero, List.set_cons_succ]
        refine wpAny_take (i := 10) (oi := { dst := some 63, op := .extract (.tmp 53) 1, type := _, pos := _, after := _, guard := none }) (v := t2) rfl (by kernel_rfl) (by kernel_rfl) (by kernel_rfl) (fun _ _ _ h => h) (Or.inl ⟨by rfl, by intro w; go_simp⟩) ?_
        simp only [Act.put, List.setIfInBounds_toArray, List.set_cons_zero, List.set_cons_succ]
        refine wpAny_take (i := 11) (oi := { dst := some 64, op := .extract (.tmp 53) 2, type := _, pos := _, after := _, guard := none }) (v := .bool true) rfl (by kernel_rfl) (by kernel_rfl) (by kernel_rfl) (fun _ _ _ h => h) (Or.inl ⟨by rfl, by intro w; go_simp⟩) ?_
        simp only [Act.put, List.setIfInBounds_toArray, List.set_cons_zero, List.set_cons_succ]
        refine wpAny_take (i := 12) (oi := { dst := some 14, op := .assign (.tmp 62), type := _, pos := _, after := _, guard := none }) (v := t1) rfl (by kernel_rfl) (by kernel_rfl) (by kernel_rfl) (fun _ _ _ h => h) (Or.inl ⟨by rfl, by intro w; go_simp⟩) ?_
        simp only [Act.put, List.setIfInBounds_toArray, List.set_cons_zero, List.set_cons_succ]
        refine wpAny_take (i := 13) (oi := { dst := some 15, op := .assign (.tmp 63), type := _, pos := _, after := _, guard := none }) (v := t2) rfl (by kernel_rfl) (by kernel_rfl) (by kernel_rfl) (fun _ _ _ h => h) (Or.inl ⟨by rfl, by intro w; go_simp⟩) ?_
        simp only [Act.put, List.setIfInBounds_toArray, List.set_cons_zero, List.set_cons_succ]
        refine wpAny_take (i := 14) (oi := { dst := some 16, op := .assign (.tmp 64), type := _, pos := _, after := _, guard := none }) (v := .bool true) rfl (by kernel_rfl) (by kernel_rfl) (by kernel_rfl) (fun _ _ _ h => h) (Or.inl ⟨by rfl, by intro w; go_simp⟩) ?_
        simp only [Act.put, List.setIfInBounds_toArray, List.set_cons_zero, List.set_cons_succ]
        refine wpAny_done (by kernel_rfl) ?_ _
        obtain ⟨a1, c1, rfl, hc1, hv1⟩ := own_form ho1
        obtain ⟨a2, c3, rfl, hc3, hv2⟩ := own_form ho2
        have hvl : vals.length = 2 := by have := ho1.1; simpa using this
        obtain ⟨x, hx⟩ : ∃ x, vals[0]? = some x := ⟨_, List.getElem?_eq_getElem (by omega)⟩
        obtain ⟨y, hy⟩ : ∃ y, vals[1]? = some y := ⟨_, List.getElem?_eq_getElem (by omega)⟩
        obtain ⟨p1, rfl, _, hp1⟩ := hv1 0 x hx
        obtain ⟨p1', e1, _, hp1'⟩ := hv1 1 y hy
        obtain rfl : p1 = p1' := by simpa using e1
        obtain ⟨p2, rfl, _, hp2⟩ := hv2 0 (.int .i64 50) (by simp [unRes, Res.pr])
        have hxo := hout 0 x hx
        have hyo := hout 1 y hy
        unfold unRes at hxo hyo
        rw [if_pos rfl] at hxo
        rw [if_neg (by decide)] at hyo
        obtain ⟨ya, yc, rfl⟩ : ∃ ya yc, y = .slice ya 0 yc := by
          rcases hyo with ⟨_, xa, xc, h⟩ | ⟨l, p, g, c, h, _⟩
          · exact ⟨xa, xc, h⟩
          · cases h
        obtain ⟨xg, xc, rfl, hxb⟩ : ∃ xg xc, x = .slice (some ⟨xg, 0, none⟩) n xc ∧ BytesAt w5 (some ⟨xg, 0, none⟩) n xc b := by
          rcases hxo with ⟨h, _⟩ | ⟨l, p, g, c, h, h2, h3, h4, h5, cs, h6, h7⟩
          · cases h
          · obtain ⟨rfl, _⟩ : b = l ∧ (50 : Int) = p := by simpa using h
            have := bytes_of_block h6 h7 h3 HB.out.byte
            rw [HL.out] at h2 this
            exact ⟨g, c, h2, this⟩
        have L5 : Below w.heap.size w w5 := HB4.out.trans (hb5.mono HB4.out.size)
        have hsame := same_any _ _ _ _ _ _ b b w5 hxb (HB.out.mod (Mod.of_below (S := fun _ => False) L5) (fun _ _ h => h))
        rw [show decide (b = b) = true from by simp] at hsame
        have HSAME := Lib.hid hsame; have HL5 := Lib.hid L5
        clear ho1 ho2 hout hb5 hv1 hv2 hvl hx hy hxo hyo hxb L5 hsame e1 HR
        go_wp2_with (go_at_call 11; refine HSAME.out.mono ?_; rintro e w8 ⟨rfl, hw8⟩; obtain rfl := hw8.symm; clear hw8)
        go_ret
        exact ⟨rfl, HL5.out⟩
end Go.Proofs.YtmniikihkpikdaaDoor
