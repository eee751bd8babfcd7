/- laws.FnReassembleSmall returns true for every input, and leaves the memory that was there as it was; conditions: the package's errors are there (GlobErr). -/
import Derived.Test.YtmniikihkpikdaaDoorM28
namespace Go.Proofs.YtmniikihkpikdaaDoor
open Go.RowKit
set_option linter.unusedVariables false

set_option maxHeartbeats 2000000 in
set_option maxRecDepth 20000 in
theorem small_all {w : World} {mo oo : Option Addr} {n mc on oc : Nat} {b order : List Int} {f st sz rm : Int} (hb : BytesAt w mo n mc b) (ho : IntsAt w oo on oc order) (hf : 0 ≤ f ∧ f < 4294967296) (hg0 : GlobErr w 0) (hg1 : GlobErr w 1) :
    Calls Tryd.prog 4 #[.int .u32 f, .int .i64 st, .slice mo n mc, .int .i64 sz, .slice oo on oc, .int .i64 rm] w (IsTrue w) := by
  have HB := Lib.hid hb; have HO := Lib.hid ho; have HG0 := Lib.hid hg0; have HG1 := Lib.hid hg1; have HF := Lib.hid hf
  have HL := Lib.hid hb.len
  clear hb ho hg0 hg1 hf
  by_cases h1 : (2147483647 : Int) < n
  · go_enter Tryd.func4, Tryd.ntmps4
    go_wp2_with fail
    go_ret
    exact ⟨rfl, Below.refl _ _⟩
  have h1' : (n : Int) ≤ 2147483647 := by omega
  by_cases h2 : (2147483647 : Int) < on
  · go_enter Tryd.func4, Tryd.ntmps4
    go_wp2_with fail
    go_ret
    exact ⟨rfl, Below.refl _ _⟩
  have h2' : (on : Int) ≤ 2147483647 := by omega
  have M1 : Mod (fun _ => False) w (w.alloc (.cells #[.slice mo n mc] 29)) := (Mod.refl _ w).alloc _
  have HFT := Lib.hid (fits_any (st := st) (sz := sz) (ms_one HB.out) (HO.out.mod M1 (fun _ _ h => h)))
  have HM1 := Lib.hid M1
  have B1 : Below w.heap.size w (w.alloc (.cells #[.slice mo n mc] 29)) := (Below.refl _ w).alloc (Nat.le_refl _) _
  have HB1 := Lib.hid B1
  clear M1 B1
  go_enter Tryd.func4, Tryd.ntmps4
  go_wp2_with fail
  refine HFT.out.mono ?_
  rintro e w1 ⟨bf, rfl, hfit, hw1⟩
  obtain rfl := hw1.symm
  have HFIT := Lib.hid hfit
  clear HFT hfit hw1
  cases bf with
  | false =>
    go_wp2_with fail
    go_ret
    exact ⟨rfl, HB1.out⟩
  | true =>
    have HFP := Lib.hid (HFIT.out rfl)
    clear HFIT
    by_cases h3 : rm < 0
    · go_wp2_with fail
      go_ret
      exact ⟨rfl, HB1.out⟩
    by_cases h4 : (n : Int) ≤ rm
    · go_wp2_with fail
      go_ret
      exact ⟨rfl, HB1.out⟩
    have h4' : rm < n := by omega
    obtain ⟨s, hs⟩ : ∃ s : Nat, sz = s := ⟨sz.toNat, by have := HFP.out.hsz; omega⟩
    subst hs
    obtain ⟨r, hr⟩ : ∃ r : Nat, rm = r := ⟨rm.toNat, by omega⟩
    subst hr
    have hfs := HFP.out.hsz
    have hs0 : 1 ≤ s := by omega
    have hs1 : s ≤ 200 := by omega
    clear hfs
    go_wp2_with fail
    generalize hWA : w.alloc (.cells #[.slice mo n mc] 29) = wa at HM1 HB1 ⊢
    have hsza : wa.heap.size = w.heap.size + 1 := by rw [← hWA]; simp
    clear hWA
    obtain ⟨ga, hga⟩ : ∃ ga, ga = w.heap.size + 1 := ⟨_, rfl⟩
    rw [← hga] at hsza ⊢
    have hMS := ms_one (HB.out.mod HM1.out (fun _ _ h => h))
    rw [hsza] at hMS
    have M2 : Mod (fun _ => False) wa (wa.alloc (.cells #[.slice mo n mc] 29)) := (Mod.refl _ wa).alloc _
    have HM2 := Lib.hid (HM1.out.trans M2)
    have HSZA := Lib.hid hsza
    generalize hWB : wa.alloc (.cells #[.slice mo n mc] 29) = wb at hMS HM2 ⊢
    have hszb : wb.heap.size = ga + 1 := by rw [← hWB]; simp [hsza]
    have HSZB := Lib.hid hszb; have HGA := Lib.hid hga
    have HP := Lib.hid (pieces_any (f := f) (si := st) (s := s) hMS (by omega) (HFP.out.len) hs0 hs1 HF.out)
    clear hWB hMS M2 hsza hszb hga
    refine HP.out.mono ?_
    rintro e w2 ⟨ds, g2, c2, rfl, hpc, hown, hdk, hb2⟩
    have hdl := congrArg List.length hpc
    rw [List.length_map] at hdl
    have htot := HFP.out.tot
    rw [Int.toNat_natCast] at htot
    have hlen := (HFP.out.len b (by simp)).1
    have hpos : 0 < (upTo [b] s 1).length := by
      show 0 < ([] ++ msgPcs 0 0 b s).length
      rw [List.nil_append, msgPcs_len]; exact cnt_pos (by omega) hlen
    have M2 := Mod.of_below (S := fun _ => False) hb2
    obtain ⟨hcap2, _, _, _⟩ := own_cap hown
    have HX := Lib.hid (mixed_any (f := f) (si := st) (rs := ds) hcap2 (fun j u hu => own_cells hown j u hu) ((HO.out.mod HM2.out (fun _ _ h => h)).mod M2 (fun _ _ h => h)) (by omega) (by omega) HFP.out.hon HFP.out.ord)
    have HDK := Lib.hid hdk; have HPC := Lib.hid hpc; have HB2 := Lib.hid hb2
    obtain ⟨m, hm⟩ : ∃ m, m = ds.length := ⟨_, rfl⟩
    rw [← hm] at HX hdl ⊢
    have HM := Lib.hid hm; have HDL := Lib.hid hdl
    have hmp : 0 < m := by omega
    have hmt : m ≤ 1000 := by omega
    clear hpc hdl htot hlen hpos M2 hcap2 hown hdk hb2 hm HP
    go_wp2_with fail
    refine HX.out.mono ?_
    rintro e w3 ⟨rs, g3, c3, hperm, rfl, hown3, hb3⟩
    rw [← HM.out] at hown3
    have hszw : w.heap.size ≤ wb.heap.size := HM2.out.size
    have L2 : Below w.heap.size w w2 := (HM2.out.below (Nat.le_refl _) (fun _ h => h.elim)).trans (HB2.out.mono hszw)
    have hs2 := HB2.out.size
    have L3 : Below w.heap.size w w3 := L2.trans (hb3.mono (by omega))
    have hrl : rs.length = ds.length := hperm.length_eq
    have hpp : (rs.map (·.pc)).Perm (upTo [b] s 1) := by rw [← HPC.out]; exact hperm.map _
    have hmemp : ∀ d ∈ rs, d.pc ∈ upTo [b] s 1 := fun d hd => hpp.mem_iff.1 (List.mem_map.2 ⟨d, hd, rfl⟩)
    have hdk3 : ∀ d ∈ rs, DkAt w3 d := fun d hd => by
      have h0 := HDK.out d (hperm.mem_iff.1 hd)
      exact (h0.mod (Mod.of_below (S := fun _ => False) HB2.out) (fun h => h)).mod (Mod.of_below (S := fun _ => False) hb3) (fun h => h)
    have hpw : (rs.map (·.pc)).Pairwise ApartP := (upTo_apart).perm hpp.symm (fun h => apart_symm h)
    rw [← HM.out] at hrl
    rw [← hrl] at hown3
    have HOWN := Lib.hid hown3; have HRL := Lib.hid hrl; have HPP := Lib.hid hpp; have HMP := Lib.hid hmemp; have HD3 := Lib.hid hdk3; have HPW := Lib.hid hpw; have HL3 := Lib.hid L3
    have RE : Hid (∀ (W : World) (so : Option Addr) (sc N r : Nat), Below w3.heap.size w3 W → RowAt 0 W so 1 sc 1 (fun _ => .int .i64 r) → r ≤ 65536 → Calls Tryd.prog 9 #[.slice (some ⟨g3, 0, none⟩) m c3, .slice so 1 sc] W (ReBack W 1 (oneRes b r))) := Lib.hid (fun W so sc N r hW hso hr => by
      have hM := Mod.of_below (S := fun _ => False) hW
      have hLW := HL3.out.trans (hW.mono HL3.out.size)
      have hbl := (HFP.out.len b (by simp)).1
      rw [← HRL.out]
      refine re_ord (f := f) (si := st) (sz := fun _ => r) (R := OneR (rs.map (·.pc))) (own_far HOWN.out hW) (fun d hd => (HD3.out d hd).mod hM (fun h => h)) (glob_below HG0.out hLW (by obtain ⟨u, v, h⟩ := HG0.out; exact lt_of_cell h)) (glob_below HG1.out hLW (by obtain ⟨u, v, h⟩ := HG1.out; exact lt_of_cell h)) HPW.out
        (fun d hd => (upTo_k (HMP.out d hd)).1) (fun d hd => by have := (upTo_k (HMP.out d hd)).2; omega) (by rw [HRL.out]; omega) (by rw [HRL.out]; omega) hso (by omega) (fun _ => hr) (by have := HFP.out.hst; omega) ?_ (fun ord h _ => ⟨h, rfl⟩) (fun j ord nssn hj hR => one_next (by omega) hbl HPP.out r j hj ord nssn hR)
      intro k l p hk
      unfold oneRes at hk
      split at hk
      · cases hk
      · obtain ⟨rfl, rfl⟩ : b = l ∧ (50 : Int) = p := by simpa using hk
        exact ⟨hbl, HB.out.byte, by omega, by omega⟩)
    clear hszw L2 hs2 hb3 L3 hrl hpp hmemp hdk3 hpw hperm hown3 HX
    rw [← HM.out]
    go_wp2_with fail
    have B4 : Below w3.heap.size w3 (w3.alloc (.cells #[.int .i64 r] 3)) := (Below.refl _ w3).alloc (Nat.le_refl _) _
    have HR1 := Lib.hid (RE.out _ _ _ 1 r B4 (sizes_one (w := w3) (r := r)) (by have := (HFP.out.len b (by simp)).2; have := HL.out; omega))
    have HB4 := Lib.hid B4
    generalize hW4 : w3.alloc (.cells #[.int .i64 r] 3) = w4 at HR1 HB4 ⊢
    clear hW4 B4
    refine HR1.out.mono ?_
    rintro e w5 ⟨v1, v2, vals, rfl, ho1, ho2, hout, hb5⟩
    obtain ⟨a1, c1, rfl, hc1, hv1⟩ := own_form ho1
    obtain ⟨a2, c2', rfl, hc2, hv2⟩ := own_form ho2
    have hvl : vals.length = 1 := by have := ho1.1; simpa using this
    obtain ⟨x, hx⟩ : ∃ x, vals[0]? = some x := ⟨_, List.getElem?_eq_getElem (by omega)⟩
    obtain ⟨p1, rfl, _, hp1⟩ := hv1 0 x hx
    have hxo := hout 0 x hx
    unfold oneRes at hxo
    rw [if_pos (by rw [HL.out]; omega)] at hxo
    obtain ⟨xa, xc, rfl⟩ : ∃ xa xc, x = .slice xa 0 xc := by
      rcases hxo with ⟨_, xa, xc, h⟩ | ⟨l, p, g, c, h, _⟩
      · exact ⟨xa, xc, h⟩
      · cases h
    have hs4 := HB4.out.size
    have HB5 := Lib.hid (HB4.out.trans (hb5.mono hs4))
    have HP1 := Lib.hid hp1
    have hp1w : p1 < w5.heap.size := lt_of_cell hp1
    clear ho1 ho2 hout hb5 hv1 hv2 hvl hx hxo hp1 HR1
    go_wp2_with fail
    have B6 : Below w3.heap.size w3 (w5.alloc (.cells #[.int .i64 n] 3)) := HB5.out.alloc HB5.out.size _
    have HR2 := Lib.hid (RE.out _ _ _ 1 n B6 (sizes_one (w := w5) (r := n)) (by have := (HFP.out.len b (by simp)).2; have := HL.out; omega))
    have HB6 := Lib.hid B6
    have HP6 : Hid ((w5.alloc (.cells #[.int .i64 n] 3)).cell? ⟨p1, 0, none⟩ = some (.slice xa 0 xc)) := Lib.hid (cell_alloc HP1.out _)
    have hp1w6 : p1 < (w5.alloc (.cells #[.int .i64 n] 3)).heap.size := by simp; omega
    generalize hW6 : w5.alloc (.cells #[.int .i64 n] 3) = w6 at HR2 HB6 HP6 hp1w6 ⊢
    clear hW6 B6
    refine HR2.out.mono ?_
    rintro e w7 ⟨v3, v4, vals', rfl, ho3, ho4, hout', hb7⟩
    obtain ⟨a3, c3', rfl, hc3, hv3⟩ := own_form ho3
    obtain ⟨a4, c4, rfl, hc4, hv4⟩ := own_form ho4
    have hvl' : vals'.length = 1 := by have := ho3.1; simpa using this
    obtain ⟨y, hy⟩ : ∃ y, vals'[0]? = some y := ⟨_, List.getElem?_eq_getElem (by omega)⟩
    obtain ⟨p3, rfl, _, hp3⟩ := hv3 0 y hy
    have hyo := hout' 0 y hy
    unfold oneRes at hyo
    rw [if_neg (by rw [HL.out]; omega)] at hyo
    obtain ⟨yg, yc, rfl, hyb⟩ : ∃ yg yc, y = .slice (some ⟨yg, 0, none⟩) n yc ∧ BytesAt w7 (some ⟨yg, 0, none⟩) n yc b := by
      rcases hyo with ⟨h, _⟩ | ⟨l, p, g, c, h, h2, h3, h4, h5, cs, h6, h7⟩
      · cases h
      · obtain ⟨rfl, _⟩ : b = l ∧ (50 : Int) = p := by simpa using h
        have := bytes_of_block h6 h7 h3 HB.out.byte
        rw [HL.out] at h2 this
        exact ⟨g, c, h2, this⟩
    have L7 : Below w.heap.size w w7 := (HL3.out.trans (HB6.out.mono HL3.out.size)).trans (hb7.mono (by have := HB6.out.size; have := HL3.out.size; omega))
    have q1 : w7.cell? ⟨p1, 0, none⟩ = some (.slice xa 0 xc) := (hb7.cell (p := ⟨p1, 0, none⟩) hp1w6).trans HP6.out
    have hsame := same_any _ _ _ _ _ _ b b w7 hyb (HB.out.mod (Mod.of_below (S := fun _ => False) L7) (fun _ _ h => h))
    rw [show decide (b = b) = true from by simp] at hsame
    have HSAME := Lib.hid hsame; have HL7 := Lib.hid L7
    clear ho3 ho4 hout' hb7 hv3 hv4 hvl' hy hyo HR2 hyb L7 hsame
    go_wp2_with (go_at_call 11; refine HSAME.out.mono ?_; rintro e w8 ⟨rfl, hw8⟩; obtain rfl := hw8.symm; clear hw8)
    go_ret
    exact ⟨rfl, HL7.out⟩
end Go.Proofs.YtmniikihkpikdaaDoor
