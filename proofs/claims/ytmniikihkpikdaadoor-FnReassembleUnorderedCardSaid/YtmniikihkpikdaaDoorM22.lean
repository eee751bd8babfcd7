/- Part of the proofs of the three laws on reassembly: spec.Pieces walked whole; conditions: as each theorem states. -/
import Derived.Test.YtmniikihkpikdaaDoorM21
namespace Go.Proofs.YtmniikihkpikdaaDoor
open Go.RowKit
set_option linter.unusedVariables false

/-- The pieces so far. -/
structure PcsAt (w wr : World) (f si : Int) (v9 : Value) (ds : List Dk) : Prop where
  val : ∃ g c, v9 = .slice (some ⟨g, 0, none⟩) ds.length c
  own : wr.ownsRow w.heap.size 31 9 v9 ds.length (recs f si ds)
  dk : ∀ d ∈ ds, DkAt w d
  below : Below w.heap.size w wr
def OutRel (w : World) (f si : Int) (ms : List (List Int)) (s n : Nat) (v9 vi : Value) (wr : World) : Prop :=
  ∃ (k : Nat) (ds : List Dk), k ≤ n ∧ vi = .int .i64 k ∧ ds.map (·.pc) = upTo ms s k ∧ PcsAt w wr f si v9 ds
def InRel (w : World) (f si : Int) (ms : List (List Int)) (s k : Nat) (v9 v12 : Value) (wr : World) : Prop :=
  ∃ (i : Nat) (ds : List Dk), i ≤ cnt (ms.getD k []).length s ∧ v12 = .int .i64 ((i * s : Nat) : Int) ∧ ds.map (·.pc) = upTo ms s k ++ (List.range i).map (pcAt (upTo ms s k).length k (ms.getD k []) s) ∧ PcsAt w wr f si v9 ds
def PiecesBack (w : World) (f si : Int) (ms : List (List Int)) (s n : Nat) (e : Ending) (w' : World) : Prop :=
  ∃ ds g c, e = .returned (.slice (some ⟨g, 0, none⟩) ds.length c) ∧ ds.map (·.pc) = upTo ms s n ∧ w'.ownsRow w.heap.size 31 9 (.slice (some ⟨g, 0, none⟩) ds.length c) ds.length (recs f si ds) ∧ (∀ d ∈ ds, DkAt w d) ∧ Below w.heap.size w w'

set_option maxHeartbeats 2000000 in
set_option maxRecDepth 20000 in
theorem pieces_any {w : World} {f si : Int} {ao : Option Addr} {n c s : Nat} {ms : List (List Int)} (h : MsAt w ao n c ms) (hn : n ≤ 20) (hlen : ∀ m ∈ ms, 0 < m.length ∧ m.length ≤ 200) (hs0 : 1 ≤ s) (hs1 : s ≤ 200) (hf : 0 ≤ f ∧ f < 4294967296) :
    Calls Tryd.prog 8 #[.int .u32 f, .int .i64 si, .slice ao n c, .int .i64 s] w (PiecesBack w f si ms s n) := by
  obtain ⟨i31, hi31, hz31, hzz1, hzz2⟩ := info_parts (show (Tryd.prog.info? 31).map (fun i => (i.zero, i.size, i.bytes)) = some (some (.agg im0), 9, 56) by kernel_rfl)
  have HM := Lib.hid h; have HLEN := Lib.hid hlen
  have hnc := h.cap
  obtain ⟨hf0, hf1⟩ := hf
  have HP0 : Hid (PcsAt w (w.alloc (.cells #[] 31)) f si (.slice (some ⟨w.heap.size, 0, none⟩) 0 0) []) := Lib.hid ⟨⟨_, 0, rfl⟩, World.ownsRow_made (e := 31) (size := 9) w #[] 0 (Nat.le_refl _) (by unfold maxLen; omega) rfl, (fun d hd => by cases hd), (Below.refl _ w).alloc (Nat.le_refl _) _⟩
  clear h hlen
  go_enter Tryd.func8, Tryd.ntmps8
  go_wp2_with fail
  go_loopw [9, 18] (fun v9 vi wr => OutRel w f si ms s n v9 vi wr) (fun _ vi _ => n - (intOf vi).toNat)
  case atStart => exact ⟨0, [], Nat.zero_le _, rfl, rfl, HP0.out⟩
  case round =>
    clear HP0
    obtain ⟨k, ds, hk, rfl, hpc, hat⟩ := hrel
    have HPC := Lib.hid hpc; have HAT := Lib.hid hat
    obtain ⟨⟨g0, c0, rfl⟩, _, _, _⟩ := hat
    by_cases hkn : k < n
    · have hkI : (k : Int) < n := by omega
      obtain ⟨gm, off, mo, mc, rfl, hcm, hbm⟩ := HM.out.cell k hkn
      obtain ⟨b, hb⟩ : ∃ b, b = ms.getD k [] := ⟨_, rfl⟩
      rw [← hb] at hcm hbm
      have hbl : 0 < b.length ∧ b.length ≤ 200 := by
        have hkm : k < ms.length := by rw [HM.out.len]; exact hkn
        rw [hb, List.getD_eq_getElem?_getD, List.getElem?_eq_getElem hkm]
        exact HLEN.out _ (List.getElem_mem _)
      obtain ⟨gb, ob, rfl, _, _⟩ := hbm.open hbl.1
      have ck : wr.cell? ⟨gm, off + k, none⟩ = some (.slice (some ⟨gb, ob, none⟩) b.length mc) := (HAT.out.below.cell (p := ⟨gm, off + k, none⟩) (lt_of_cell hcm)).trans hcm
      have HB := Lib.hid hb; have HBM := Lib.hid hbm; have HUP := Lib.hid (upTo_len_le ms s hs0 (fun m hm => (HLEN.out m hm).2) k)
      obtain ⟨L, hL⟩ : ∃ L, L = b.length := ⟨_, rfl⟩
      have HL := Lib.hid hL
      have hmc := hbm.cap
      rw [← hL] at ck hbl hmc
      obtain ⟨hL0, hL1⟩ := hbl
      have hkc : (k : Int) < c := by omega
      have w1k := wraps_i64 ((k : Int) + 1) (by omega) (by omega)
      clear hpc hcm hbm hb hL
      go_wp2_with fail
      go_loopw [9, 12] (fun v9 v12 wr => InRel w f si ms s k v9 v12 wr) (fun _ v12 _ => L - (intOf v12).toNat)
      case atStart => exact ⟨0, ds, Nat.zero_le _, by simp, by rw [HPC.out]; simp, HAT.out⟩
      case round =>
        clear HPC HAT ck
        obtain ⟨i, ds, hi, rfl, hpc, hat⟩ := hrel
        have HPC := Lib.hid hpc; have HAT := Lib.hid hat
        obtain ⟨⟨g1, c1, rfl⟩, hown, _, hbe⟩ := hat
        have hdl := congrArg List.length hpc
        simp only [List.length_map, List.length_append, List.length_range] at hdl
        have hcl := cnt_le (L := L) (s := s) (by omega)
        have hup := HUP.out
        have hLb := HL.out
        rw [← HB.out, ← hLb] at hi
        obtain ⟨at_, hat⟩ : ∃ x, x = i * s := ⟨_, rfl⟩
        have HA := Lib.hid hat
        rw [← hat]
        obtain ⟨dn, hdn⟩ : ∃ dn, dn = ds.length := ⟨_, rfl⟩
        have HDN := Lib.hid hdn
        rw [← hdn] at hdl ⊢
        have hdn5 : dn ≤ 4200 := by omega
        have hsB := hbe.size
        have HOWN : Hid (wr.ownsRow w.heap.size 31 9 (.slice (some ⟨g1, 0, none⟩) dn c1) dn (recs f si ds)) := Lib.hid (by rw [HDN.out]; exact hown)
        by_cases hal : at_ < L
        · have haI : (at_ : Int) < L := by omega
          have w1 := wraps_i64 ((at_ : Int) + s) (by omega) (by omega)
          have w50 := wraps_i64 (50 + (k : Int)) (by omega) (by omega)
          clear hpc hown hbe hat hdn hcl hup hdl hLb
          obtain ⟨en, hen⟩ : ∃ en, en = min (at_ + s) L := ⟨_, rfl⟩
          have hmin : min ((at_ : Int) + s) L = (en : Int) := by omega
          have hen1 : (at_ : Int) ≤ en := by omega
          have hen2 : (en : Int) ≤ mc := by omega
          have hen3 : (en : Int) ≤ L := by omega
          have hmcat : ¬ mc = at_ := by omega
          have hamc : (at_ : Int) ≤ mc := by omega
          obtain ⟨bg, hbg⟩ : ∃ bg : Bool, ((at_ : Int) == 0) = bg := ⟨_, rfl⟩
          obtain ⟨fn, hfn⟩ : ∃ fn : Bool, ((en : Int) == (L : Int)) = fn := ⟨_, rfl⟩
          obtain ⟨tv, htv⟩ : ∃ tv, (f + (dn : Int)) % 4294967296 = tv := ⟨_, rfl⟩
          have wdn : (dn : Int) % 4294967296 = dn := by omega
          have HEN := Lib.hid hen; have HBG := Lib.hid hbg; have HFN := Lib.hid hfn; have HTV := Lib.hid htv
          clear hen wdn
          go_wp2_with (first | (at_builtin; refine wpList_append_recH rfl _ _ 27 rfl w.heap.size 31 i31 (.agg im0) 9 56 Tryd.underlying27 hi31 hz31 hzz1 hzz2 rfl (by decide) (wr.heap.size + 1) (by simp) (.slice (some ⟨g1, 0, none⟩) dn c1) dn _ #[.bool false, .bool bg, .bool fn, .bool false, .int .u32 tv, .int .i64 si, .int .i64 k, .int .u32 (50 + k), .slice (some ⟨gb, ob + at_, none⟩) (en - at_) (mc - at_)] rfl (HOWN.out.alloc _) rfl rfl (by intro u hu; simp at hu; rcases hu with rfl | rfl | rfl | rfl | rfl | rfl | rfl | rfl | rfl <;> rfl) (by omega) (by omega) (by simp; omega) ?_; intro g5 cap5 w5 hown5 hM5; have HO5 := Lib.hid hown5; have HM5 := Lib.hid hM5; clear hown5 hM5))
          obtain ⟨dk, hdk⟩ : ∃ dk : Dk, dk = ⟨pcAt (upTo ms s k).length k b s i, gb, ob + at_, mc - at_⟩ := ⟨_, rfl⟩
          have hiL : i * s < b.length := by rw [← HL.out, ← HA.out]; exact hal
          have hlen2 := HDN.out
          have hdl := congrArg List.length HPC.out
          simp only [List.length_map, List.length_append, List.length_range] at hdl
          have hbytes : (b.drop (i * s)).take s = (b.drop at_).take (en - at_) := by
            rw [← HA.out, HEN.out, HL.out, take_min]
          have hblen : ((b.drop (i * s)).take s).length = en - at_ := by
            rw [hbytes, List.length_take, List.length_drop, ← HL.out]; omega
          have hcells : dCells f si dk = #[.bool false, .bool bg, .bool fn, .bool false, .int .u32 tv, .int .i64 si, .int .i64 k, .int .u32 (50 + k), .slice (some ⟨gb, ob + at_, none⟩) (en - at_) (mc - at_)] := by
            rw [hdk]
            unfold dCells
            simp only [pcAt, hblen]
            have e1 : decide (i = 0) = bg := by
              rw [← HBG.out, HA.out]
              rcases Nat.eq_zero_or_pos i with h0 | h0
              · subst h0; simp
              · have : 0 < i * s := Nat.mul_pos h0 (by omega)
                have h1 : decide (i = 0) = false := by simp; omega
                have h2 : (((i * s : Nat) : Int) == 0) = false := by simp only [beq_eq_false_iff_ne, ne_eq]; omega
                rw [h1, h2]
            have e2 : decide (i + 1 = cnt b.length s) = fn := by
              rw [← HFN.out, HEN.out, Bool.eq_iff_iff]
              simp only [decide_eq_true_eq, beq_iff_eq]
              rw [cnt_last (by omega) hiL, HA.out, HL.out, Nat.succ_mul]
              omega
            have e3 : U f (((upTo ms s k).length + i : Nat) : Int) = tv := by
              rw [← HTV.out]
              unfold U
              rw [show (upTo ms s k).length + i = dn from by rw [HDN.out, hdl]]
            rw [e1, e2, e3]
            simp
          have hdkAt : DkAt w dk := by
            rw [hdk]
            have hp := piece_bytes (HBM.out) at_ en (by omega) (by rw [← HL.out]; omega)
            refine ⟨?_, ?_, ?_, ?_, ?_⟩
            · show BytesAt w (some ⟨gb, ob + at_, none⟩) ((b.drop (i * s)).take s).length (mc - at_) ((b.drop (i * s)).take s)
              rw [hblen, hbytes]; exact hp
            · show 0 < ((b.drop (i * s)).take s).length
              rw [hblen]; omega
            · show ((b.drop (i * s)).take s).length ≤ 4096
              rw [hblen]; omega
            · show 0 ≤ (((upTo ms s k).length + i : Nat) : Int) ∧ (((upTo ms s k).length + i : Nat) : Int) < 5000
              omega
            · show 0 ≤ (k : Int) ∧ (k : Int) < 1000
              omega
          have hB5 : Below w.heap.size w w5 := (HAT.out.below.alloc hsB _).trans (HM5.out.below (by simp; omega) (fun b hb => (HOWN.out.lt b hb).1))
          refine ⟨⟨i + 1, ds ++ [dk], ?_, ?_, ?_, ⟨⟨g5, cap5, by rw [List.length_append, ← HDN.out]; rfl⟩, ?_, fun d hd => ?_, hB5⟩⟩, by simp [intOf]; omega⟩
          · rw [← HB.out]; exact (cnt_lt (by omega)).2 hiL
          · rw [Nat.succ_mul, ← HA.out]; go_num
          · rw [List.map_append, HPC.out, pcs_step, List.append_assoc, ← HB.out, hdk]; rfl
          · rw [recs_append, List.length_append, ← HDN.out]
            have e : recs f si [dk] = (dCells f si dk).toList := by unfold recs; simp
            rw [e, hcells]; exact HO5.out
          · rcases List.mem_append.1 hd with hd | hd
            · exact HAT.out.dk d hd
            · obtain rfl := List.mem_singleton.1 hd; exact hdkAt
        · have hic : i = cnt (ms.getD k []).length s := by
            rw [← HB.out]
            rcases Nat.lt_or_ge i (cnt b.length s) with h1 | h1
            · have := (cnt_lt (L := b.length) (s := s) (i := i) (by omega)).1 h1
              rw [← HL.out, ← HA.out] at this
              omega
            · have := hi; rw [hLb] at this; omega
          have HIC := Lib.hid hic
          have hal' : ¬ (at_ : Int) < L := by omega
          clear hpc hown hbe hat hdn hcl hup hdl hLb hic
          go_wp2_with fail
          go_roundw
          case rel =>
            refine ⟨k + 1, ds, hkn, by go_num, ?_, by rw [HDN.out]; exact HAT.out⟩
            rw [HPC.out, HIC.out]; rfl
          case measure => simp [intOf]; omega
    · obtain rfl : k = n := by omega
      have hkk : (k : Int) ≤ k := Int.le_refl _
      obtain ⟨dn, hdn⟩ : ∃ dn, dn = ds.length := ⟨_, rfl⟩
      have HDN := Lib.hid hdn
      rw [← hdn]
      clear hpc hdn
      go_wp2_with fail
      go_ret
      exact ⟨ds, g0, c0, by rw [HDN.out]; rfl, HPC.out, HAT.out.own, HAT.out.dk, HAT.out.below⟩
end Go.Proofs.YtmniikihkpikdaaDoor
