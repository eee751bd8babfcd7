/- Part of the proof of laws.FnReceivedAny: the gaps that the queue tells; conditions: the package's table is there (Tab). -/
import Derived.Test.YthnalicohdmlfaaDoorR7
namespace Go.Proofs.YthnalicohdmlfaaDoor
open Go.RowKit
set_option linter.unusedVariables false

/-- Runs as pairs of numbers, counted from C. -/
def cells16 (C : Nat) (gs : List (Nat × Nat)) : List Value := gs.flatMap fun p => [.int .u16 ((p.1 : Int) - C), .int .u16 ((p.2 : Int) - C)]
theorem cells16_snoc (C : Nat) (gs : List (Nat × Nat)) (a b : Nat) : cells16 C (gs ++ [(a, b)]) = cells16 C gs ++ [.int .u16 ((a : Int) - C), .int .u16 ((b : Int) - C)] := by simp [cells16]
theorem info57 : (Tryd.prog.info? 57).map (fun i => (i.zero, i.size, i.bytes)) = some (some (.agg #[.int .u16 0, .int .u16 0]), 2, 4) := by kernel_rfl
theorem QAt.mod {S : Nat → Prop} {w w' : World} {q mb : Nat} {f : Int} {R : Nat → Bool} {C M : Nat} {m : Nat → Nat} {dv : Value} (h : QAt w q mb f R C M m dv) (hM : Mod S w w') (hq : ¬ S q) (hm : ¬ S mb) : QAt w' q mb f R C M m dv := by
  obtain ⟨ms, hb, hs, hc⟩ := h.mask
  exact ⟨(hM.block q (Array.getElem?_eq_some_iff.1 h.blk).1 hq).trans h.blk, ⟨ms, (hM.block mb (Array.getElem?_eq_some_iff.1 hb).1 hm).trans hb, hs, hc⟩, h.ne, h.que⟩
theorem Tab.mod {S : Nat → Prop} {w w' : World} (h : Tab w) (hM : Mod S w w') (h0 : ¬ S 0) : Tab w' := fun j hj => by
  have := h j hj
  rw [hM.cell (p := ⟨0, j, none⟩) (lt_of_cell this) h0]; exact this

/-- Where the search stands. -/
structure GInv (r : Nat → Bool) (C M T : Nat) (fe : Bool) (bl : List (Nat × Nat)) (x : Int) : Prop where
  lo : C < T
  hi : T ≤ M
  len : bl.length ≤ 1000
  off : fe = false → bl = gl r (T - 1) ∧ (r (T - 1) = false ∨ r T = false)
  on : fe = true → ∃ s, C < s ∧ s ≤ T ∧ r (s - 1) = false ∧ (∀ k, s ≤ k → k < T → r k = true) ∧ r s = true ∧ bl = gl r (s - 1) ∧ x = (s : Int) - C
def GRel (wA : World) (ab : Nat) (f : Int) (r : Nat → Bool) (C M : Nat) (v4 v8 v9 : Value) (wr : World) : Prop :=
  ∃ T : Nat, ∃ fe : Bool, ∃ bl : List (Nat × Nat), ∃ x y : Int, v8 = .bool fe ∧ v9 = .int .u32 (U f T) ∧ wr.ownsRow wA.heap.size 57 2 v4 bl.length (cells16 C bl) ∧ Mod (· = ab) wA wr ∧
    wr.heap[ab]? = some (.cells #[.int .u16 x, .int .u16 y] 57 (0, 0)) ∧ GInv r C M T fe bl x
def bOf : Value → Bool | .bool b => b | _ => false
def gMeas (f : Int) (r : Nat → Bool) (M : Nat) (v8 v9 : Value) : Nat :=
  2 * (M - ((intOf v9 - f) % 4294967296).toNat) + (if bOf v8 = r ((intOf v9 - f) % 4294967296).toNat then 0 else 1)
theorem gMeas_at (f : Int) (r : Nat → Bool) (M T : Nat) (fe : Bool) (hT : T ≤ 2000) : gMeas f r M (.bool fe) (.int .u32 (U f T)) = 2 * (M - T) + (if fe = r T then 0 else 1) := by
  have : ((U f T - f) % 4294967296).toNat = T := by unfold U; omega
  simp only [gMeas, intOf, bOf, this]

/-- The gaps handed back. -/
def GapBack (w : World) (C : Nat) (gs : List (Nat × Nat)) (e : Ending) (w' : World) : Prop :=
  ∃ ao c, e = .returned (.slice ao gs.length c) ∧ w'.ownsRow w.heap.size 57 2 (.slice ao gs.length c) gs.length (cells16 C gs) ∧ Below w.heap.size w w'

set_option maxHeartbeats 1000000 in
set_option maxRecDepth 20000 in
theorem gap_none {w : World} {q mb : Nat} {f : Int} {R : Nat → Bool} {C M : Nat} {m : Nat → Nat} {dv : Value} (h : QAt w q mb f R C M m dv) (h0 : cnt R C = 0) :
    Calls Tryd.prog 16 #[.pointer (some ⟨q, 0, none⟩), .int .i64 65535] w (GapBack w C (gl (above R C) M)) := by
  have hg : gl (above R C) M = [] := by
    rw [gl_zeros' (a := 0) (Nat.zero_le _) (fun k h1 h2 => ?_)]
    · rfl
    · unfold above
      by_cases hC : C < k
      · rw [cnt_zero h0 k hC (by have := h.que.most; omega), Bool.and_false]
      · rw [decide_eq_false hC, Bool.false_and]
  rw [hg]
  have g1 : w.cell? ⟨q, 1, none⟩ = some (.int .i64 0) := by rw [cell_of_block h.blk, h0]; rfl
  have hq := lt_of_cell g1
  simp only at hq
  clear h h0 hg
  go_enter Tryd.func16, Tryd.ntmps16
  go_wp2_with fail
  go_ret
  exact ⟨none, 0, rfl, World.ownsRow_nil _ _ _ _, (Below.refl _ w).alloc (Nat.le_refl _) _⟩

set_option maxHeartbeats 2000000 in
set_option maxRecDepth 20000 in
theorem gap_some {w : World} {q mb : Nat} {f : Int} {R : Nat → Bool} {C M : Nat} {m : Nat → Nat} {dv : Value} (h : QAt w q mb f R C M m dv) (h0 : cnt R C ≠ 0) (hCM : C < M) (hT : Tab w) :
    Calls Tryd.prog 16 #[.pointer (some ⟨q, 0, none⟩), .int .i64 65535] w (GapBack w C (gl (above R C) M)) := by
  have hM := h.que.most
  have g0 : w.cell? ⟨q, 0, none⟩ = some (.int .u32 (U f M)) := by rw [cell_of_block h.blk]; rfl
  have g1 : w.cell? ⟨q, 1, none⟩ = some (.int .i64 (cnt R C)) := by rw [cell_of_block h.blk]; rfl
  have g5 : w.cell? ⟨q, 5, none⟩ = some (.int .u32 (U f C)) := by rw [cell_of_block h.blk]; rfl
  obtain ⟨c, hc⟩ : ∃ c, c = cnt R C := ⟨_, rfl⟩
  rw [← hc] at g1 h0
  have hc0 : ((c : Int) == 0) = false := by simp; omega
  have hq := (Array.getElem?_eq_some_iff.1 h.blk).1
  have hmb := lt_of_cell (h.word 0 (by omega))
  simp only at hmb
  have h00 := lt_of_cell (hT 0 (by decide))
  simp only at h00
  have hwr : IntKind.u32.wrap (U f C + 1) = U f (C + 1 : Nat) := by rw [IntKind.wrap_u32]; unfold U; omega
  have MA : Mod (fun _ => False) w (w.alloc (.cells #[.int .u16 0, .int .u16 0] 57)) := (Mod.refl _ w).alloc _
  have HA0 := Lib.hid (h.mod MA (fun h => h) (fun h => h))
  have HTab0 := Lib.hid (hT.mod (S := fun _ => False) MA (fun h => h))
  have HBk := Lib.hid (heap_new w (.cells #[.int .u16 0, .int .u16 0] 57))
  have HQ := Lib.hid h.que
  obtain ⟨i0, hi, hz0, hzz1, hzz2⟩ := info_parts info57
  obtain ⟨t1, ht1⟩ : ∃ t, t = U f (C + 1 : Nat) := ⟨_, rfl⟩
  obtain ⟨tM, htM⟩ : ∃ t, t = U f M := ⟨_, rfl⟩
  obtain ⟨tC, htC⟩ : ∃ t, t = U f C := ⟨_, rfl⟩
  rw [← ht1] at hwr
  rw [← htM] at g0
  rw [← htC] at g5 hwr
  have HT1 := Lib.hid ht1; have HTM := Lib.hid htM; have HTC := Lib.hid htC
  clear h hT MA hc ht1 htM htC
  go_enter Tryd.func16, Tryd.ntmps16
  go_wp2_with fail
  go_quiet (fail)
  go_wp2_with fail
  have HA := Lib.hid (HA0.out.same (w' := (w.alloc (.cells #[.int .u16 0, .int .u16 0] 57)).drewN nq) rfl)
  have HTab : Hid (Tab ((w.alloc (.cells #[.int .u16 0, .int .u16 0] 57)).drewN nq)) := Lib.hid HTab0.out
  have HL2 := Lib.hid (below_drewN ((Below.refl _ w).alloc (Nat.le_refl _) (.cells #[.int .u16 0, .int .u16 0] 57)) nq)
  have HBk2 : Hid (((w.alloc (.cells #[.int .u16 0, .int .u16 0] 57)).drewN nq).heap[w.heap.size]? = some (.cells #[.int .u16 0, .int .u16 0] 57 (0, 0))) := Lib.hid HBk.out
  have hsz : ((w.alloc (.cells #[.int .u16 0, .int .u16 0] 57)).drewN nq).heap.size = w.heap.size + 1 := by simp
  clear HBk g0 g1 g5 hwr hc0 HA0 HTab0
  generalize (w.alloc (.cells #[.int .u16 0, .int .u16 0] 57)).drewN nq = wA at *
  obtain ⟨ab, hab⟩ : ∃ ab, ab = w.heap.size := ⟨_, rfl⟩
  rw [← hab] at hq hmb h00 hsz HBk2 ⊢
  have HAB := Lib.hid hab
  have HSZ := Lib.hid hsz
  clear hab hsz
  go_loopw [4, 8, 9] (fun v4 v8 v9 wr => GRel wA ab f (above R C) C M v4 v8 v9 wr) (fun _ v8 v9 _ => gMeas f (above R C) M v8 v9)
  case atStart =>
    refine ⟨C + 1, false, [], 0, 0, rfl, by rw [HT1.out], World.ownsRow_nil _ _ _ _, Mod.refl _ _, HBk2.out, ⟨by omega, by omega, by simp, fun _ => ⟨?_, .inl ?_⟩, fun e => by cases e⟩⟩
    · rw [show C + 1 - 1 = C by omega, gl_zeros' (a := 0) (Nat.zero_le _) (fun k h1 h2 => by unfold above; rw [decide_eq_false (show ¬ C < k by omega), Bool.false_and])]; rfl
    · rw [show C + 1 - 1 = C by omega]; unfold above; rw [decide_eq_false (show ¬ C < C by omega), Bool.false_and]
  case round =>
    obtain ⟨T, fe, bl, x, y, rfl, rfl, hrow, hmod, hblk, hinv⟩ := hrel
    have hTlo := hinv.lo; have hThi := hinv.hi; have hlen := hinv.len
    have hlen' : (bl.length : Int) < 65535 := by omega
    obtain ⟨va, vc, rfl⟩ : ∃ va vc, u4 = .slice va bl.length vc := by
      rcases hrow.2 with ⟨e, h0⟩ | ⟨g, cap, _, e, _⟩
      · exact ⟨none, 0, by rw [h0]; exact e⟩
      · exact ⟨_, cap, e⟩
    have hQ := HA.out.mod hmod (by omega) (by omega)
    have hTb := HTab.out.mod hmod (by omega)
    have g2 : wr.cell? ⟨q, 2, none⟩ = some (.slice (some ⟨mb, 0, none⟩) 625 625) := by rw [cell_of_block hQ.blk]; rfl
    have g5 : wr.cell? ⟨q, 5, none⟩ = some (.int .u32 tC) := by rw [cell_of_block hQ.blk, HTC.out]; rfl
    have a0 : wr.cell? ⟨ab, 0, none⟩ = some (.int .u16 x) := by rw [cell_of_block hblk]; rfl
    have a1 : wr.cell? ⟨ab, 1, none⟩ = some (.int .u16 y) := by rw [cell_of_block hblk]; rfl
    have z0 : wr.frozen? ⟨ab, 0, none⟩ = false := frozen_of_block hblk
    have z1 : wr.frozen? ⟨ab, 1, none⟩ = false := frozen_of_block hblk
    have gm := hQ.word (ix f T) (by unfold ix; omega)
    have hmw := hQ.que.word (ix f T)
    obtain ⟨v, hv⟩ : ∃ v, v = m (ix f T) := ⟨_, rfl⟩
    have hlt := fun w' => lte_any (U f T) tM w' (U_bound _ _) (by rw [HTM.out]; exact U_bound _ _)
    simp only [HTM.out, lteB_U f T M (by omega), decide_eq_true (show (T : Int) ≤ M by omega)] at hlt
    rw [← HTM.out] at hlt
    have ub := U_bound f T
    obtain ⟨t, ht⟩ : ∃ t : Nat, (t : Int) = U f T := ⟨(U f T).toNat, Int.toNat_of_nonneg ub.1⟩
    rw [← ht] at hlt ub ⊢
    have ei : ((t : Int) / 64 % 625) = (ix f T : Int) := by unfold ix; rw [← ht]; omega
    have eo : ((t : Int) % 64) = (ofs f T : Int) := by unfold ofs; rw [← ht]; omega
    have hofs := ofs_lt f T
    obtain ⟨i, hi'⟩ : ∃ i, i = ix f T := ⟨_, rfl⟩
    obtain ⟨o, ho'⟩ : ∃ o, o = ofs f T := ⟨_, rfl⟩
    have hi625 : i < 625 := by rw [hi']; unfold ix; omega
    rw [← hv, ← hi'] at gm
    rw [← hv] at hmw
    rw [← hi'] at ei
    rw [← ho'] at eo hofs
    have hi6 : (i : Int) < 625 := by omega
    have HI := Lib.hid hi'; have HO := Lib.hid ho'; have HV := Lib.hid hv; have HT := Lib.hid ht
    have HLT := Lib.hid hlt
    have HROW := Lib.hid hrow; have HMOD := Lib.hid hmod; have HBLK := Lib.hid hblk; have HINV := Lib.hid hinv; have HTB := Lib.hid hTb
    have hqr : q < wr.heap.size := lt_of_cell g2
    have habr : ab < wr.heap.size := lt_of_cell a0
    have wo := wraps_i64 (o : Int) (by omega) (by omega)
    clear hrow hmod hblk hinv hTb hQ hlt hi' ho' hv ht
    go_wp2_with fail
    refine (HLT.out _).mono ?_
    rintro e w1 ⟨rfl, rfl⟩
    cases fe with
    | false =>
      have hz := nz_any v o hmw hofs w1 HTB.out
      obtain ⟨z, hzz⟩ : ∃ z, z = nz v o := ⟨_, rfl⟩
      rw [← hzz] at hz
      have HZZ := Lib.hid hzz
      by_cases hz64 : z < 64
      · rw [decide_eq_true hz64] at hz
        have HZ := Lib.hid hz
        have hs := seek_one HQ.out hTlo hThi (by rw [← HV.out, ← HO.out, ← hzz]; exact hz64)
        rw [← HV.out, ← HO.out, ← hzz] at hs
        have HSK := Lib.hid hs
        clear hz hzz hs
        go_wp2_with fail
        refine HZ.out.mono ?_
        rintro e w2 ⟨rfl, rfl⟩
        go_wp2_with fail
        obtain ⟨s1, s2, s3, s4⟩ := HSK.out
        obtain ⟨hbl, hrr⟩ := HINV.out.off rfl
        have e1 : ((t : Int) + ((z : Int) - o) % 4294967296) % 4294967296 = U f (T + (z - o) : Nat) := by rw [HT.out]; unfold U; omega
        have e2 : IntKind.u16.wrap (((t : Int) + ((z : Int) - o) - tC) % 4294967296) = ((T + (z - o) : Nat) : Int) - C := by rw [IntKind.wrap_u16, HT.out, HTC.out]; unfold U; omega
        rw [e1, e2]
        have hrT : T < T + (z - o) → above R C T = false := fun h => s4 T (Nat.le_refl _) h
        refine ⟨⟨T + (z - o), true, bl, _, y, rfl, rfl, own_set HROW.out (by have := HSZ.out; omega), HMOD.out.set1 _, heap_setCell_same HBLK.out _, ⟨by omega, s2, hlen, (fun e => by cases e), fun _ => ⟨T + (z - o), by omega, Nat.le_refl _, ?_, fun k h1 h2 => by omega, s3, ?_, rfl⟩⟩⟩, ?_⟩
        · by_cases hd : z - o = 0
          · rw [hd, Nat.add_zero] at s3 ⊢
            rcases hrr with h | h
            · exact h
            · rw [h] at s3; cases s3
          · exact s4 _ (by omega) (by omega)
        · rw [hbl]; exact (gl_zeros' (by omega) (fun k h1 h2 => s4 k (by omega) (by omega))).symm
        · rw [gMeas_at _ _ _ _ _ (by omega), HT.out, gMeas_at _ _ _ _ _ (by omega), s3, if_pos rfl]
          by_cases hd : z - o = 0
          · rw [hd, Nat.add_zero] at s3 ⊢
            rw [s3]; simp
          · split <;> omega
      · rw [decide_eq_false hz64] at hz
        have HZ := Lib.hid hz
        have hs := seek_none HQ.out hTlo hThi (by rw [← HV.out, ← HO.out, ← hzz]; exact hz64)
        rw [← HO.out] at hs
        have HSK := Lib.hid hs
        clear hz hzz hs
        go_wp2_with fail
        refine HZ.out.mono ?_
        rintro e w2 ⟨rfl, rfl⟩
        go_wp2_with fail
        obtain ⟨s2, s4⟩ := HSK.out
        obtain ⟨hbl, hrr⟩ := HINV.out.off rfl
        have e1 : ((t : Int) + (64 - (o : Int))) % 4294967296 = U f (T + (64 - o) : Nat) := by rw [HT.out]; unfold U; omega
        rw [e1]
        refine ⟨⟨T + (64 - o), false, bl, x, y, rfl, rfl, HROW.out, HMOD.out, HBLK.out, ⟨by omega, s2, hlen, fun _ => ⟨?_, .inl (s4 _ (by omega) (by omega))⟩, fun e => by cases e⟩⟩, ?_⟩
        · rw [hbl]; exact (gl_zeros' (by omega) (fun k h1 h2 => s4 k (by omega) (by omega))).symm
        · rw [gMeas_at _ _ _ _ _ (by omega), HT.out, gMeas_at _ _ _ _ _ (by omega)]
          split <;> split <;> omega
    | true =>
      obtain ⟨s, hs1, hs2, hs3, hs4, hs5, hs6, hs7⟩ := HINV.out.on rfl
      have HS3 := Lib.hid hs3; have HS4 := Lib.hid hs4; have HS5 := Lib.hid hs5; have HS6 := Lib.hid hs6; have HS7 := Lib.hid hs7
      clear hs3 hs4 hs5 hs6 hs7
      have hz := zb_any v o hmw hofs w1 HTB.out
      obtain ⟨z, hzz⟩ : ∃ z, z = nz (18446744073709551615 - v) o := ⟨_, rfl⟩
      rw [← hzz] at hz
      by_cases hz64 : z < 64
      · rw [decide_eq_true hz64] at hz
        have HZ := Lib.hid hz
        have hs := seek_zero HQ.out hTlo hThi (by rw [← HV.out, ← HO.out, ← hzz]; exact hz64)
        rw [← HV.out, ← HO.out, ← hzz] at hs
        have HSK := Lib.hid hs
        clear hz hzz hs
        have ek : ((t : Int) + ((z : Int) - o)) % 4294967296 = U f (T + (z - o) : Nat) := by have := HSK.out.1; rw [HT.out]; unfold U; omega
        have hl2 := fun w' => lte_any (U f (T + (z - o) : Nat)) tM w' (U_bound _ _) (by rw [HTM.out]; exact U_bound _ _)
        simp only [HTM.out, lteB_U f (T + (z - o) : Nat) M (by omega)] at hl2
        rw [← HTM.out, ← ek] at hl2
        have hg2 := fun w' => gt_any (U f (T + (z - o) : Nat)) tM w' (U_bound _ _) (by rw [HTM.out]; exact U_bound _ _)
        simp only [HTM.out, gtB_U f (T + (z - o) : Nat) M (by omega)] at hg2
        rw [← HTM.out, ← ek] at hg2
        have HL2' := Lib.hid hl2; have HG2 := Lib.hid hg2; have HEK := Lib.hid ek
        clear hl2 hg2 ek
        go_wp2_with fail
        refine HZ.out.mono ?_
        rintro e w2 ⟨rfl, rfl⟩
        go_wp2_with fail
        refine (HL2'.out _).mono ?_
        rintro e w3 ⟨rfl, rfl⟩
        generalize hyy : IntKind.u16.wrap (((t : Int) + ((z : Int) - o) - 1 - tC) % 4294967296) = y2
        have HYY : Hid (y2 = ((T + (z - o) - 1 : Nat) : Int) - C) := Lib.hid (by have := HSK.out.1; rw [← hyy, IntKind.wrap_u16, HT.out, HTC.out]; unfold U; omega)
        have HRW := Lib.hid (own_set (i := 1) (vn := .int .u16 y2) HROW.out (show ab < wA.heap.size by have := HSZ.out; omega))
        clear hyy
        by_cases hkM : T + (z - o) ≤ M
        · rw [decide_eq_true (show ((T + (z - o) : Nat) : Int) ≤ M by omega)]
          go_wp2_with (first | (at_builtin; refine wpList_append_any _ rfl _ _ 46 rfl wA.heap.size 57 i0 (.agg #[.int .u16 0, .int .u16 0]) 2 4 Tryd.underlying46 hi hz0 hzz1 hzz2 rfl (by decide) _ _ _ rfl (HRW.out.alloc _) ⟨w2.heap.size, 0, none⟩ 1 1 [.int .u16 x, .int .u16 y2] rfl ?c0 ?c1 ?c2 ?c3 ?c4 ?c5 ?_))
          case c0 => rfl
          case c1 => exact two_cells _ _ (by simp [World.setCell])
          case c2 => simp [Value.oneCell']
          case c3 => unfold maxLen; omega
          case c4 => omega
          case c5 => have := HMOD.out.size; simp [World.setCell]; omega
          intro xa xc w4 hown hgrow
          go_wp2_with fail
          refine (HG2.out _).mono ?_
          rintro e w5 ⟨rfl, rfl⟩
          rw [decide_eq_false (show ¬ (M : Int) < (T + (z - o) : Nat) by omega)]
          go_wp2_with fail
          obtain ⟨s1, s2, s3⟩ := HSK.out
          have hrk := s2 hkM
          have hsk : s < T + (z - o) := by
            rcases Nat.lt_or_ge s (T + (z - o)) with h | h
            · exact h
            · rw [show T + (z - o) = s by omega] at hrk
              rw [HS5.out] at hrk; cases hrk
          have hrun := gl_run' (r := above R C) (s := s) (e := T + (z - o) - 1) (by omega) HS3.out (by omega) (fun j h1 h2 => by
            by_cases hj : j < T
            · exact HS4.out j h1 hj
            · exact s3 j (by omega) (by omega) (by omega))
          rw [← HS6.out] at hrun
          rw [HEK.out]
          refine ⟨⟨T + (z - o), false, bl ++ [(s, T + (z - o) - 1)], x, y2, rfl, rfl, ?_, ((HMOD.out.set1 _).alloc _).grown hgrow (fun k hk => (HRW.out.lt k hk).1), ?_, ⟨by omega, hkM, ?_, fun _ => ⟨hrun.symm, .inr hrk⟩, fun e => by cases e⟩⟩, ?_⟩
          · rw [cells16_snoc, ← HS7.out, ← HYY.out, List.length_append]
            exact hown
          · rw [hgrow.block ab (by simp [World.setCell]; omega) (fun e => by have := (HRW.out.lt ab e.symm).1; have := HSZ.out; omega)]
            exact (heap_alloc_old _ _ (by simp [World.setCell]; omega)).trans (heap_setCell_same HBLK.out _)
          · have := gl_len (above R C) (T + (z - o) - 1)
            rw [hrun] at this
            omega
          · rw [gMeas_at _ _ _ _ _ (by omega), HT.out, gMeas_at _ _ _ _ _ (by omega), hrk, if_pos rfl]
            by_cases hd : z - o = 0
            · rw [hd, Nat.add_zero] at hrk ⊢
              rw [hrk]; simp
            · split <;> omega
        · rw [decide_eq_false (show ¬ ((T + (z - o) : Nat) : Int) ≤ M by omega)]
          go_wp2_with fail
          refine (HG2.out _).mono ?_
          rintro e w5 ⟨rfl, rfl⟩
          rw [decide_eq_true (show (M : Int) < (T + (z - o) : Nat) by omega)]
          have HRW1 := HRW
          clear HRW
          obtain ⟨s1, s2, s3⟩ := HSK.out
          obtain ⟨y3, hy3⟩ : ∃ y3, IntKind.u16.wrap ((tM - tC) % 4294967296) = y3 := ⟨_, rfl⟩
          have HY3 : Hid (y3 = (M : Int) - C) := Lib.hid (by rw [← hy3, IntKind.wrap_u16, HTM.out, HTC.out]; unfold U; omega)
          have HRW := Lib.hid (own_set (i := 1) (vn := .int .u16 y3) HRW1.out (show ab < wA.heap.size by have := HSZ.out; omega))
          go_wp2_with (first | (at_builtin; refine wpList_append_any _ rfl _ _ 46 rfl wA.heap.size 57 i0 (.agg #[.int .u16 0, .int .u16 0]) 2 4 Tryd.underlying46 hi hz0 hzz1 hzz2 rfl (by decide) _ _ _ rfl (HRW.out.alloc _) ⟨w2.heap.size, 0, none⟩ 1 1 [.int .u16 x, .int .u16 y3] rfl ?c0 ?c1 ?c2 ?c3 ?c4 ?c5 ?_))
          case c0 => rfl
          case c1 => exact two_cells _ _ (by simp [World.setCell])
          case c2 => simp [Value.oneCell']
          case c3 => unfold maxLen; omega
          case c4 => omega
          case c5 => have := HMOD.out.size; simp [World.setCell]; omega
          intro xa xc w4 hown hgrow
          go_wp2_with fail
          go_ret
          have hgl : gl (above R C) M = bl ++ [(s, M)] := by
            rw [HS6.out]
            exact gl_run' (by omega) HS3.out (by omega) (fun j h1 h2 => by
              by_cases hj : j < T
              · exact HS4.out j h1 hj
              · exact s3 j (by omega) (by omega) h2)
          rw [hgl]
          have hb3 : Below w.heap.size w w4 := HL2.out.trans ((((HMOD.out.set1 _).set1 _).alloc _ |>.grown hgrow (fun k hk => (HRW.out.lt k hk).1)).below HL2.out.size (fun k e => by have := HAB.out; omega))
          have hlen2 : (bl ++ [(s, M)]).length = bl.length + 1 := by simp
          refine ⟨xa, xc, by rw [hlen2]; rfl, ?_, hb3⟩
          rw [hlen2, cells16_snoc, ← HS7.out, ← HY3.out]
          exact hown.mono (by have := HSZ.out; have := HAB.out; omega)
      · rw [decide_eq_false hz64] at hz
        have HZ := Lib.hid hz
        have hs := seek_full HQ.out hTlo (by rw [← HV.out, ← HO.out, ← hzz]; exact hz64)
        rw [← HO.out] at hs
        have HSK := Lib.hid hs
        clear hz hzz hs
        have ek : ((t : Int) + (64 - (o : Int))) % 4294967296 = U f (T + (64 - o) : Nat) := by rw [HT.out]; unfold U; omega
        have hg2 := fun w' => gt_any (U f (T + (64 - o) : Nat)) tM w' (U_bound _ _) (by rw [HTM.out]; exact U_bound _ _)
        simp only [HTM.out, gtB_U f (T + (64 - o) : Nat) M (by omega)] at hg2
        rw [← HTM.out, ← ek] at hg2
        have HG2 := Lib.hid hg2; have HEK := Lib.hid ek
        clear hg2 ek
        go_wp2_with fail
        refine HZ.out.mono ?_
        rintro e w2 ⟨rfl, rfl⟩
        go_wp2_with fail
        refine (HG2.out _).mono ?_
        rintro e w5 ⟨rfl, rfl⟩
        by_cases hkM : T + (64 - o) ≤ M
        · rw [decide_eq_false (show ¬ (M : Int) < (T + (64 - o) : Nat) by omega)]
          go_wp2_with fail
          rw [HEK.out]
          have s3 := HSK.out
          refine ⟨⟨T + (64 - o), true, bl, x, y, rfl, rfl, HROW.out, HMOD.out, HBLK.out, ⟨by omega, hkM, hlen, (fun e => by cases e), fun _ => ⟨s, hs1, by omega, HS3.out, fun j h1 h2 => ?_, HS5.out, HS6.out, HS7.out⟩⟩⟩, ?_⟩
          · by_cases hj : j < T
            · exact HS4.out j h1 hj
            · exact s3 j (by omega) (by omega) (by omega)
          · rw [gMeas_at _ _ _ _ _ (by omega), HT.out, gMeas_at _ _ _ _ _ (by omega)]
            split <;> split <;> omega
        · rw [decide_eq_true (show (M : Int) < (T + (64 - o) : Nat) by omega)]
          have s3 := HSK.out
          obtain ⟨y3, hy3⟩ : ∃ y3, IntKind.u16.wrap ((tM - tC) % 4294967296) = y3 := ⟨_, rfl⟩
          have HY3 : Hid (y3 = (M : Int) - C) := Lib.hid (by rw [← hy3, IntKind.wrap_u16, HTM.out, HTC.out]; unfold U; omega)
          have HRW := Lib.hid (own_set (i := 1) (vn := .int .u16 y3) HROW.out (show ab < wA.heap.size by have := HSZ.out; omega))
          go_wp2_with (first | (at_builtin; refine wpList_append_any _ rfl _ _ 46 rfl wA.heap.size 57 i0 (.agg #[.int .u16 0, .int .u16 0]) 2 4 Tryd.underlying46 hi hz0 hzz1 hzz2 rfl (by decide) _ _ _ rfl (HRW.out.alloc _) ⟨w5.heap.size, 0, none⟩ 1 1 [.int .u16 x, .int .u16 y3] rfl ?c0 ?c1 ?c2 ?c3 ?c4 ?c5 ?_))
          case c0 => rfl
          case c1 => exact two_cells _ _ (by simp [World.setCell])
          case c2 => simp [Value.oneCell']
          case c3 => unfold maxLen; omega
          case c4 => omega
          case c5 => have := HMOD.out.size; simp [World.setCell]; omega
          intro xa xc w4 hown hgrow
          go_wp2_with fail
          go_ret
          have hgl : gl (above R C) M = bl ++ [(s, M)] := by
            rw [HS6.out]
            exact gl_run' (by omega) HS3.out (by omega) (fun j h1 h2 => by
              by_cases hj : j < T
              · exact HS4.out j h1 hj
              · exact s3 j (by omega) (by omega) h2)
          rw [hgl]
          have hb3 : Below w.heap.size w w4 := HL2.out.trans (((HMOD.out.set1 _).alloc _ |>.grown hgrow (fun k hk => (HRW.out.lt k hk).1)).below HL2.out.size (fun k e => by have := HAB.out; omega))
          have hlen2 : (bl ++ [(s, M)]).length = bl.length + 1 := by simp
          refine ⟨xa, xc, by rw [hlen2]; rfl, ?_, hb3⟩
          rw [hlen2, cells16_snoc, ← HS7.out, ← HY3.out]
          exact hown.mono (by have := HSZ.out; have := HAB.out; omega)
end Go.Proofs.YthnalicohdmlfaaDoor
