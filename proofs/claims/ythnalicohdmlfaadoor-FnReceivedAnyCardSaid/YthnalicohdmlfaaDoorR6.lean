/- Part of the proof of laws.FnReceivedAny: a new number is pushed, the next one is taken off; conditions: as each theorem states. -/
import Derived.Test.YthnalicohdmlfaaDoorR5
namespace Go.Proofs.YthnalicohdmlfaaDoor
open Go.RowKit
set_option linter.unusedVariables false

/-- What a store into the mask and into the queue's own cells leaves. -/
theorem mask_set {w : World} {mb : Nat} {m : Nat → Nat} (h : ∃ ms, w.heap[mb]? = some (.cells ms 54 (0, 0)) ∧ ms.size = 625 ∧ ∀ i, i < 625 → ms[i]? = some (.int .u64 (m i))) (i x : Nat) (m' : Nat → Nat) (hx : m' i = x) (ho : ∀ j, j ≠ i → m' j = m j) :
    ∃ ms, (w.setCell ⟨mb, i, none⟩ (.int .u64 x)).heap[mb]? = some (.cells ms 54 (0, 0)) ∧ ms.size = 625 ∧ ∀ j, j < 625 → ms[j]? = some (.int .u64 (m' j)) := by
  obtain ⟨ms, hb, hs, hc⟩ := h
  refine ⟨_, heap_setCell_same hb _, by simpa using hs, fun j hj => ?_⟩
  rw [Array.getElem?_setIfInBounds]
  by_cases hij : i = j
  · subst hij; rw [if_pos rfl, if_pos (by omega), hx]
  · rw [if_neg hij, hc j hj, ho j (fun e => hij e.symm)]
theorem QSt.turn {w0 w w3 : World} {q mb B : Nat} {f : Int} {R R' : Nat → Bool} {C C' M M' : Nat} {m m' : Nat → Nat} {dv : Value} {dl : List Int} (h : QSt w0 w q mb B f R C M m dv dl) (hM : Mod (fun k => k = q ∨ k = mb) w w3)
    (hq : QAt w3 q mb f R' C' M' m' dv) : QSt w0 w3 q mb B f R' C' M' m' dv dl := by
  have hq1 := h.q1; have hm1 := h.m1; have hb1 := h.b1; have hq0 := h.q0; have hm0 := h.m0
  exact ⟨hq, owned_modS h.row hM (fun g hg e => by have := (h.row.lt g hg).1; omega), h.below.trans (hM.below h.below.size (fun k hk => by omega)), hq0, hm0, hq1, hm1, Nat.le_trans hb1 hM.size⟩

set_option maxHeartbeats 1000000 in
set_option maxRecDepth 20000 in
theorem push_new {w0 w : World} {q mb B : Nat} {f : Int} {R : Nat → Bool} {C M : Nat} {m : Nat → Nat} {dv : Value} {dl : List Int} (h : QSt w0 w q mb B f R C M m dv dl) (p : Nat) (hC : C < p) (hp : p ≤ 1000) (hR : R p = false) :
    Calls Tryd.prog 12 #[.pointer (some ⟨q, 0, none⟩), .int .u32 (U f p)] w fun e w' => e = .returned (.bool true) ∧ QSt w0 w' q mb B f (putR R p) C (max M p) (putM f m p) dv dl := by
  have hM := h.at_.que.most; have hCM := h.at_.que.lo
  have g0 : w.cell? ⟨q, 0, none⟩ = some (.int .u32 (U f M)) := by rw [cell_of_block h.at_.blk]; rfl
  have g1 : w.cell? ⟨q, 1, none⟩ = some (.int .i64 (cnt R C)) := by rw [cell_of_block h.at_.blk]; rfl
  have g2 : w.cell? ⟨q, 2, none⟩ = some (.slice (some ⟨mb, 0, none⟩) 625 625) := by rw [cell_of_block h.at_.blk]; rfl
  have g4 : w.cell? ⟨q, 4, none⟩ = some (.int .u32 40000) := by rw [cell_of_block h.at_.blk]; rfl
  have g5 : w.cell? ⟨q, 5, none⟩ = some (.int .u32 (U f C)) := by rw [cell_of_block h.at_.blk]; rfl
  have f0 : w.frozen? ⟨q, 0, none⟩ = false := frozen_of_block h.at_.blk
  have f1 : w.frozen? ⟨q, 1, none⟩ = false := frozen_of_block h.at_.blk
  have hgt := fun w' => gt_any (U f p) (U f (C + 40000)) w' (U_bound _ _) (U_bound _ _)
  simp only [gtB_U f p (C + 40000) (by omega), decide_eq_false (show ¬ (C : Int) + 40000 < p by omega)] at hgt
  have hwr : IntKind.u32.wrap (U f C + 40000) = U f (C + 40000) := by rw [IntKind.wrap_u32]; unfold U; omega
  have hlt := fun w' => lte_any (U f p) (U f C) w' (U_bound _ _) (U_bound _ _)
  simp only [lteB_U f p C (by omega), decide_eq_false (show ¬ (p : Int) ≤ C by omega)] at hlt
  have hgt2 := fun w' => gt_any (U f p) (U f M) w' (U_bound _ _) (U_bound _ _)
  simp only [gtB_U f p M (by omega)] at hgt2
  have hh := fun n => has_any (h.at_.same (w' := w.drewN n) rfl) p (by omega)
  simp only [Int.toNat_natCast, hR, Bool.and_false] at hh
  have gm := h.at_.word (ix f p) (by unfold ix; omega)
  have fm := h.at_.thaw (ix f p)
  have hmw := h.at_.que.word (ix f p)
  have hne := h.at_.ne
  have hcl := cnt_le R C
  obtain ⟨c, hc⟩ : ∃ c, c = cnt R C := ⟨_, rfl⟩
  rw [← hc] at g1 hcl
  have ub := U_bound f p
  obtain ⟨t, ht⟩ : ∃ t : Nat, (t : Int) = U f p := ⟨(U f p).toNat, Int.toNat_of_nonneg ub.1⟩
  obtain ⟨tc, htc⟩ : ∃ t, t = U f (C + 40000) := ⟨_, rfl⟩
  have e1 : ix f p = t / 64 % 625 := by unfold ix; rw [← ht]; rfl
  have e2 : ofs f p = t % 64 := by unfold ofs; rw [← ht]; rfl
  rw [e1] at gm fm hmw
  obtain ⟨v, hv⟩ : ∃ v, v = m (t / 64 % 625) := ⟨_, rfl⟩
  rw [← hv] at gm hmw
  have hor := or_bit v (t % 64) hmw (Nat.mod_lt _ (by decide))
  rw [← ht] at hgt hlt hgt2 hh ub ⊢
  rw [← htc] at hgt hwr
  have HG := Lib.hid hgt; have HL := Lib.hid hlt; have HG2 := Lib.hid hgt2; have HH := Lib.hid hh
  have HS := Lib.hid h; have HC := Lib.hid hc; have HT := Lib.hid ht; have HV := Lib.hid hv; have HE1 := Lib.hid e1; have HE2 := Lib.hid e2
  have w1c := wraps_i64 ((c : Int) + 1) (by omega) (by omega)
  clear h hgt hlt hgt2 hh hc ht htc e1 e2 hv
  go_enter Tryd.func12, Tryd.ntmps12
  go_wp2_with fail
  go_quiet ((go_at_call 18; exact Calls.quiet_of_same (HG.out _)))
  go_wp2_with fail
  refine (HL.out _).mono ?_
  rintro e w1 ⟨rfl, rfl⟩
  go_wp2_with fail
  refine (HH.out _).mono ?_
  rintro e w1 ⟨rfl, rfl⟩
  go_wp2_with fail
  refine (HG2.out _).mono ?_
  rintro e w1 ⟨rfl, rfl⟩
  have HQ := Lib.hid (HS.out.at_.que.put p hC hp hR)
  have HCP := Lib.hid (cnt_put hC hp hR)
  have HB0 : Hid ((((w.drewN nq).setCell ⟨mb, t / 64 % 625, none⟩ (.int .u64 ((v ||| 2 ^ (t % 64) : Nat) : Int))).setCell ⟨q, 1, none⟩ (.int .i64 ((c : Int) + 1))).heap[q]? = some (.cells #[.int .u32 (U f M), .int .i64 ((c : Int) + 1), .slice (some ⟨mb, 0, none⟩) 625 625, dv, .int .u32 40000, .int .u32 (U f C)] 53 (0, 0))) := Lib.hid (by
    have := heap_setCell_same (i := 1) ((heap_setCell_other (p := ⟨mb, t / 64 % 625, none⟩) hne (.int .u64 ((v ||| 2 ^ (t % 64) : Nat) : Int))).trans (show (w.drewN nq).heap[q]? = _ from HS.out.at_.blk)) (.int .i64 ((c : Int) + 1))
    simpa using this)
  have HK0 := Lib.hid (mask_set HS.out.at_.mask (t / 64 % 625) (v ||| 2 ^ (t % 64)) (putM f m p) (by unfold putM; rw [HE1.out, if_pos rfl, HE2.out, HV.out]) (fun j hj => by unfold putM; rw [HE1.out, if_neg hj]))
  have hcp : ((cnt (putR R p) C : Nat) : Int) = (c : Int) + 1 := by rw [HCP.out, HC.out]; rfl
  have HCI := Lib.hid hcp
  have M1 : Hid (Mod (fun k => k = q ∨ k = mb) w (((w.drewN nq).setCell ⟨mb, t / 64 % 625, none⟩ (.int .u64 ((v ||| 2 ^ (t % 64) : Nat) : Int))).setCell ⟨q, 1, none⟩ (.int .i64 ((c : Int) + 1)))) := Lib.hid ((((Mod.refl _ w).drewN nq).setCell (.inr (.inr rfl)) _).setCell (.inr (.inl rfl)) _)
  clear hcp
  by_cases hMp : (M : Int) < p
  · rw [decide_eq_true hMp]
    go_wp2_with fail
    go_ret
    have hmx : max M p = p := Nat.max_eq_right (by omega)
    refine ⟨rfl, HS.out.turn (M1.out.setCell (.inr (.inl rfl)) _) ⟨?_, ?_, hne, HQ.out⟩⟩
    · rw [HCI.out, hmx, ← HT.out]
      have := heap_setCell_same (i := 0) HB0.out (.int .u32 t)
      simpa using this
    · obtain ⟨ms, hb, hr⟩ := HK0.out
      exact ⟨ms, (heap_setCell_other (show mb ≠ q from fun e => hne e.symm) _).trans ((heap_setCell_other (show mb ≠ q from fun e => hne e.symm) _).trans hb), hr⟩
  · rw [decide_eq_false hMp]
    go_wp2_with fail
    go_ret
    have hmx : max M p = M := Nat.max_eq_left (by omega)
    refine ⟨rfl, HS.out.turn M1.out ⟨?_, ?_, hne, HQ.out⟩⟩
    · rw [HCI.out, hmx]
      exact HB0.out
    · obtain ⟨ms, hb, hr⟩ := HK0.out
      exact ⟨ms, (heap_setCell_other (show mb ≠ q from fun e => hne e.symm) _).trans hb, hr⟩

def popM (f : Int) (m : Nat → Nat) (p : Nat) : Nat → Nat := fun i => if i = ix f p then m i &&& (18446744073709551615 - 2 ^ ofs f p) else m i
theorem clear_bit (v o j : Nat) (ho : o < 64) (hj : j < 64) : (v &&& (18446744073709551615 - 2 ^ o)).testBit j = (v.testBit j && !decide (o = j)) := by
  have h2 : (2 : Nat) ^ o < 2 ^ 64 := Nat.pow_lt_pow_right (by decide) ho
  have h1 := Nat.testBit_two_pow_sub_succ h2 j
  rw [Nat.testBit_and, show 18446744073709551615 - 2 ^ o = 2 ^ 64 - (2 ^ o + 1) by omega, h1, Nat.testBit_two_pow]
  simp [hj]
theorem Que.pop {R : Nat → Bool} {C M : Nat} {f : Int} {m : Nat → Nat} (h : Que R C M f m) (hR : R (C + 1) = true) : Que R (C + 1) M f (popM f m (C + 1)) := by
  have ht := h.top _ hR
  have hm := h.most
  refine ⟨h.top, hm, ht.2, fun k h1 h2 => ?_, h.last, fun k h1 h2 => ?_, fun i => ?_⟩
  · by_cases hk : k = C + 1
    · subst hk; exact hR
    · exact h.run k h1 (by omega)
  · unfold popM
    have ha := place_apart f k (C + 1 : Nat) (by omega) (by omega)
    by_cases hi : ix f k = ix f (C + 1 : Nat)
    · have ho : ofs f (C + 1 : Nat) ≠ ofs f k := fun e => by rcases ha with ha | ha; exact ha hi; exact ha e.symm
      rw [if_pos hi, clear_bit _ _ _ (by unfold ofs; omega) (by unfold ofs; omega), h.bit k (by omega) h2, decide_eq_false ho]
      simp
    · rw [if_neg hi]; exact h.bit k (by omega) h2
  · unfold popM
    split
    · exact Nat.lt_of_le_of_lt Nat.and_le_left (h.word i)
    · exact h.word i
theorem cnt_pop {R : Nat → Bool} {C : Nat} (hC : C + 1 ≤ 1000) (hR : R (C + 1) = true) : cnt R C = cnt R (C + 1) + 1 := by
  unfold cnt
  rw [countP_flip (k := C + 1) (p := fun k => decide (C + 1 < k) && R k) (by simp) (by simp [hR]) (fun i hi => by
    have : (C + 1 < i) = (C < i) := by rw [eq_iff_iff]; omega
    simp [this]) 1001, if_pos (by omega)]
theorem clr_bits (v o : Nat) (hv : v < 18446744073709551616) (ho : o < 64) : bits .and .u64 (v : Int) (bits .xor .u64 IntKind.u64.max (IntKind.u64.wrap (2 ^ o))) = ((v &&& (18446744073709551615 - 2 ^ o) : Nat) : Int) := by
  have h2 : (2 : Nat) ^ o < 18446744073709551616 := Nat.pow_lt_pow_right (a := 2) (by decide) ho
  have e : IntKind.u64.wrap ((2 : Int) ^ o) = ((2 ^ o : Nat) : Int) := by
    rw [show ((2 : Int) ^ o) = ((2 ^ o : Nat) : Int) from by simp, IntKind.wrap_u64]
    generalize 2 ^ o = z at h2
    omega
  rw [e, not_bits _ h2, bits_and_u64_nat v _ hv (Nat.lt_of_le_of_lt (Nat.sub_le _ _) (by decide))]

set_option maxHeartbeats 400000 in
theorem pop_no {w0 w : World} {q mb B : Nat} {f : Int} {R : Nat → Bool} {C M : Nat} {m : Nat → Nat} {dv : Value} {dl : List Int} (h : QSt w0 w q mb B f R C M m dv dl) (hR : R (C + 1) = false) :
    Calls Tryd.prog 13 #[.pointer (some ⟨q, 0, none⟩), .bool false] w fun e w' => e = .returned (.bool false) ∧ w' = w := by
  have hM := h.at_.que.most; have hCM := h.at_.que.lo
  have g5 : w.cell? ⟨q, 5, none⟩ = some (.int .u32 (U f C)) := by rw [cell_of_block h.at_.blk]; rfl
  have hwr : IntKind.u32.wrap (U f C + 1) = U f (C + 1) := by rw [IntKind.wrap_u32]; unfold U; omega
  have hh := has_any h.at_ (C + 1 : Nat) (by omega)
  simp only [Int.toNat_natCast, hR, Bool.and_false] at hh
  rw [Int.natCast_add, show ((1 : Nat) : Int) = 1 from rfl] at hh
  obtain ⟨t, ht⟩ : ∃ t, t = U f (C + 1) := ⟨_, rfl⟩
  rw [← ht] at hh hwr
  have HH := Lib.hid hh
  clear h hh ht
  go_enter Tryd.func13, Tryd.ntmps13
  go_wp2_with fail
  refine HH.out.mono ?_
  rintro e w1 ⟨rfl, rfl⟩
  go_wp2_with fail
  go_ret
  exact ⟨rfl, rfl⟩

set_option maxHeartbeats 1000000 in
set_option maxRecDepth 20000 in
theorem pop_yes {w0 w : World} {q mb B : Nat} {f : Int} {R : Nat → Bool} {C M : Nat} {m : Nat → Nat} {dv : Value} {dl : List Int} (h : QSt w0 w q mb B f R C M m dv dl) (hR : R (C + 1) = true) :
    Calls Tryd.prog 13 #[.pointer (some ⟨q, 0, none⟩), .bool false] w fun e w' => e = .returned (.bool true) ∧ QSt w0 w' q mb B f R (C + 1) M (popM f m (C + 1)) dv dl := by
  have hM := h.at_.que.most; have hCM := h.at_.que.lo; have hCM1 := (h.at_.que.top _ hR).2
  have g1 : w.cell? ⟨q, 1, none⟩ = some (.int .i64 (cnt R C)) := by rw [cell_of_block h.at_.blk]; rfl
  have g2 : w.cell? ⟨q, 2, none⟩ = some (.slice (some ⟨mb, 0, none⟩) 625 625) := by rw [cell_of_block h.at_.blk]; rfl
  have g5 : w.cell? ⟨q, 5, none⟩ = some (.int .u32 (U f C)) := by rw [cell_of_block h.at_.blk]; rfl
  have f1 : w.frozen? ⟨q, 1, none⟩ = false := frozen_of_block h.at_.blk
  have f5 : w.frozen? ⟨q, 5, none⟩ = false := frozen_of_block h.at_.blk
  have hwr : IntKind.u32.wrap (U f C + 1) = U f (C + 1 : Nat) := by rw [IntKind.wrap_u32]; unfold U; omega
  have hh := has_any h.at_ (C + 1 : Nat) (by omega)
  simp only [Int.toNat_natCast, hR, Bool.and_true, decide_eq_true (show (C : Int) < (C + 1 : Nat) by omega)] at hh
  have gm := h.at_.word (ix f (C + 1 : Nat)) (by unfold ix; omega)
  have fm := h.at_.thaw (ix f (C + 1 : Nat))
  have hmw := h.at_.que.word (ix f (C + 1 : Nat))
  have hne := h.at_.ne
  have hcl := cnt_le R C
  have hcp := cnt_pop (show C + 1 ≤ 1000 by omega) hR
  obtain ⟨c, hc⟩ : ∃ c, c = cnt R C := ⟨_, rfl⟩
  rw [← hc] at g1 hcl hcp
  have ub := U_bound f (C + 1 : Nat)
  obtain ⟨t, ht⟩ : ∃ t : Nat, (t : Int) = U f (C + 1 : Nat) := ⟨(U f (C + 1 : Nat)).toNat, Int.toNat_of_nonneg ub.1⟩
  have e1 : ix f (C + 1 : Nat) = t / 64 % 625 := by unfold ix; rw [← ht]; rfl
  have e2 : ofs f (C + 1 : Nat) = t % 64 := by unfold ofs; rw [← ht]; rfl
  rw [e1] at gm fm hmw
  obtain ⟨v, hv⟩ : ∃ v, v = m (t / 64 % 625) := ⟨_, rfl⟩
  rw [← hv] at gm hmw
  have hor := clr_bits v (t % 64) hmw (Nat.mod_lt _ (by decide))
  rw [← ht] at hh ub hwr
  have HH := Lib.hid hh
  have HS := Lib.hid h; have HC := Lib.hid hc; have HT := Lib.hid ht; have HV := Lib.hid hv; have HE1 := Lib.hid e1; have HE2 := Lib.hid e2
  have HCP := Lib.hid hcp
  have w1c := wraps_i64 ((c : Int) - 1) (by omega) (by omega)
  have wo := wraps_i64 ((t : Int) % 64) (by omega) (by omega)
  clear h hh hc ht e1 e2 hv hcp
  go_enter Tryd.func13, Tryd.ntmps13
  go_wp2_with fail
  refine HH.out.mono ?_
  rintro e w1 ⟨rfl, rfl⟩
  go_wp2_with fail
  have i0 : (0 : Int) ≤ (t : Int) / 64 % 625 := by omega
  have i1 : (t : Int) / 64 % 625 < 625 := by omega
  have n0 : ((t : Int) / 64 % 625).toNat = t / 64 % 625 := by omega
  have n1 : ((t : Int) % 64).toNat = t % 64 := by omega
  have hsig : (if IntKind.u64.signed = true then (-1 : Int) else IntKind.u64.max) = IntKind.u64.max := rfl
  go_region_law (fail)
  go_wp2_with fail
  go_ret
  have hcp : ((cnt R (C + 1) : Nat) : Int) = (c : Int) - 1 := by have := HCP.out; omega
  have h1 := heap_setCell_same (i := 5) (heap_setCell_same (i := 1) ((heap_setCell_other (w := w1) (p := ⟨mb, t / 64 % 625, none⟩) hne (.int .u64 ((v &&& (18446744073709551615 - 2 ^ (t % 64)) : Nat) : Int))).trans HS.out.at_.blk) (.int .i64 ((c : Int) - 1))) (.int .u32 t)
  have hk := mask_set HS.out.at_.mask (t / 64 % 625) (v &&& (18446744073709551615 - 2 ^ (t % 64))) (popM f m (C + 1)) (by unfold popM; rw [HE1.out, if_pos rfl, HE2.out, HV.out]) (fun j hj => by unfold popM; rw [HE1.out, if_neg hj])
  have hM1 : Mod (fun k => k = q ∨ k = mb) w1 (((w1.setCell ⟨mb, t / 64 % 625, none⟩ (.int .u64 ((v &&& (18446744073709551615 - 2 ^ (t % 64)) : Nat) : Int))).setCell ⟨q, 1, none⟩ (.int .i64 ((c : Int) - 1))).setCell ⟨q, 5, none⟩ (.int .u32 t)).drew :=
    ((((Mod.refl _ w1).setCell (.inr (.inr rfl)) _).setCell (.inr (.inl rfl)) _).setCell (.inr (.inl rfl)) _).drew
  refine ⟨rfl, HS.out.turn hM1 ⟨?_, ?_, hne, HS.out.at_.que.pop hR⟩⟩
  · rw [hcp, ← HT.out]
    show (((w1.setCell _ _).setCell _ _).setCell _ _).heap[q]? = _
    simpa using h1
  · obtain ⟨ms, hb, hr⟩ := hk
    exact ⟨ms, (heap_setCell_other (show mb ≠ q from fun e => hne e.symm) _).trans ((heap_setCell_other (show mb ≠ q from fun e => hne e.symm) _).trans hb), hr⟩
end Go.Proofs.YthnalicohdmlfaaDoor
