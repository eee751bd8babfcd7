/- Part of the proof of laws.FnReceivedAny: the queue of numbers that came, and whether one is in it; conditions: as each theorem states. -/
import Derived.Test.YthnalicohdmlfaaDoorR3
namespace Go.Proofs.YthnalicohdmlfaaDoor
open Go.RowKit
set_option linter.unusedVariables false

/-- Where a number's bit lies. -/
def ix (f p : Int) : Nat := (U f p).toNat / 64 % 625
def ofs (f p : Int) : Nat := (U f p).toNat % 64
theorem place_apart (f p q : Int) (hne : p ≠ q) (h : -1000 < p - q ∧ p - q < 1000) : ix f p ≠ ix f q ∨ ofs f p ≠ ofs f q := by
  unfold ix ofs U
  have hd : (f + p) / 4294967296 - (f + q) / 4294967296 = -1 ∨ (f + p) / 4294967296 - (f + q) / 4294967296 = 0 ∨ (f + p) / 4294967296 - (f + q) / 4294967296 = 1 := by omega
  rcases hd with hd | hd | hd <;> omega

def cnt (R : Nat → Bool) (C : Nat) : Nat := (List.range 1001).countP (fun k => decide (C < k) && R k)
theorem cnt_zero {R : Nat → Bool} {C : Nat} (h : cnt R C = 0) (k : Nat) (hC : C < k) (hk : k ≤ 1000) : R k = false := by
  have := List.countP_eq_zero.1 h k (by simp; omega)
  simpa [hC] using this
theorem cnt_pos {R : Nat → Bool} {C k : Nat} (hC : C < k) (hk : k ≤ 1000) (hR : R k = true) : 0 < cnt R C :=
  List.countP_pos_iff.2 ⟨k, by simp; omega, by simp [hC, hR]⟩
theorem countP_flip {p q : Nat → Bool} {k : Nat} (hp : p k = false) (hq : q k = true) (h : ∀ i, i ≠ k → p i = q i) : ∀ n, (List.range n).countP q = (List.range n).countP p + (if k < n then 1 else 0)
  | 0 => by simp
  | n + 1 => by
    rw [List.range_succ, List.countP_append, List.countP_append, countP_flip hp hq h n]
    by_cases hk : k < n
    · have := h n (by omega)
      simp [List.countP_cons, this, hk, show k < n + 1 by omega]; omega
    · by_cases hkn : k = n
      · subst hkn; simp [hp, hq]
      · have := h n (fun e => hkn e.symm)
        simp [List.countP_cons, this, hk, show ¬ k < n + 1 by omega]
theorem cnt_le (R : Nat → Bool) (C : Nat) : cnt R C ≤ 1001 := by
  have := List.countP_le_length (p := fun k => decide (C < k) && R k) (l := List.range 1001)
  simpa [cnt] using this

/-- What the queue holds. -/
structure Que (R : Nat → Bool) (C M : Nat) (f : Int) (m : Nat → Nat) : Prop where
  top : ∀ k, R k = true → 1 ≤ k ∧ k ≤ M
  most : M ≤ 1000
  lo : C ≤ M
  run : ∀ k, 1 ≤ k → k ≤ C → R k = true
  last : M = 0 ∨ R M = true
  bit : ∀ k : Nat, C < k → k ≤ 1000 → (m (ix f k)).testBit (ofs f k) = R k
  word : ∀ i, m i < 18446744073709551616

/-- The queue in memory. -/
structure QAt (w : World) (q mb : Nat) (f : Int) (R : Nat → Bool) (C M : Nat) (m : Nat → Nat) (dv : Value) : Prop where
  blk : w.heap[q]? = some (.cells #[.int .u32 (U f M), .int .i64 (cnt R C), .slice (some ⟨mb, 0, none⟩) 625 625, dv, .int .u32 40000, .int .u32 (U f C)] 53 (0, 0))
  mask : ∃ ms, w.heap[mb]? = some (.cells ms 54 (0, 0)) ∧ ms.size = 625 ∧ ∀ i, i < 625 → ms[i]? = some (.int .u64 (m i))
  ne : q ≠ mb
  que : Que R C M f m

theorem QAt.word {w : World} {q mb : Nat} {f : Int} {R : Nat → Bool} {C M : Nat} {m : Nat → Nat} {dv : Value} (h : QAt w q mb f R C M m dv) (i : Nat) (hi : i < 625) : w.cell? ⟨mb, i, none⟩ = some (.int .u64 (m i)) := by
  obtain ⟨ms, hb, hs, hc⟩ := h.mask
  rw [cell_of_block hb]; exact hc i hi
theorem QAt.thaw {w : World} {q mb : Nat} {f : Int} {R : Nat → Bool} {C M : Nat} {m : Nat → Nat} {dv : Value} (h : QAt w q mb f R C M m dv) (i : Nat) : w.frozen? ⟨mb, i, none⟩ = false := by
  obtain ⟨ms, hb, hs, hc⟩ := h.mask
  exact frozen_of_block hb

theorem and_bit (v o : Nat) : ((v &&& 2 ^ o) = 0) = (v.testBit o = false) := by
  rw [eq_iff_iff]
  constructor
  · intro h
    have := congrArg (fun x => x.testBit o) h
    simpa [Nat.testBit_and, Nat.testBit_two_pow_self] using this
  · intro h
    apply Nat.eq_of_testBit_eq
    intro i
    rw [Nat.testBit_and, Nat.testBit_two_pow]
    by_cases hi : o = i
    · subst hi; simp [h]
    · simp [hi]

theorem bit_test (v o : Nat) (hv : v < 18446744073709551616) (ho : o < 64) : (bits .and .u64 (v : Int) (IntKind.u64.wrap (2 ^ o)) != 0) = v.testBit o := by
  have h2 : (2 : Nat) ^ o < 18446744073709551616 := Nat.pow_lt_pow_right (a := 2) (by decide) ho
  have e : IntKind.u64.wrap ((2 : Int) ^ o) = ((2 ^ o : Nat) : Int) := by
    rw [show ((2 : Int) ^ o) = ((2 ^ o : Nat) : Int) from by simp, IntKind.wrap_u64]
    generalize 2 ^ o = z at h2
    omega
  rw [e, bits_and_u64_nat v _ hv h2]
  have hb := and_bit v o
  cases ht : v.testBit o with
  | false => rw [hb.mpr ht]; rfl
  | true =>
    have : v &&& 2 ^ o ≠ 0 := fun h => by rw [hb.mp h] at ht; cases ht
    simpa using this

set_option maxHeartbeats 1000000 in
set_option maxRecDepth 20000 in
theorem has_any {w : World} {q mb : Nat} {f : Int} {R : Nat → Bool} {C M : Nat} {m : Nat → Nat} {dv : Value} (h : QAt w q mb f R C M m dv) (p : Int) (hp : -1000 ≤ p ∧ p ≤ 1001) :
    Calls Tryd.prog 20 #[.pointer (some ⟨q, 0, none⟩), .int .u32 (U f p)] w fun e w' => e = .returned (.bool (decide ((C : Int) < p) && R p.toNat)) ∧ w' = w := by
  have hM := h.que.most; have hC := h.que.lo; have htop := h.que.top p.toNat
  have g0 : w.cell? ⟨q, 0, none⟩ = some (.int .u32 (U f M)) := by rw [cell_of_block h.blk]; rfl
  have g1 : w.cell? ⟨q, 1, none⟩ = some (.int .i64 (cnt R C)) := by rw [cell_of_block h.blk]; rfl
  have g2 : w.cell? ⟨q, 2, none⟩ = some (.slice (some ⟨mb, 0, none⟩) 625 625) := by rw [cell_of_block h.blk]; rfl
  have g5 : w.cell? ⟨q, 5, none⟩ = some (.int .u32 (U f C)) := by rw [cell_of_block h.blk]; rfl
  have hlt := lte_any (U f p) (U f C) w (U_bound _ _) (U_bound _ _)
  rw [lteB_U _ _ _ (by omega)] at hlt
  have hgt := gt_any (U f p) (U f M) w (U_bound _ _) (U_bound _ _)
  rw [gtB_U _ _ _ (by omega)] at hgt
  obtain ⟨r, hr⟩ : ∃ r, r = (decide ((C : Int) < p) && R p.toNat) := ⟨_, rfl⟩
  rw [← hr]
  obtain ⟨c, hc⟩ : ∃ c, c = cnt R C := ⟨_, rfl⟩
  rw [← hc] at g1
  have ub := U_bound f p
  obtain ⟨t, ht⟩ : ∃ t : Nat, (t : Int) = U f p := ⟨(U f p).toNat, Int.toNat_of_nonneg ub.1⟩
  rw [← ht] at hlt hgt ub ⊢
  by_cases hc0 : c = 0
  · have e : r = false := by
      rw [hr, Bool.and_eq_false_iff]
      by_cases hCp : (C : Int) < p
      · right
        by_cases h1 : p.toNat ≤ 1000
        · exact cnt_zero (hc.symm.trans hc0) p.toNat (by omega) h1
        · cases hR : R p.toNat with
          | false => rfl
          | true => have := htop hR; omega
      · left; simpa using hCp
    subst e; subst hc0
    clear h hr hc htop hlt hgt ht
    go_enter Tryd.func20, Tryd.ntmps20
    go_wp2_with fail
    go_ret
    exact ⟨rfl, rfl⟩
  · have hcn : ((c : Int) == 0) = false := by simp; omega
    by_cases hCp : (C : Int) < p
    · rw [decide_eq_false (by omega)] at hlt
      by_cases hMp : (M : Int) < p
      · rw [decide_eq_true hMp] at hgt
        have e : r = false := by
          rw [hr, Bool.and_eq_false_iff]; right
          cases hR : R p.toNat with
          | false => rfl
          | true => have := htop hR; omega
        subst e
        have HL := Lib.hid hlt; have HG := Lib.hid hgt
        clear h hr hc htop hlt hgt ht
        go_enter Tryd.func20, Tryd.ntmps20
        go_wp2_with fail
        refine HL.out.mono ?_
        rintro e w1 ⟨rfl, rfl⟩
        go_wp2_with fail
        refine HG.out.mono ?_
        rintro e w1 ⟨rfl, rfl⟩
        go_wp2_with fail
        go_ret
        exact ⟨rfl, rfl⟩
      · rw [decide_eq_false hMp] at hgt
        have hbit := h.que.bit p.toNat (by omega) (by omega)
        rw [Int.toNat_of_nonneg (by omega)] at hbit
        have gm := h.word (ix f p) (by unfold ix; omega)
        have hmw := h.que.word (ix f p)
        have e1 : ix f p = t / 64 % 625 := by unfold ix; rw [← ht]; rfl
        have e2 : ofs f p = t % 64 := by unfold ofs; rw [← ht]; rfl
        rw [e1, e2] at hbit
        rw [e1] at gm hmw
        obtain ⟨v, hv⟩ : ∃ v, v = m (t / 64 % 625) := ⟨_, rfl⟩
        rw [← hv] at hbit gm hmw
        have e : r = v.testBit (t % 64) := by rw [hr, hbit, decide_eq_true hCp, Bool.true_and]
        have HR := Lib.hid e
        have HL := Lib.hid hlt; have HG := Lib.hid hgt
        clear h hr hc htop hlt hgt ht hbit e hv e1 e2
        go_enter Tryd.func20, Tryd.ntmps20
        go_wp2_with fail
        refine HL.out.mono ?_
        rintro e w1 ⟨rfl, rfl⟩
        go_wp2_with fail
        refine HG.out.mono ?_
        rintro e w1 ⟨rfl, rfl⟩
        go_wp2_with fail
        rw [bit_test v (t % 64) hmw (Nat.mod_lt _ (by decide)), ← HR.out]
        go_ret
        exact ⟨rfl, rfl⟩
    · rw [decide_eq_true (by omega)] at hlt
      have e : r = false := by rw [hr, decide_eq_false hCp, Bool.false_and]
      subst e
      have HL := Lib.hid hlt
      clear h hr hc htop hlt hgt ht
      go_enter Tryd.func20, Tryd.ntmps20
      go_wp2_with fail
      refine HL.out.mono ?_
      rintro e w1 ⟨rfl, rfl⟩
      go_wp2_with fail
      go_ret
      exact ⟨rfl, rfl⟩
end Go.Proofs.YthnalicohdmlfaaDoor
