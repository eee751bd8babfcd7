/- Part of the proof of laws.FnReceivedAny: the first bit that is set, the first that is not; conditions: the package's table is there (TabAt). -/
import Derived.Test.YthnalicohdmlfaaDoorR1
import Derived.Shelf.Spec.TrailingZeros
import Derived.Laws.Bits64b
import Derived.Laws.Bits64
namespace Go.Proofs.YthnalicohdmlfaaDoor
open Go.RowKit
set_option linter.unusedVariables false

def Tab (w : World) : Prop := ∀ j, j < Lib.deBruijn64tab.length → w.cell? ⟨0, j, none⟩ = some (.int .u8 (Lib.deBruijn64tab.getD j 0))

set_option maxHeartbeats 400000 in
theorem tz_core (x k idx : Nat) (w : World) (hx0 : ((x : Int) == 0) = false)
    (key : IntKind.u64.wrap (bits BinOp.and IntKind.u64 (x : Int) (IntKind.u64.wrap (-(x : Int))) * 285870213051353865) / 288230376151711744 = (idx : Int))
    (hi : idx < 64) (hk : k < 64) (hcell : w.cell? ⟨0, idx, none⟩ = some (.int .u8 k)) :
    Calls Tryd.prog 24 #[.int .u64 x] w fun e w' => e = .returned (.int .i64 k) ∧ w' = w := by
  go_enter Tryd.func24, Tryd.ntmps24
  go_wp2_with (simp only [key])
  go_ret
  exact ⟨rfl, rfl⟩

set_option maxHeartbeats 400000 in
theorem tz_zero (w : World) : Calls Tryd.prog 24 #[.int .u64 0] w fun e w' => e = .returned (.int .i64 64) ∧ w' = w := by
  go_enter Tryd.func24, Tryd.ntmps24
  go_wp2_with fail
  go_ret
  exact ⟨rfl, rfl⟩

theorem tz_any (x : Nat) (hx : x < 18446744073709551616) (w : World) (hT : Tab w) :
    Calls Tryd.prog 24 #[.int .u64 x] w fun e w' => e = .returned (.int .i64 (Lib.ctz 64 x)) ∧ w' = w := by
  by_cases hx0 : x = 0
  · subst hx0
    exact tz_zero w
  · obtain ⟨hlow, hk⟩ := Lib.lowest_bit 64 x hx0 hx
    obtain ⟨hi, htab⟩ := Lib.deBruijn64_at _ hk
    have hcell := hT _ hi
    rw [htab] at hcell
    exact tz_core x _ _ w (by simp; omega) (tz64_key x _ hx hx0 hlow) hi hk hcell

def nz (v s : Nat) : Nat := Lib.ctz 64 (v / 2 ^ s) + s
set_option maxHeartbeats 400000 in
theorem nz_any (v s : Nat) (hv : v < 18446744073709551616) (hs : s < 64) (w : World) (hT : Tab w) :
    Calls Tryd.prog 21 #[.int .u64 v, .int .i64 s, .int .i64 64] w fun e w' => e = .returned (.tuple #[.int .i64 (nz v s), .bool (decide (nz v s < 64))]) ∧ w' = w := by
  have hz := tz_any (v / 2 ^ s) (Nat.lt_of_le_of_lt (Nat.div_le_self _ _) hv) w hT
  rw [show ((v / 2 ^ s : Nat) : Int) = (v : Int) / 2 ^ s from by simp] at hz
  obtain ⟨c, hc⟩ : ∃ c, c = Lib.ctz 64 (v / 2 ^ s) := ⟨_, rfl⟩
  have hc64 : c ≤ 64 := by
    rw [hc]
    by_cases h0 : v / 2 ^ s = 0
    · simp [Lib.ctz, h0]
    · exact Nat.le_of_lt (Lib.lowest_bit 64 _ h0 (Nat.lt_of_le_of_lt (Nat.div_le_self _ _) hv)).2
  rw [← hc] at hz
  have HZ := Lib.hid hz
  have hn : nz v s = c + s := by rw [hc]; rfl
  rw [hn, show decide (c + s < 64) = decide ((c : Int) + s < 64) from by rw [Bool.eq_iff_iff]; simp only [decide_eq_true_eq]; omega, Int.natCast_add]
  clear hT hz hc hn
  go_enter Tryd.func21, Tryd.ntmps21
  go_wp2_with fail
  refine HZ.out.mono ?_
  rintro e w1 ⟨rfl, rfl⟩
  have wc : IntKind.i64.wrap ((c : Int) + s) = (c : Int) + s := by rw [IntKind.wrap_i64]; omega
  go_wp2_with fail
  go_ret2
  exact ⟨rfl, rfl⟩

theorem not_bits (v : Nat) (hv : v < 18446744073709551616) : bits .xor .u64 IntKind.u64.max (v : Int) = ((18446744073709551615 - v : Nat) : Int) := by
  have e : (18446744073709551615 : Nat) ^^^ v = 18446744073709551615 - v := by
    apply Nat.eq_of_testBit_eq
    intro i
    have h1 := Nat.testBit_two_pow_sub_succ (x := v) (n := 64) hv i
    have h2 := Nat.testBit_two_pow_sub_succ (x := 0) (n := 64) (show 0 < 2 ^ 64 by decide) i
    rw [show 18446744073709551615 - v = 2 ^ 64 - (v + 1) by omega, h1, Nat.testBit_xor, show (18446744073709551615 : Nat) = 2 ^ 64 - (0 + 1) by decide, h2]
    by_cases hi : i < 64
    · simp [hi]
    · have : v.testBit i = false := Nat.testBit_lt_two_pow (Nat.lt_of_lt_of_le (show v < 2 ^ 64 from hv) (Nat.pow_le_pow_right (n := 2) (by decide) (show 64 ≤ i by omega)))
      simp [hi, this]
  have h := bits_xor_u64_nat 18446744073709551615 v (by decide) hv
  rw [e] at h
  exact h

set_option maxHeartbeats 400000 in
theorem zb_any (v s : Nat) (hv : v < 18446744073709551616) (hs : s < 64) (w : World) (hT : Tab w) :
    Calls Tryd.prog 22 #[.int .u64 v, .int .i64 s, .int .i64 64] w fun e w' => e = .returned (.tuple #[.int .i64 (nz (18446744073709551615 - v) s), .bool (decide (nz (18446744073709551615 - v) s < 64))]) ∧ w' = w := by
  have hz := nz_any (18446744073709551615 - v) s (by omega) hs w hT
  obtain ⟨d, hd⟩ : ∃ d : Bool, d = decide (nz (18446744073709551615 - v) s < 64) := ⟨_, rfl⟩
  rw [← hd] at hz ⊢
  obtain ⟨k, hk⟩ : ∃ k, k = nz (18446744073709551615 - v) s := ⟨_, rfl⟩
  rw [← hk] at hz ⊢
  rw [← not_bits v hv] at hz
  have HZ := Lib.hid hz
  clear hT hz hd hk
  go_enter Tryd.func22, Tryd.ntmps22
  go_wp2_with fail
  refine HZ.out.mono ?_
  rintro e w1 ⟨rfl, rfl⟩
  go_wp2_with fail
  go_ret2
  exact ⟨rfl, rfl⟩

theorem div_bit (v s j : Nat) : (v / 2 ^ s).testBit j = v.testBit (s + j) := by
  rw [← Nat.shiftRight_eq_div_pow, Nat.testBit_shiftRight]
theorem ctz_bits {x : Nat} (hx : x < 2 ^ 64) (h0 : x ≠ 0) : x.testBit (Lib.ctz 64 x) = true ∧ ∀ j, j < Lib.ctz 64 x → x.testBit j = false := by
  obtain ⟨m, hm, _⟩ := Lib.ctzFrom_spec 64 x (by omega) hx
  have e : Lib.ctz 64 x = Lib.ctzFrom 64 x := by simp [Lib.ctz, h0]
  rw [e]
  obtain ⟨k, hk⟩ : ∃ k, k = Lib.ctzFrom 64 x := ⟨_, rfl⟩
  rw [← hk] at hm ⊢
  rw [hm, Nat.mul_comm]
  refine ⟨?_, fun j hj => ?_⟩
  · rw [Nat.testBit_mul_two_pow]; simp
  · rw [Nat.testBit_mul_two_pow]; simp; omega
/-- The first bit from s on that is set. -/
theorem nz_lt {v s : Nat} (hv : v < 18446744073709551616) (h : nz v s < 64) : s ≤ nz v s ∧ v.testBit (nz v s) = true ∧ ∀ j, s ≤ j → j < nz v s → v.testBit j = false := by
  have hx : v / 2 ^ s < 2 ^ 64 := Nat.lt_of_le_of_lt (Nat.div_le_self _ _) hv
  unfold nz at h ⊢
  have h0 : v / 2 ^ s ≠ 0 := fun e => by rw [e] at h; simp [Lib.ctz] at h; omega
  obtain ⟨h1, h2⟩ := ctz_bits hx h0
  refine ⟨by omega, ?_, fun j hs hj => ?_⟩
  · rw [Nat.add_comm, ← div_bit]; exact h1
  · have := h2 (j - s) (by omega)
    rw [div_bit, show s + (j - s) = j by omega] at this
    exact this
theorem nz_ge {v s : Nat} (hv : v < 18446744073709551616) (hs : s < 64) (h : ¬ nz v s < 64) : ∀ j, s ≤ j → j < 64 → v.testBit j = false := by
  have hx : v / 2 ^ s < 2 ^ 64 := Nat.lt_of_le_of_lt (Nat.div_le_self _ _) hv
  unfold nz at h
  intro j hj hj64
  by_cases h0 : v / 2 ^ s = 0
  · have e := div_bit v s (j - s)
    rw [h0, show s + (j - s) = j by omega] at e
    rw [← e]; simp
  · have := (ctz_bits hx h0).2 (j - s) (by omega)
    rw [div_bit, show s + (j - s) = j by omega] at this
    exact this
end Go.Proofs.YthnalicohdmlfaaDoor
