/- Part of the proofs of the three laws on reassembly: serial numbers compared; conditions: as each theorem states. -/
import Derived.Test.YtmniikihkpikdaaDoorM1
namespace Go.Proofs.YtmniikihkpikdaaDoor
open Go.RowKit
set_option linter.unusedVariables false

def ltB (x y : Int) : Bool := (decide (x < y) && decide (y - x < 2147483648)) || (decide (y < x) && decide (2147483648 < x - y))
theorem wraps_u32s (n : Int) (h0 : 0 ≤ n) (h1 : n < 4294967296) : IntKind.u32.wrap n = n := by rw [IntKind.wrap_u32]; omega

set_option maxHeartbeats 400000 in
theorem lt_any (x y : Int) (w : World) (hx : 0 ≤ x ∧ x < 4294967296) (hy : 0 ≤ y ∧ y < 4294967296) :
    Calls Tryd.prog 47 #[.int .u32 x, .int .u32 y] w fun e w' => e = .returned (.bool (ltB x y)) ∧ w' = w := by
  obtain ⟨hx0, hx1⟩ := hx
  obtain ⟨hy0, hy1⟩ := hy
  obtain ⟨r, hr⟩ : ∃ r, r = ltB x y := ⟨_, rfl⟩
  rw [← hr]
  unfold ltB at hr
  rcases Int.lt_trichotomy x y with h | h | h
  · have w1 := wraps_u32s (y - x) (by omega) (by omega)
    by_cases h2 : y - x < 2147483648
    · have e : r = true := by rw [hr, Bool.eq_iff_iff]; simp only [Bool.or_eq_true, Bool.and_eq_true, decide_eq_true_eq, iff_true]; omega
      clear hr
      subst e
      go_enter Tryd.func47, Tryd.ntmps47
      go_wp2_with fail
      go_ret
      exact ⟨rfl, rfl⟩
    · have e : r = false := by rw [hr, Bool.eq_iff_iff]; simp only [Bool.or_eq_true, Bool.and_eq_true, decide_eq_true_eq, Bool.false_eq_true, iff_false]; omega
      clear hr
      subst e
      go_enter Tryd.func47, Tryd.ntmps47
      go_wp2_with fail
      go_ret
      exact ⟨rfl, rfl⟩
  · have e : r = false := by rw [hr, Bool.eq_iff_iff]; simp only [Bool.or_eq_true, Bool.and_eq_true, decide_eq_true_eq, Bool.false_eq_true, iff_false]; omega
    clear hr
    subst e
    subst h
    go_enter Tryd.func47, Tryd.ntmps47
    go_wp2_with fail
    go_ret
    exact ⟨rfl, rfl⟩
  · have w1 := wraps_u32s (x - y) (by omega) (by omega)
    by_cases h2 : 2147483648 < x - y
    · have e : r = true := by rw [hr, Bool.eq_iff_iff]; simp only [Bool.or_eq_true, Bool.and_eq_true, decide_eq_true_eq, iff_true]; omega
      clear hr
      subst e
      go_enter Tryd.func47, Tryd.ntmps47
      go_wp2_with fail
      go_ret
      exact ⟨rfl, rfl⟩
    · have e : r = false := by rw [hr, Bool.eq_iff_iff]; simp only [Bool.or_eq_true, Bool.and_eq_true, decide_eq_true_eq, Bool.false_eq_true, iff_false]; omega
      clear hr
      subst e
      go_enter Tryd.func47, Tryd.ntmps47
      go_wp2_with fail
      go_ret
      exact ⟨rfl, rfl⟩

/-- A number by how far it is from a first one. -/
def U (f p : Int) : Int := (f + p) % 4294967296
theorem U_bound (f p : Int) : 0 ≤ U f p ∧ U f p < 4294967296 := by unfold U; omega
theorem ltB_U (f p q : Int) (h : -100000 ≤ p - q ∧ p - q ≤ 100000) : ltB (U f p) (U f q) = decide (p < q) := by
  rw [Bool.eq_iff_iff]
  unfold ltB U
  simp only [Bool.or_eq_true, Bool.and_eq_true, decide_eq_true_eq]
  omega
theorem U_inj (f p q : Int) (h : -100000 ≤ p - q ∧ p - q ≤ 100000) : U f p = U f q ↔ p = q := by unfold U; omega
theorem lt32 (f p q : Int) (w : World) (h : -100000 ≤ p - q ∧ p - q ≤ 100000) : Calls Tryd.prog 47 #[.int .u32 (U f p), .int .u32 (U f q)] w fun e w' => e = .returned (.bool (decide (p < q))) ∧ w' = w := by
  rw [← ltB_U f p q h]; exact lt_any _ _ w (U_bound f p) (U_bound f q)

theorem wraps_u16 (n : Int) (h0 : 0 ≤ n) (h1 : n < 65536) : IntKind.u16.wrap n = n := by rw [IntKind.wrap_u16]; omega

set_option maxHeartbeats 400000 in
theorem lt16 (x y : Int) (w : World) (hx : 0 ≤ x ∧ x < 30000) (hy : 0 ≤ y ∧ y < 30000) :
    Calls Tryd.prog 33 #[.int .u16 x, .int .u16 y] w fun e w' => e = .returned (.bool (decide (x < y))) ∧ w' = w := by
  obtain ⟨hx0, hx1⟩ := hx
  obtain ⟨hy0, hy1⟩ := hy
  obtain ⟨r, hr⟩ : ∃ r, r = decide (x < y) := ⟨_, rfl⟩
  rw [← hr]
  rcases Int.lt_trichotomy x y with h | h | h
  · have e : r = true := by rw [hr]; simp; omega
    clear hr
    subst e
    have w1 := wraps_u16 (y - x) (by omega) (by omega)
    have h2 : y - x < 32768 := by omega
    have h3 : ¬ 32768 ≤ y - x := by omega
    go_enter Tryd.func33, Tryd.ntmps33
    go_wp2_with fail
    go_ret
    exact ⟨rfl, rfl⟩
  · have e : r = false := by rw [hr]; simp; omega
    clear hr
    subst e
    subst h
    go_enter Tryd.func33, Tryd.ntmps33
    go_wp2_with fail
    go_ret
    exact ⟨rfl, rfl⟩
  · have e : r = false := by rw [hr]; simp; omega
    clear hr
    subst e
    have w1 := wraps_u16 (x - y) (by omega) (by omega)
    have h2 : ¬ 32768 < x - y := by omega
    have h3 : x - y ≤ 32768 := by omega
    go_enter Tryd.func33, Tryd.ntmps33
    go_wp2_with fail
    go_ret
    exact ⟨rfl, rfl⟩

set_option maxHeartbeats 400000 in
theorem gt16 (x y : Int) (w : World) (hx : 0 ≤ x ∧ x < 30000) (hy : 0 ≤ y ∧ y < 30000) :
    Calls Tryd.prog 24 #[.int .u16 x, .int .u16 y] w fun e w' => e = .returned (.bool (decide (y < x))) ∧ w' = w := by
  obtain ⟨hx0, hx1⟩ := hx
  obtain ⟨hy0, hy1⟩ := hy
  obtain ⟨r, hr⟩ : ∃ r, r = decide (y < x) := ⟨_, rfl⟩
  rw [← hr]
  rcases Int.lt_trichotomy x y with h | h | h
  · have e : r = false := by rw [hr]; simp; omega
    clear hr
    subst e
    have w1 := wraps_u16 (y - x) (by omega) (by omega)
    have h2 : y - x < 32768 := by omega
    have h3 : ¬ 32768 ≤ y - x := by omega
    go_enter Tryd.func24, Tryd.ntmps24
    go_wp2_with fail
    go_ret
    exact ⟨rfl, rfl⟩
  · have e : r = false := by rw [hr]; simp; omega
    clear hr
    subst e
    subst h
    go_enter Tryd.func24, Tryd.ntmps24
    go_wp2_with fail
    go_ret
    exact ⟨rfl, rfl⟩
  · have e : r = true := by rw [hr]; simp; omega
    clear hr
    subst e
    have w1 := wraps_u16 (x - y) (by omega) (by omega)
    have h2 : ¬ 32768 < x - y := by omega
    have h3 : x - y ≤ 32768 := by omega
    go_enter Tryd.func24, Tryd.ntmps24
    go_wp2_with fail
    go_ret
    exact ⟨rfl, rfl⟩
end Go.Proofs.YtmniikihkpikdaaDoor
