/- Part of the proof of laws.FnReceivedAny: serial numbers compared; conditions: as each theorem states. -/
import Derived.Test.YthnalicohdmlfaaDoorProg
import Derived.WalkKit
import Derived.BigQuiet
import Derived.Deep.QuietTactic
import Derived.Lib.Hide
import Derived.StillTailTactics
namespace Go.Proofs.YthnalicohdmlfaaDoor
open Go.RowKit
set_option linter.unusedVariables false

def ltB (x y : Int) : Bool := (decide (x < y) && decide (y - x < 2147483648)) || (decide (y < x) && decide (2147483648 < x - y))
def lteB (x y : Int) : Bool := decide (x = y) || ltB x y
def gtB (x y : Int) : Bool := (decide (x < y) && decide (2147483648 ≤ y - x)) || (decide (y < x) && decide (x - y ≤ 2147483648))

theorem wraps_u32s (n : Int) (h0 : 0 ≤ n) (h1 : n < 4294967296) : IntKind.u32.wrap n = n := by rw [IntKind.wrap_u32]; omega

set_option maxHeartbeats 400000 in
theorem lt_any (x y : Int) (w : World) (hx : 0 ≤ x ∧ x < 4294967296) (hy : 0 ≤ y ∧ y < 4294967296) :
    Calls Tryd.prog 23 #[.int .u32 x, .int .u32 y] w fun e w' => e = .returned (.bool (ltB x y)) ∧ w' = w := by
  obtain ⟨hx0, hx1⟩ := hx
  obtain ⟨hy0, hy1⟩ := hy
  obtain ⟨r, hr⟩ : ∃ r, r = ltB x y := ⟨_, rfl⟩
  rw [← hr]
  unfold ltB at hr
  rcases Int.lt_trichotomy x y with h | h | h
  · have w1 := wraps_u32s (y - x) (by omega) (by omega)
    by_cases h2 : y - x < 2147483648
    · have e : r = true := by rw [hr, Bool.eq_iff_iff]; simp only [Bool.or_eq_true, Bool.and_eq_true, decide_eq_true_eq, iff_true]; omega
      clear hr
      subst e
      go_enter Tryd.func23, Tryd.ntmps23
      go_wp2_with fail
      go_ret
      exact ⟨rfl, rfl⟩
    · have e : r = false := by rw [hr, Bool.eq_iff_iff]; simp only [Bool.or_eq_true, Bool.and_eq_true, decide_eq_true_eq, Bool.false_eq_true, iff_false]; omega
      clear hr
      subst e
      go_enter Tryd.func23, Tryd.ntmps23
      go_wp2_with fail
      go_ret
      exact ⟨rfl, rfl⟩
  · have e : r = false := by rw [hr, Bool.eq_iff_iff]; simp only [Bool.or_eq_true, Bool.and_eq_true, decide_eq_true_eq, Bool.false_eq_true, iff_false]; omega
    clear hr
    subst e
    subst h
    go_enter Tryd.func23, Tryd.ntmps23
    go_wp2_with fail
    go_ret
    exact ⟨rfl, rfl⟩
  · have w1 := wraps_u32s (x - y) (by omega) (by omega)
    by_cases h2 : 2147483648 < x - y
    · have e : r = true := by rw [hr, Bool.eq_iff_iff]; simp only [Bool.or_eq_true, Bool.and_eq_true, decide_eq_true_eq, iff_true]; omega
      clear hr
      subst e
      go_enter Tryd.func23, Tryd.ntmps23
      go_wp2_with fail
      go_ret
      exact ⟨rfl, rfl⟩
    · have e : r = false := by rw [hr, Bool.eq_iff_iff]; simp only [Bool.or_eq_true, Bool.and_eq_true, decide_eq_true_eq, Bool.false_eq_true, iff_false]; omega
      clear hr
      subst e
      go_enter Tryd.func23, Tryd.ntmps23
      go_wp2_with fail
      go_ret
      exact ⟨rfl, rfl⟩

set_option maxHeartbeats 400000 in
theorem gt_any (x y : Int) (w : World) (hx : 0 ≤ x ∧ x < 4294967296) (hy : 0 ≤ y ∧ y < 4294967296) :
    Calls Tryd.prog 18 #[.int .u32 x, .int .u32 y] w fun e w' => e = .returned (.bool (gtB x y)) ∧ w' = w := by
  obtain ⟨hx0, hx1⟩ := hx
  obtain ⟨hy0, hy1⟩ := hy
  obtain ⟨r, hr⟩ : ∃ r, r = gtB x y := ⟨_, rfl⟩
  rw [← hr]
  unfold gtB at hr
  rcases Int.lt_trichotomy x y with h | h | h
  · have w1 := wraps_u32s (y - x) (by omega) (by omega)
    by_cases h2 : 2147483648 ≤ y - x
    · have e : r = true := by rw [hr, Bool.eq_iff_iff]; simp only [Bool.or_eq_true, Bool.and_eq_true, decide_eq_true_eq, iff_true]; omega
      clear hr
      subst e
      go_enter Tryd.func18, Tryd.ntmps18
      go_wp2_with fail
      go_ret
      exact ⟨rfl, rfl⟩
    · have e : r = false := by rw [hr, Bool.eq_iff_iff]; simp only [Bool.or_eq_true, Bool.and_eq_true, decide_eq_true_eq, Bool.false_eq_true, iff_false]; omega
      clear hr
      subst e
      go_enter Tryd.func18, Tryd.ntmps18
      go_wp2_with fail
      go_ret
      exact ⟨rfl, rfl⟩
  · have e : r = false := by rw [hr, Bool.eq_iff_iff]; simp only [Bool.or_eq_true, Bool.and_eq_true, decide_eq_true_eq, Bool.false_eq_true, iff_false]; omega
    clear hr
    subst e
    subst h
    go_enter Tryd.func18, Tryd.ntmps18
    go_wp2_with fail
    go_ret
    exact ⟨rfl, rfl⟩
  · have w1 := wraps_u32s (x - y) (by omega) (by omega)
    by_cases h2 : x - y ≤ 2147483648
    · have e : r = true := by rw [hr, Bool.eq_iff_iff]; simp only [Bool.or_eq_true, Bool.and_eq_true, decide_eq_true_eq, iff_true]; omega
      clear hr
      subst e
      go_enter Tryd.func18, Tryd.ntmps18
      go_wp2_with fail
      go_ret
      exact ⟨rfl, rfl⟩
    · have e : r = false := by rw [hr, Bool.eq_iff_iff]; simp only [Bool.or_eq_true, Bool.and_eq_true, decide_eq_true_eq, Bool.false_eq_true, iff_false]; omega
      clear hr
      subst e
      go_enter Tryd.func18, Tryd.ntmps18
      go_wp2_with fail
      go_ret
      exact ⟨rfl, rfl⟩

set_option maxHeartbeats 400000 in
theorem lte_any (x y : Int) (w : World) (hx : 0 ≤ x ∧ x < 4294967296) (hy : 0 ≤ y ∧ y < 4294967296) :
    Calls Tryd.prog 19 #[.int .u32 x, .int .u32 y] w fun e w' => e = .returned (.bool (lteB x y)) ∧ w' = w := by
  have HL := Lib.hid (lt_any x y w hx hy)
  by_cases h : x = y
  · subst h
    go_enter Tryd.func19, Tryd.ntmps19
    go_wp2_with fail
    go_ret
    exact ⟨by simp [lteB], rfl⟩
  · have hb : (x == y) = false := by simpa using h
    go_enter Tryd.func19, Tryd.ntmps19
    go_wp2_with fail
    refine HL.out.mono ?_
    rintro e w1 ⟨rfl, rfl⟩
    go_wp2_with fail
    go_ret
    exact ⟨by simp [lteB, h], rfl⟩

/-- A number by how far it is from a first one. -/
def U (f p : Int) : Int := (f + p) % 4294967296
theorem U_bound (f p : Int) : 0 ≤ U f p ∧ U f p < 4294967296 := by unfold U; omega
theorem gtB_U (f p q : Int) (h : -100000 ≤ p - q ∧ p - q ≤ 100000) : gtB (U f p) (U f q) = decide (q < p) := by
  unfold gtB U
  rw [Bool.eq_iff_iff]
  simp only [Bool.or_eq_true, Bool.and_eq_true, decide_eq_true_eq]
  omega
theorem lteB_U (f p q : Int) (h : -100000 ≤ p - q ∧ p - q ≤ 100000) : lteB (U f p) (U f q) = decide (p ≤ q) := by
  unfold lteB ltB U
  rw [Bool.eq_iff_iff]
  simp only [Bool.or_eq_true, Bool.and_eq_true, decide_eq_true_eq]
  omega
end Go.Proofs.YthnalicohdmlfaaDoor
