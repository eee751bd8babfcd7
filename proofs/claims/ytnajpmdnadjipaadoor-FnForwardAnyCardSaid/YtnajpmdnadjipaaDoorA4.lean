/- Proved here: what spec.at returns of two and of four bytes; conditions: as each theorem states. -/
import Derived.Test.YtnajpmdnadjipaaDoorA3
import Derived.Laws.BytesString
namespace Go.Proofs.YtnajpmdnadjipaaDoor
open Go.RowKit
set_option linter.unusedVariables false

theorem wraps_i64 (n : Int) (h₀ : 0 ≤ n) (h₁ : n < 2 ^ 62) : IntKind.i64.wrap n = n := by
  rw [IntKind.wrap_i64]; omega
theorem i64_or (x y : Int) (hx₀ : 0 ≤ x) (hx : x % 256 = 0) (hx₁ : x < 2 ^ 62) (hy₀ : 0 ≤ y) (hy : y < 256) : bits .or .i64 x y = x + y :=
  bits_join .i64 62 (by decide) wraps_i64 8 x y hx₀ hx hx₁ hy₀ (by omega) (by omega)

theorem w64 (n : Int) (h0 : 0 ≤ n) (h1 : n < 4611686018427387904) : wrap64 n = n := IntWalk.wrap64_in n ⟨by omega, by omega⟩

/-- The number of two bytes, of four. -/
def be2 (l : List Int) (p : Nat) : Int := l.getD p 0 * 256 + l.getD (p + 1) 0
def be4 (l : List Int) (p : Nat) : Int := l.getD p 0 * 16777216 + l.getD (p + 1) 0 * 65536 + l.getD (p + 2) 0 * 256 + l.getD (p + 3) 0

set_option maxHeartbeats 400000 in
theorem at2 (b off n c : Nat) (l : List Int) (p : Nat) (w : World) (hn : p + 2 ≤ n) (hn' : n ≤ 2147483647) (hc : n ≤ c)
    (hcell : ∀ i, i < n → w.cell? ⟨b, off + i, none⟩ = some (.int .u8 (l.getD i 0))) (hbyte : ∀ i, 0 ≤ l.getD i 0 ∧ l.getD i 0 < 256) (P : Int) (hP : P = p) :
    Calls Tryd.prog 26 #[.slice (some ⟨b, off, none⟩) n c, .int .i64 P, .int .i64 2] w fun e w' => e = .returned (.int .i64 (be2 l p)) ∧ w = w' := by
  subst hP
  obtain ⟨x0, h0⟩ : ∃ x, x = l.getD p 0 := ⟨_, rfl⟩
  obtain ⟨x1, h1⟩ : ∃ x, x = l.getD (p + 1) 0 := ⟨_, rfl⟩
  have c0 : w.cell? ⟨b, off + p, none⟩ = some (.int .u8 x0) := by rw [h0]; exact hcell p (by omega)
  have c1 : w.cell? ⟨b, off + p + 1, none⟩ = some (.int .u8 x1) := by rw [h1, Nat.add_assoc]; exact hcell (p + 1) (by omega)
  have b0 := hbyte p; have b1 := hbyte (p + 1)
  rw [← h0] at b0; rw [← h1] at b1
  obtain ⟨b0l, b0r⟩ := b0
  obtain ⟨b1l, b1r⟩ := b1
  have hbe : be2 l p = x0 * 256 + x1 := by rw [h0, h1]; rfl
  rw [hbe]
  have qc : ¬ c = p := by omega
  have hb : b < w.heap.size := lt_of_cell c0
  clear hcell hbyte h0 h1 hbe
  go_enter Tryd.func26, Tryd.ntmps26
  go_wp2_with fail
  refine wp_loop_rounds 3 ?_
  rw [rounds_succ]
  go_wp2_with fail
  rw [rounds_succ]
  go_wp2_with fail
  rw [rounds_succ]
  go_wp2_with fail
  go_ret
  refine ⟨?_, rfl⟩
  simp (disch := omega) only [w64, i64_or, Array.getD_eq_getD_getElem?]
  exact ret_eq (by omega)

set_option maxHeartbeats 400000 in
theorem at4 (b off n c : Nat) (l : List Int) (p : Nat) (w : World) (hn : p + 4 ≤ n) (hn' : n ≤ 2147483647) (hc : n ≤ c)
    (hcell : ∀ i, i < n → w.cell? ⟨b, off + i, none⟩ = some (.int .u8 (l.getD i 0))) (hbyte : ∀ i, 0 ≤ l.getD i 0 ∧ l.getD i 0 < 256) (P : Int) (hP : P = p) :
    Calls Tryd.prog 26 #[.slice (some ⟨b, off, none⟩) n c, .int .i64 P, .int .i64 4] w fun e w' => e = .returned (.int .i64 (be4 l p)) ∧ w = w' := by
  subst hP
  obtain ⟨x0, h0⟩ : ∃ x, x = l.getD p 0 := ⟨_, rfl⟩
  obtain ⟨x1, h1⟩ : ∃ x, x = l.getD (p + 1) 0 := ⟨_, rfl⟩
  obtain ⟨x2, h2⟩ : ∃ x, x = l.getD (p + 2) 0 := ⟨_, rfl⟩
  obtain ⟨x3, h3⟩ : ∃ x, x = l.getD (p + 3) 0 := ⟨_, rfl⟩
  have c0 : w.cell? ⟨b, off + p, none⟩ = some (.int .u8 x0) := by rw [h0]; exact hcell p (by omega)
  have c1 : w.cell? ⟨b, off + p + 1, none⟩ = some (.int .u8 x1) := by rw [h1, Nat.add_assoc]; exact hcell (p + 1) (by omega)
  have c2 : w.cell? ⟨b, off + p + 2, none⟩ = some (.int .u8 x2) := by rw [h2, Nat.add_assoc]; exact hcell (p + 2) (by omega)
  have c3 : w.cell? ⟨b, off + p + 3, none⟩ = some (.int .u8 x3) := by rw [h3, Nat.add_assoc]; exact hcell (p + 3) (by omega)
  have b0 := hbyte p; have b1 := hbyte (p + 1); have b2 := hbyte (p + 2); have b3 := hbyte (p + 3)
  rw [← h0] at b0; rw [← h1] at b1; rw [← h2] at b2; rw [← h3] at b3
  obtain ⟨b0l, b0r⟩ := b0
  obtain ⟨b1l, b1r⟩ := b1
  obtain ⟨b2l, b2r⟩ := b2
  obtain ⟨b3l, b3r⟩ := b3
  have hbe : be4 l p = x0 * 16777216 + x1 * 65536 + x2 * 256 + x3 := by rw [h0, h1, h2, h3]; rfl
  rw [hbe]
  have qc : ¬ c = p := by omega
  have hb : b < w.heap.size := lt_of_cell c0
  clear hcell hbyte h0 h1 h2 h3 hbe
  go_enter Tryd.func26, Tryd.ntmps26
  go_wp2_with fail
  refine wp_loop_rounds 5 ?_
  rw [rounds_succ]
  go_wp2_with fail
  rw [rounds_succ]
  go_wp2_with fail
  rw [rounds_succ]
  go_wp2_with fail
  rw [rounds_succ]
  go_wp2_with fail
  rw [rounds_succ]
  go_wp2_with fail
  go_ret
  refine ⟨?_, rfl⟩
  simp (disch := omega) only [w64, i64_or, Array.getD_eq_getD_getElem?]
  exact ret_eq (by omega)
end Go.Proofs.YtnajpmdnadjipaaDoor
