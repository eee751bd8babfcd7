/- Part of the proof of laws.FnReceivedAny: the runs of numbers that came, in plain Lean; conditions: as each theorem states. -/
import Derived.Test.YthnalicohdmlfaaDoorR6
namespace Go.Proofs.YthnalicohdmlfaaDoor
open Go.RowKit
set_option linter.unusedVariables false

/-- The last run grows to e. -/
def grow (l : List (Nat × Nat)) (e : Nat) : List (Nat × Nat) := match l.reverse with | [] => [] | p :: r => r.reverse ++ [(p.1, e)]
theorem grow_snoc (l : List (Nat × Nat)) (a b e : Nat) : grow (l ++ [(a, b)]) e = l ++ [(a, e)] := by simp [grow]
/-- The runs of numbers that came, up to n. -/
def gl (r : Nat → Bool) : Nat → List (Nat × Nat)
  | 0 => []
  | n + 1 => if r (n + 1) then (if r n then grow (gl r n) (n + 1) else gl r n ++ [(n + 1, n + 1)]) else gl r n
theorem gl_zeros {r : Nat → Bool} {a : Nat} : ∀ d, (∀ k, a < k → k ≤ a + d → r k = false) → gl r (a + d) = gl r a
  | 0, _ => rfl
  | d + 1, h => by
    have h1 := h (a + d + 1) (by omega) (by omega)
    show (if r (a + d + 1) then _ else gl r (a + d)) = _
    rw [h1]
    exact gl_zeros d (fun k h1 h2 => h k h1 (by omega))
theorem gl_run {r : Nat → Bool} {s : Nat} (h0 : r s = false) : ∀ d, (∀ k, s < k → k ≤ s + d + 1 → r k = true) → gl r (s + d + 1) = gl r s ++ [(s + 1, s + d + 1)]
  | 0, h => by
    have h1 := h (s + 1) (by omega) (by omega)
    show (if r (s + 1) then (if r s then _ else _) else _) = _
    rw [h1, h0]; rfl
  | d + 1, h => by
    have h1 := h (s + d + 1 + 1) (by omega) (by omega)
    have h2 := h (s + d + 1) (by omega) (by omega)
    have ih := gl_run h0 d (fun k h1 h2 => h k h1 (by omega))
    show (if r (s + d + 1 + 1) then (if r (s + d + 1) then grow (gl r (s + d + 1)) (s + d + 1 + 1) else _) else _) = _
    rw [h1, h2, ih]
    simp only [if_true]
    exact grow_snoc _ _ _ _
theorem gl_zeros' {r : Nat → Bool} {a b : Nat} (hab : a ≤ b) (h : ∀ k, a < k → k ≤ b → r k = false) : gl r b = gl r a := by
  obtain ⟨d, rfl⟩ := Nat.exists_eq_add_of_le hab
  exact gl_zeros d h
theorem gl_run' {r : Nat → Bool} {s e : Nat} (hs : 1 ≤ s) (h0 : r (s - 1) = false) (he : s ≤ e) (h : ∀ k, s ≤ k → k ≤ e → r k = true) : gl r e = gl r (s - 1) ++ [(s, e)] := by
  obtain ⟨d, rfl⟩ := Nat.exists_eq_add_of_le he
  have := gl_run h0 d (fun k h1 h2 => h k (by omega) (by omega))
  rw [show s - 1 + d + 1 = s + d by omega, show s - 1 + 1 = s by omega] at this
  exact this
theorem gl_len (r : Nat → Bool) : ∀ n, (gl r n).length ≤ n
  | 0 => Nat.le_refl _
  | n + 1 => by
    have ih := gl_len r n
    show (if r (n + 1) then (if r n then grow (gl r n) (n + 1) else gl r n ++ [(n + 1, n + 1)]) else gl r n).length ≤ n + 1
    split
    · split
      · have : ∀ (l : List (Nat × Nat)) (e : Nat), (grow l e).length = l.length := by
          intro l e
          unfold grow
          cases h : l.reverse with
          | nil => have := congrArg List.length h; simp at this; simp [this]
          | cons p q => have := congrArg List.length h; simp at this; simp [this]
        rw [this]; omega
      · simp; omega
    · omega

/-- Numbers whose bits lie in one word. -/
theorem same_word (f : Int) (T k : Nat) (h1 : T ≤ k) (h2 : k < T + (64 - ofs f T)) : ix f k = ix f T ∧ ofs f k = ofs f T + (k - T) := by
  unfold ix ofs U at *
  have hd : (f + k) / 4294967296 - (f + T) / 4294967296 = 0 ∨ (f + k) / 4294967296 - (f + T) / 4294967296 = 1 := by omega
  rcases hd with hd | hd
  · constructor <;> omega
  · exfalso; omega
theorem ofs_lt (f p : Int) : ofs f p < 64 := by unfold ofs; omega

/-- What came behind the number up to which all came. -/
def above (R : Nat → Bool) (C : Nat) : Nat → Bool := fun k => decide (C < k) && R k
theorem Que.word_bit {R : Nat → Bool} {C M : Nat} {f : Int} {m : Nat → Nat} (h : Que R C M f m) {T k : Nat} (hT : C < T) (h1 : T ≤ k) (h2 : k < T + (64 - ofs f T)) (h3 : k ≤ 1000) : (m (ix f T)).testBit (ofs f T + (k - T)) = above R C k := by
  obtain ⟨e1, e2⟩ := same_word f T k h1 h2
  rw [← e1, ← e2, h.bit k (by omega) h3]
  unfold above
  rw [decide_eq_true (show C < k by omega), Bool.true_and]

/-- A search for a bit that is set comes to a number that came. -/
theorem seek_one {R : Nat → Bool} {C M : Nat} {f : Int} {m : Nat → Nat} (h : Que R C M f m) {T : Nat} (hT : C < T) (hM : T ≤ M) (hn : nz (m (ix f T)) (ofs f T) < 64) :
    ofs f T ≤ nz (m (ix f T)) (ofs f T) ∧ T + (nz (m (ix f T)) (ofs f T) - ofs f T) ≤ M ∧ above R C (T + (nz (m (ix f T)) (ofs f T) - ofs f T)) = true ∧ ∀ k, T ≤ k → k < T + (nz (m (ix f T)) (ofs f T) - ofs f T) → above R C k = false := by
  obtain ⟨h1, h2, h3⟩ := nz_lt (h.word _) hn
  obtain ⟨z, hz⟩ : ∃ z, z = nz (m (ix f T)) (ofs f T) := ⟨_, rfl⟩
  rw [← hz] at h1 h2 h3 hn ⊢
  have hm := h.most
  have hM' : above R C M = true := by
    unfold above
    rw [decide_eq_true (show C < M by omega), Bool.true_and]
    rcases h.last with h0 | h0
    · omega
    · exact h0
  have hle : T + (z - ofs f T) ≤ M := by
    apply Nat.le_of_not_lt
    intro hlt
    have := h.word_bit hT hM (k := M) (by omega) hm
    rw [h3 _ (by omega) (by omega), hM'] at this
    cases this
  refine ⟨h1, hle, ?_, fun k hk1 hk2 => ?_⟩
  · rw [← h.word_bit hT (by omega) (by omega) (by omega), ← h2]; congr 1; omega
  · rw [← h.word_bit hT hk1 (by omega) (by omega)]; exact h3 _ (by omega) (by omega)
theorem seek_none {R : Nat → Bool} {C M : Nat} {f : Int} {m : Nat → Nat} (h : Que R C M f m) {T : Nat} (hT : C < T) (hM : T ≤ M) (hn : ¬ nz (m (ix f T)) (ofs f T) < 64) :
    T + (64 - ofs f T) ≤ M ∧ ∀ k, T ≤ k → k < T + (64 - ofs f T) → above R C k = false := by
  have ho := ofs_lt f T
  have h3 := nz_ge (h.word _) ho hn
  have hm := h.most
  have hM' : above R C M = true := by
    unfold above
    rw [decide_eq_true (show C < M by omega), Bool.true_and]
    rcases h.last with h0 | h0
    · omega
    · exact h0
  have hle : T + (64 - ofs f T) ≤ M := by
    apply Nat.le_of_not_lt
    intro hlt
    have := h.word_bit hT hM (k := M) (by omega) hm
    rw [h3 _ (by omega) (by omega), hM'] at this
    cases this
  refine ⟨hle, fun k hk1 hk2 => ?_⟩
  rw [← h.word_bit hT hk1 hk2 (by omega)]; exact h3 _ (by omega) (by omega)
theorem not_testBit {v j : Nat} (hv : v < 18446744073709551616) (hj : j < 64) : (18446744073709551615 - v).testBit j = !v.testBit j := by
  have h1 := Nat.testBit_two_pow_sub_succ (x := v) (n := 64) hv j
  rw [show 18446744073709551615 - v = 2 ^ 64 - (v + 1) by omega, h1]
  simp [hj]
/-- A search for a bit that is not set. -/
theorem seek_zero {R : Nat → Bool} {C M : Nat} {f : Int} {m : Nat → Nat} (h : Que R C M f m) {T : Nat} (hT : C < T) (hM : T ≤ M) (hn : nz (18446744073709551615 - m (ix f T)) (ofs f T) < 64) :
    ofs f T ≤ nz (18446744073709551615 - m (ix f T)) (ofs f T) ∧ (T + (nz (18446744073709551615 - m (ix f T)) (ofs f T) - ofs f T) ≤ M → above R C (T + (nz (18446744073709551615 - m (ix f T)) (ofs f T) - ofs f T)) = false) ∧
      ∀ k, T ≤ k → k < T + (nz (18446744073709551615 - m (ix f T)) (ofs f T) - ofs f T) → k ≤ M → above R C k = true := by
  obtain ⟨h1, h2, h3⟩ := nz_lt (v := 18446744073709551615 - m (ix f T)) (by omega) hn
  obtain ⟨z, hz⟩ : ∃ z, z = nz (18446744073709551615 - m (ix f T)) (ofs f T) := ⟨_, rfl⟩
  rw [← hz] at h1 h2 h3 hn ⊢
  have hm := h.most
  refine ⟨h1, fun hle => ?_, fun k hk1 hk2 hk3 => ?_⟩
  · rw [not_testBit (h.word _) hn] at h2
    rw [← h.word_bit hT (by omega) (by omega) (by omega), show ofs f T + (T + (z - ofs f T) - T) = z by omega]
    simpa using h2
  · have := h3 (ofs f T + (k - T)) (by omega) (by omega)
    rw [not_testBit (h.word _) (by omega), h.word_bit hT hk1 (by omega) (by omega)] at this
    simpa using this
theorem seek_full {R : Nat → Bool} {C M : Nat} {f : Int} {m : Nat → Nat} (h : Que R C M f m) {T : Nat} (hT : C < T) (hn : ¬ nz (18446744073709551615 - m (ix f T)) (ofs f T) < 64) :
    ∀ k, T ≤ k → k < T + (64 - ofs f T) → k ≤ M → above R C k = true := by
  have h3 := nz_ge (v := 18446744073709551615 - m (ix f T)) (by omega) (ofs_lt f T) hn
  have hm := h.most
  intro k hk1 hk2 hk3
  have := h3 (ofs f T + (k - T)) (by omega) (by omega)
  rw [not_testBit (h.word _) (by omega), h.word_bit hT hk1 hk2 (by omega)] at this
  simpa using this
end Go.Proofs.YthnalicohdmlfaaDoor
