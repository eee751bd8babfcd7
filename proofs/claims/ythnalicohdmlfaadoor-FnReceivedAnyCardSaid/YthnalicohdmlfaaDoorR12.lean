/- Part of the proof of laws.FnReceivedAny: a map of numbers that came, and the numbers that came for the first time; conditions: as each theorem states. -/
import Derived.Test.YthnalicohdmlfaaDoorR11
import Derived.Maps.OwnSet
namespace Go.Proofs.YthnalicohdmlfaaDoor
open Go.RowKit
open Go.Maps (Keyed IsMap)
set_option linter.unusedVariables false

theorem keyed3 : Keyed Tryd.prog 3 := Go.Maps.int_keyed Tryd.underlying3
theorem zero4 (w : World) : (zeroValue 4).run Tryd.prog w = .ok (.bool false) w := by kernel_rfl
theorem lit_wf (x : Int) (h : -100000 ≤ x ∧ x ≤ 100000) : (Lit.int .i64 x).wf = true := WalkArith.wf_i64 (by omega)
theorem key_of (x : Int) (h : -100000 ≤ x ∧ x ≤ 100000) : keyOf Tryd.prog 3 (.int .i64 x) = some (.int .i64 x) := Go.Maps.keyOf_int_mk Tryd.underlying3 (lit_wf x h)

/-- A map of bools by numbers that answers as S says. -/
def CameAt (w : World) (b n : Nat) (S : Int → Bool) : Prop :=
  ∃ D : DataW Unit, w.ownsMap Tryd.prog 3 (plainElem Tryd.prog 4) b n D ∧ ∀ x : Int, D.atKey (.int .i64 x) (.lit (.bool false)) = .lit (.bool (S x))

theorem CameAt.made (w : World) : CameAt (w.alloc (.map #[] 0)) w.heap.size 0 (fun _ => false) :=
  ⟨.map [], World.ownsMap_made _ _ _ _, fun x => rfl⟩
theorem CameAt.lt {w : World} {b n : Nat} {S : Int → Bool} (h : CameAt w b n S) : b < w.heap.size := by
  obtain ⟨D, ho, _⟩ := h; exact ho.lt
theorem CameAt.of {w w' : World} {b n : Nat} {S : Int → Bool} (h : CameAt w b n S) (e : w'.heap[b]? = w.heap[b]?) : CameAt w' b n S := by
  obtain ⟨D, ⟨es, clock, hb, hr⟩, hD⟩ := h
  exact ⟨D, ⟨es, clock, e.trans hb, hr⟩, hD⟩
theorem CameAt.mono {w : World} {b n n' : Nat} {S : Int → Bool} (h : CameAt w b n S) (hn : n ≤ n') : CameAt w b n' S := by
  obtain ⟨D, ho, hD⟩ := h; exact ⟨D, ho.mono hn, hD⟩
theorem CameAt.look {w : World} {b n : Nat} {S : Int → Bool} (h : CameAt w b n S) (x : Int) (hx : -100000 ≤ x ∧ x ≤ 100000) : (Instr.lookup 34 (.map (some b)) (.int .i64 x) false).run Tryd.prog w = .ok (.bool (S x)) w := by
  obtain ⟨D, ho, hD⟩ := h
  obtain ⟨v, ps, hrun, hv⟩ := ho.lookup keyed3 Tryd.underlying34 (zero4 w) (plainElem_bool Tryd.underlying4 false) (key_of x hx)
  rw [hD x] at hv
  rw [hrun]
  cases v <;> simp [plainElem, Tryd.underlying4] at hv
  rw [hv.1]
/-- A store of 'true' at a number. -/
theorem wpList_came {w : World} {ops : Array Oper} {rest : List Oper} {o : Oper} {a : Act} {Q : Exit → Act → World → Prop} (hg : o.guard = none) (mo x v : Operand) (hop : o.op = Op.mapUpdate 34 mo x v)
    (b n : Nat) (S : Int → Bool) (hm : a.eval mo = .map (some b)) (h : CameAt w b n S) (hn : n < 100000) (p : Int) (hx : a.eval x = .int .i64 p) (hv : a.eval v = .bool true) (hp : -100000 ≤ p ∧ p ≤ 100000)
    (hK : ∀ w', CameAt w' b (n + 1) (fun y => decide (y = p) || S y) → w.grownBy w' (some b) → wpList Tryd.prog ops Q rest (a.put o.dst undef) w') : wpList Tryd.prog ops Q (o :: rest) a w := by
  obtain ⟨D, ho, hD⟩ := h
  refine wpList_mapUpdate_own w hg mo x v 34 hop 3 4 keyed3 Tryd.underlying34 _ b n D hm ho (by unfold maxLen; omega) _ _ _ hx hv (key_of p hp) _ [] (plainElem_bool Tryd.underlying4 true) ?_
  intro w' h1 h2
  refine hK w' ⟨_, h1, fun y => ?_⟩ h2
  by_cases hy : y = p
  · subst hy
    rw [Go.Maps.atKey_put_same ho.isMap (by simp [WideAt.IsKeyLit])]
    simp
  · rw [Go.Maps.atKey_put_other (fun e => hy (by cases e; rfl)), hD y]
    simp [hy]

/-- The numbers that came for the first time, in order. -/
def stepB (f : Int) (s : ((Nat → Bool) × List Int) × List Int) (p : Int) : ((Nat → Bool) × List Int) × List Int :=
  (stepR f s.1 p, if p < 1 ∨ s.1.1 p.toNat = true then s.2 else s.2 ++ [p])
def bhs (f : Int) (ps : List Int) : ((Nat → Bool) × List Int) × List Int := ps.foldl (stepB f) ((fun _ => false, []), [])
theorem bhs_snoc (f : Int) (ps : List Int) (p : Int) : bhs f (ps ++ [p]) = stepB f (bhs f ps) p := by simp [bhs]
theorem bhs_take (f : Int) (ps : List Int) (j : Nat) (hj : j < ps.length) : bhs f (ps.take (j + 1)) = stepB f (bhs f (ps.take j)) ps[j] := by
  rw [List.take_succ_eq_append_getElem hj, bhs_snoc]
theorem bhs_recv (f : Int) (ps : List Int) : ∀ j, j ≤ ps.length → (bhs f (ps.take j)).1 = recv f (ps.take j)
  | 0, _ => rfl
  | j + 1, h => by
    rw [bhs_take f ps j h, recv_take f ps j h, ← bhs_recv f ps j (by omega)]; rfl
/-- What the list of those numbers is. -/
structure BOk (s : ((Nat → Bool) × List Int) × List Int) : Prop where
  mem : ∀ k : Nat, s.1.1 k = true ↔ (k : Int) ∈ s.2
  pos : ∀ x ∈ s.2, 1 ≤ x ∧ x ≤ 1000
  nodup : s.2.Nodup
theorem BOk.step {f : Int} {s : ((Nat → Bool) × List Int) × List Int} (h : BOk s) (p : Int) (hp : p ≤ 1000) : BOk (stepB f s p) := by
  unfold stepB stepR
  by_cases hd : p < 1 ∨ s.1.1 p.toNat = true
  · rw [if_pos hd, if_pos hd]
    exact ⟨h.mem, h.pos, h.nodup⟩
  · rw [if_neg hd, if_neg hd]
    have h1 : 1 ≤ p := by
      rcases Int.lt_or_le p 1 with h | h
      · exact absurd (.inl h) hd
      · exact h
    have hpn : ((p.toNat : Nat) : Int) = p := Int.toNat_of_nonneg (by omega)
    have hn : p ∉ s.2 := fun hm => hd (.inr ((h.mem p.toNat).2 (by rw [hpn]; exact hm)))
    refine ⟨fun k => ?_, fun x hx => ?_, ?_⟩
    · show (decide (k = p.toNat) || s.1.1 k) = true ↔ _
      rw [Bool.or_eq_true, decide_eq_true_eq, h.mem k, List.mem_append, List.mem_singleton]
      constructor
      · rintro (h | h)
        · right; omega
        · exact .inl h
      · rintro (h | h)
        · exact .inr h
        · left; omega
    · rcases List.mem_append.1 hx with hx | hx
      · exact h.pos x hx
      · obtain rfl := List.mem_singleton.1 hx; omega
    · rw [List.nodup_append]
      refine ⟨h.nodup, by simp, fun a ha b hb => ?_⟩
      obtain rfl := List.mem_singleton.1 hb
      exact fun e => hn (e ▸ ha)
theorem bhs_ok (f : Int) (ps : List Int) (hp : ∀ p ∈ ps, p ≤ 1000) : ∀ j, j ≤ ps.length → BOk (bhs f (ps.take j))
  | 0, _ => ⟨fun k => by simp [bhs], fun x hx => by simp [bhs] at hx, by simp [bhs]⟩
  | j + 1, h => by
    rw [bhs_take f ps j h]
    exact (bhs_ok f ps hp j (by omega)).step _ (hp _ (List.getElem_mem h))
theorem bhs_len (f : Int) (ps : List Int) : ∀ j, j ≤ ps.length → (bhs f (ps.take j)).2.length ≤ j
  | 0, _ => by simp [bhs]
  | j + 1, h => by
    have ih := bhs_len f ps j (by omega)
    rw [bhs_take f ps j h]
    unfold stepB
    show (if _ then _ else _ : List Int).length ≤ _
    split
    · omega
    · simp; omega
end Go.Proofs.YthnalicohdmlfaaDoor
