/- Part of the proofs of the three laws on reassembly: what impl.Reassemble returns, whatever queue stands behind it; conditions: as each theorem states. -/
import Derived.Test.YtmniikihkpikdaaDoorM16
namespace Go.Proofs.YtmniikihkpikdaaDoor
open Go.RowKit
set_option linter.unusedVariables false

/-- A copy of a row, onto nil. -/
theorem wpList_copied {P : Program} (w : World) {ops : Array Oper} {rest : List Oper} {o : Oper} {a : Act} {Q : Exit → Act → World → Prop} (hgd : o.guard = none) (s x : Operand) (t : TypeId)
    (ho : o.op = .call { callee := .builtin .append, args := #[s, x], argTypes := #[t, t] })
    (e : TypeId) (i : TypeInfo) (z : Value) (bytes : Nat) (ht : P.underlying t = some (.slice e)) (hi : P.info? e = some i) (hz : i.zero = some z)
    (hsize : i.size = 1) (hby : i.bytes = bytes) (hzs : z.cells.size = 1) (hs : a.eval s = .slice none 0 0)
    (B : Nat) (ao : Option Addr) (n c : Nat) (f : Nat → Value) (hx : a.eval x = .slice ao n c) (hl : RowAt B w ao n c 1 f) (h1 : ∀ k, (f k).oneCell' = true) (hn : n ≤ 2147483647) (hb : bytes ≤ 8)
    (h : ∀ ao' c' w', RowAt w.heap.size w' ao' n c' 1 f → Below w.heap.size w w' → wpList P ops Q rest (a.put o.dst (.slice ao' n c')) w') : wpList P ops Q (o :: rest) a w := by
  rcases hl with ⟨rfl, rfl, rfl⟩ | ⟨g, rfl, hb1, hg, hc, hk⟩
  · refine wpList_plain hgd fun K hK => ?_
    have hr := run_append_owned_none (P := P) (w := w) 0 t o.type e i 1 ht hi (.slice none 0 0) 0 [] (World.ownsRow_nil w 0 e 1)
    unfold Oper.wp execOp
    simp only [ho, resolve, invoke, builtin, Sem.run_bind, Sem.run_pure, Result.andThen_ok, List.map_toArray, List.map_cons, List.map_nil, hs, hx, hr]
    exact hK _ _ (h none 0 w (.inl ⟨rfl, rfl, rfl⟩) (Below.refl _ _))
  · refine wpList_append_own w hgd s x t ho w.heap.size e i z 1 bytes ht hi hz hsize hby hzs (by decide) (.slice none 0 0) 0 [] hs (World.ownsRow_nil w _ e 1) ⟨g, 0, none⟩ n c ((List.range (n * 1)).map f) hx (by simp) (RowAt.news (B := B) (c := c) (.inr ⟨g, rfl, hb1, hg, hc, hk⟩)) (fun u hu => ?_) (by unfold maxLen; omega) ?_ (Nat.le_refl _) ?_
    · obtain ⟨k, _, rfl⟩ := List.mem_map.1 hu; exact h1 k
    · have := Nat.mul_le_mul (show 0 + n ≤ 2147483647 by omega) hb; omega
    · intro v' w' hown hg _
      have hown' : w'.ownsRow w.heap.size e 1 v' n ((List.range (n * 1)).map f) := by simpa using hown
      obtain ⟨ao', c', rfl, hr⟩ := RowAt.of_owns hown'
      exact h ao' c' w' hr ((Below.refl _ w).grown hg (Nat.le_refl _) (fun k hk => by cases hk))

/-- An append of one record, laid into a block of its own. -/
theorem wpList_append_rec {P : Program} {w : World} {ops : Array Oper} {rest : List Oper} {o : Oper} {a : Act} {Q : Exit → Act → World → Prop} (hgd : o.guard = none) (s x : Operand) (t : TypeId)
    (ho : o.op = .call { callee := .builtin .append, args := #[s, x], argTypes := #[t, t] })
    (B : Nat) (e : TypeId) (i : TypeInfo) (z : Value) (size bytes : Nat) (ht : P.underlying t = some (.slice e)) (hi : P.info? e = some i) (hz : i.zero = some z)
    (hsize : i.size = size) (hby : i.bytes = bytes) (hzs : z.cells.size = size) (hsz : 0 < size)
    (v : Value) (n : Nat) (xs : List Value) (us : Array Value) (hs : a.eval s = v) (hown : w.ownsRow B e size v n xs) (hx : a.eval x = .slice (some ⟨w.heap.size, 0, none⟩) 1 1) (hul : us.size = size) (h1 : ∀ u ∈ us.toList, u.oneCell' = true)
    (hn : n ≤ 1000000) (hb : bytes ≤ 100) (hB : B ≤ w.heap.size)
    (h : ∀ g cap w', w'.ownsRow B e size (.slice (some ⟨g, 0, none⟩) (n + 1) cap) (n + 1) (xs ++ us.toList) → Mod (fun k => v.ownBlock = some k) w w' → wpList P ops Q rest (a.put o.dst (.slice (some ⟨g, 0, none⟩) (n + 1) cap)) w') :
    wpList P ops Q (o :: rest) a (w.alloc (.cells us e)) := by
  refine wpList_append_own_at _ hgd s x t ho B e i z size bytes ht hi hz hsize hby hzs hsz v n xs hs (hown.alloc _) ⟨w.heap.size, 0, none⟩ 1 1 us.toList hx (by simp [hul]) (World.news_of_block (heap_new w _)) h1 (by unfold maxLen; omega) ?_ (by simp; omega) ?_
  · have := Nat.mul_le_mul (show n + 1 ≤ 1000001 by omega) hb; omega
  · intro v' w3 hown' hgrow _ hat
    have hM : Mod (fun k => v.ownBlock = some k) w w3 := ((Mod.refl (fun k => v.ownBlock = some k) w).alloc _).trans ⟨hgrow.os, hgrow.tape, hgrow.output, hgrow.size, fun k hk hS => hgrow.block k hk (fun e => hS e.symm)⟩
    rcases hown'.2 with ⟨_, h0⟩ | ⟨g, cap, cur, rfl, _⟩
    · omega
    · exact h g cap w3 hown' hM

def dval (f si : Int) (l : List Dk) (k : Nat) : Value := (dCells f si (l.getD (k / 9) default)).getD (k % 9) undef
theorem dval_at (f si : Int) (l : List Dk) (i j : Nat) (hj : j < 9) : dval f si l (i * 9 + j) = (dCells f si (l.getD i default)).getD j undef := by
  unfold dval
  rw [show (i * 9 + j) / 9 = i by omega, show (i * 9 + j) % 9 = j by omega]
theorem flat_at {α : Type} (F : α → Array Value) (hF : ∀ x, (F x).size = 9) (d : α) : ∀ (l : List α) (k : Nat), k < l.length * 9 → (l.flatMap fun x => (F x).toList)[k]? = some ((F (l.getD (k / 9) d)).getD (k % 9) undef)
  | [], k, h => by simp at h
  | x :: l, k, h => by
    rw [List.flatMap_cons]
    by_cases hk : k < 9
    · rw [List.getElem?_append_left (by simp [hF, hk]), Array.getElem?_toList, Nat.div_eq_of_lt hk, Nat.mod_eq_of_lt hk]
      have : k < (F x).size := by rw [hF]; exact hk
      simp [Array.getD, this]
    · rw [List.getElem?_append_right (by simp [hF]; omega)]
      have := flat_at F hF d l (k - 9) (by simp at h; omega)
      rw [Array.length_toList, hF, this]
      have e1 : k / 9 = (k - 9) / 9 + 1 := by omega
      have e2 : k % 9 = (k - 9) % 9 := by omega
      rw [e1, e2]
      simp
/-- Rows of records, read off a row that is owned. -/
theorem row_of_own9 {α : Type} {w : World} {B e n : Nat} {v : Value} {l : List α} (F : α → Array Value) (hF : ∀ x, (F x).size = 9) (d : α) (hl : l.length = n) (h : w.ownsRow B e 9 v n (l.flatMap fun x => (F x).toList)) :
    ∃ ao c, v = .slice ao n c ∧ RowAt B w ao n c 9 (fun k => (F (l.getD (k / 9) d)).getD (k % 9) undef) := by
  have he : (l.flatMap fun x => (F x).toList) = (List.range (n * 9)).map fun k => (F (l.getD (k / 9) d)).getD (k % 9) undef := by
    apply List.ext_getElem?
    intro k
    by_cases hk : k < n * 9
    · rw [flat_at F hF d l k (by rw [hl]; exact hk), List.getElem?_map, List.getElem?_range hk]; rfl
    · have hlen : (l.flatMap fun x => (F x).toList).length = n * 9 := by simpa using h.1
      rw [List.getElem?_eq_none (by omega), List.getElem?_eq_none (by simp; omega)]
  rw [he] at h
  exact RowAt.of_owns h
/-- What impl.Reassemble hands back. -/
def ReBack (w : World) (N : Nat) (res : Nat → Res) (e : Ending) (w' : World) : Prop :=
  ∃ v1 v2 vals, e = .returned (.tuple #[v1, v2, .bool true]) ∧ w'.ownsRow w.heap.size 29 1 v1 N vals ∧ w'.ownsRow w.heap.size 3 1 v2 N ((List.range N).map fun k => .int .i64 (res k).pr) ∧ (∀ k x, vals[k]? = some x → OutAt w.heap.size w' x (res k)) ∧ Below w.heap.size w w'
end Go.Proofs.YtmniikihkpikdaaDoor
