/- Part of the proofs of the three laws on reassembly: appends of rows of records, in plain regions and in regions that draw; conditions: as each theorem states. -/
import Derived.Test.YtmniikihkpikdaaDoorM18
namespace Go.Proofs.YtmniikihkpikdaaDoor
open Go.RowKit
set_option linter.unusedVariables false

/-- The law of append onto a row that is owned and is not nil. -/
theorem run_append_blk {P : Program} (w : World) (t ty : TypeId) (B : Nat) (e : TypeId) (i : TypeInfo) (z : Value) (size bytes : Nat) (ht : P.underlying t = some (.slice e)) (hi : P.info? e = some i) (hz : i.zero = some z)
    (hsize : i.size = size) (hby : i.bytes = bytes) (hzs : z.cells.size = size) (hsz : 0 < size)
    (gv n cv : Nat) (xs : List Value) (hown : w.ownsRow B e size (.slice (some ⟨gv, 0, none⟩) n cv) n xs)
    (ad : Addr) (m c : Nat) (news : List Value) (hl : news.length = m * size) (hnews : ∀ j u, news[j]? = some u → w.cell? (ad.add j) = some u) (h1 : ∀ u ∈ news, u.oneCell' = true)
    (h63 : n + m ≤ maxLen) (hbytes : (n + m) * bytes ≤ 140737488355328) (hbase : B ≤ w.heap.size) :
    ∃ g cap w', (Builtin.append_ #[t, t] ty #[.slice (some ⟨gv, 0, none⟩) n cv, .slice (some ad) m c]).run P w = .ok (.slice (some ⟨g, 0, none⟩) (n + m) cap) w' ∧
      w'.ownsRow B e size (.slice (some ⟨g, 0, none⟩) (n + m) cap) (n + m) (xs ++ news) ∧ Mod (· = gv) w w' ∧ (g = gv ∨ g = w.heap.size) := by
  obtain ⟨v', w', hr, h2, h3, _, h5⟩ := run_append_own_at (P := P) w B t ty e i z size bytes ht hi hz hsize hby hzs hsz _ n xs hown ad m c news hl hnews h1 h63 hbytes hbase
  have hM : Mod (· = gv) w w' := ⟨h3.os, h3.tape, h3.output, h3.size, fun k hk hS => h3.block k hk (fun e => hS (by simpa [Value.ownBlock] using e))⟩
  rcases h2.2 with ⟨rfl, h0⟩ | ⟨g, cap, cur, rfl, hr2⟩
  · rcases h5 with h5 | h5 <;> simp [Value.ownBlock] at h5
  · refine ⟨g, cap, w', hr, h2, hM, ?_⟩
    rcases h5 with h5 | h5
    · left; simpa [Value.ownBlock] using h5
    · right; simpa [Value.ownBlock] using h5

theorem wpList_append_blk {P : Program} (w : World) {ops : Array Oper} {rest : List Oper} {o : Oper} {a : Act} {Q : Exit → Act → World → Prop} (hgd : o.guard = none) (s x : Operand) (t : TypeId)
    (ho : o.op = .call { callee := .builtin .append, args := #[s, x], argTypes := #[t, t] })
    (B : Nat) (e : TypeId) (i : TypeInfo) (z : Value) (size bytes : Nat) (ht : P.underlying t = some (.slice e)) (hi : P.info? e = some i) (hz : i.zero = some z)
    (hsize : i.size = size) (hby : i.bytes = bytes) (hzs : z.cells.size = size) (hsz : 0 < size)
    (gv n cv : Nat) (xs : List Value) (hs : a.eval s = .slice (some ⟨gv, 0, none⟩) n cv) (hown : w.ownsRow B e size (.slice (some ⟨gv, 0, none⟩) n cv) n xs)
    (ad : Addr) (m c : Nat) (news : List Value) (hx : a.eval x = .slice (some ad) m c) (hl : news.length = m * size) (hnews : ∀ j u, news[j]? = some u → w.cell? (ad.add j) = some u) (h1 : ∀ u ∈ news, u.oneCell' = true)
    (h63 : n + m ≤ maxLen) (hbytes : (n + m) * bytes ≤ 140737488355328) (hbase : B ≤ w.heap.size)
    (h : ∀ g cap w', w'.ownsRow B e size (.slice (some ⟨g, 0, none⟩) (n + m) cap) (n + m) (xs ++ news) → Mod (· = gv) w w' → (g = gv ∨ g = w.heap.size) → wpList P ops Q rest (a.put o.dst (.slice (some ⟨g, 0, none⟩) (n + m) cap)) w') : wpList P ops Q (o :: rest) a w := by
  obtain ⟨g, cap, w', hr, h2, h3, h4⟩ := run_append_blk (P := P) w t o.type B e i z size bytes ht hi hz hsize hby hzs hsz gv n cv xs hown ad m c news hl hnews h1 h63 hbytes hbase
  refine wpList_plain hgd fun K hK => ?_
  unfold Oper.wp execOp
  simp only [ho, resolve, invoke, builtin, Sem.run_bind, Sem.run_pure, Result.andThen_ok, List.map_toArray, List.map_cons, List.map_nil, hs, hx, hr]
  exact hK _ _ (h g cap w' h2 h3 h4)

theorem step_append_blk {P : Program} {ops : Array Oper} {o : Oper} {a : Act} {w : World} {K : Act → World → Prop} {Q : Exit → Act → World → Prop} {E : Prop} (hgd : o.guard = none) (s x : Operand) (t : TypeId)
    (ho : o.op = .call { callee := .builtin .append, args := #[s, x], argTypes := #[t, t] })
    (B : Nat) (e : TypeId) (i : TypeInfo) (z : Value) (size bytes : Nat) (ht : P.underlying t = some (.slice e)) (hi : P.info? e = some i) (hz : i.zero = some z)
    (hsize : i.size = size) (hby : i.bytes = bytes) (hzs : z.cells.size = size) (hsz : 0 < size)
    (gv n cv : Nat) (xs : List Value) (hs : a.eval s = .slice (some ⟨gv, 0, none⟩) n cv) (hown : w.ownsRow B e size (.slice (some ⟨gv, 0, none⟩) n cv) n xs)
    (ad : Addr) (m c : Nat) (news : List Value) (hx : a.eval x = .slice (some ad) m c) (hl : news.length = m * size) (hnews : ∀ j u, news[j]? = some u → w.cell? (ad.add j) = some u) (h1 : ∀ u ∈ news, u.oneCell' = true)
    (h63 : n + m ≤ maxLen) (hbytes : (n + m) * bytes ≤ 140737488355328) (hbase : B ≤ w.heap.size)
    (h : ∀ g cap w', w'.ownsRow B e size (.slice (some ⟨g, 0, none⟩) (n + m) cap) (n + m) (xs ++ news) → Mod (· = gv) w w' → (g = gv ∨ g = w.heap.size) → K (a.put o.dst (.slice (some ⟨g, 0, none⟩) (n + m) cap)) w') :
    if Region.wanted o (yielded ops a.tmps) = true then Oper.wp P o a w K Q else E := by
  have hw : Region.wanted o (yielded ops a.tmps) = true := by simp [Region.wanted, hgd]
  rw [if_pos hw]
  obtain ⟨g, cap, w', hr, h2, h3, h4⟩ := run_append_blk (P := P) w t o.type B e i z size bytes ht hi hz hsize hby hzs hsz gv n cv xs hown ad m c news hl hnews h1 h63 hbytes hbase
  unfold Oper.wp execOp
  simp only [ho, resolve, invoke, builtin, Sem.run_bind, Sem.run_pure, Result.andThen_ok, List.map_toArray, List.map_cons, List.map_nil, hs, hx, hr]
  exact h g cap w' h2 h3 h4

/-- The cells of records, one behind the other. -/
def recs (f si : Int) (l : List Dk) : List Value := l.flatMap fun d => (dCells f si d).toList
theorem recs_len (f si : Int) (l : List Dk) : (recs f si l).length = l.length * 9 := by
  unfold recs
  induction l with
  | nil => rfl
  | cons a l ih => rw [List.flatMap_cons, List.length_append, ih]; simp [dCells]; omega
theorem recs_append (f si : Int) (a b : List Dk) : recs f si (a ++ b) = recs f si a ++ recs f si b := by unfold recs; rw [List.flatMap_append]
theorem recs_one (f si : Int) (l : List Dk) : ∀ u ∈ recs f si l, u.oneCell' = true := by
  intro u hu
  obtain ⟨d, _, hd⟩ := List.mem_flatMap.1 hu
  simp [dCells] at hd
  rcases hd with rfl | rfl | rfl | rfl | rfl | rfl | rfl | rfl | rfl <;> rfl
theorem recs_at (f si : Int) (l : List Dk) (i j : Nat) (hj : j < 9) (hi : i < l.length) : (recs f si l)[i * 9 + j]? = some ((dCells f si (l.getD i default)).getD j undef) := by
  have := flat_at (dCells f si) (fun _ => rfl) default l (i * 9 + j) (by omega)
  rw [show (i * 9 + j) / 9 = i by omega, show (i * 9 + j) % 9 = j by omega] at this
  exact this
theorem recs_take (f si : Int) (l : List Dk) (k : Nat) (hk : k ≤ l.length) (j : Nat) (u : Value) (h : (recs f si (l.take k))[j]? = some u) : (recs f si l)[j]? = some u := by
  have hl := (List.getElem?_eq_some_iff.1 h).1
  rw [← h]
  have : recs f si l = recs f si (l.take k) ++ recs f si (l.drop k) := by rw [← recs_append, List.take_append_drop]
  rw [this, List.getElem?_append_left hl]
theorem recs_drop (f si : Int) (l : List Dk) (k : Nat) (hk : k ≤ l.length) (j : Nat) (u : Value) (h : (recs f si (l.drop k))[j]? = some u) : (recs f si l)[k * 9 + j]? = some u := by
  rw [← h]
  have : recs f si l = recs f si (l.take k) ++ recs f si (l.drop k) := by rw [← recs_append, List.take_append_drop]
  have hl : (recs f si (l.take k)).length = k * 9 := by rw [recs_len, List.length_take, Nat.min_eq_left hk]
  rw [this, List.getElem?_append_right (by omega), hl, Nat.add_sub_cancel_left]
theorem own_cells {w : World} {B e s n g cap : Nat} {xs : List Value} (h : w.ownsRow B e s (.slice (some ⟨g, 0, none⟩) n cap) n xs) (j : Nat) (u : Value) (hu : xs[j]? = some u) : w.cell? ⟨g, j, none⟩ = some u := by
  have := h.cells (g := g) rfl j u hu
  rwa [show (⟨g, 0, none⟩ : Addr).add j = ⟨g, j, none⟩ from by unfold Addr.add; split <;> simp_all] at this
theorem own_cap {w : World} {B e s n g cap : Nat} {xs : List Value} (h : w.ownsRow B e s (.slice (some ⟨g, 0, none⟩) n cap) n xs) : n ≤ cap ∧ B ≤ g ∧ g < w.heap.size ∧ cap ≤ maxLen := by
  rcases h.2 with ⟨h0, _⟩ | ⟨g', cap', cs, e', hb, hg, hnc, hm, _⟩
  · cases h0
  · obtain ⟨rfl, rfl⟩ : g = g' ∧ cap = cap' := by simpa using e'
    exact ⟨hnc, hb, (Array.getElem?_eq_some_iff.1 hg).1, hm⟩
theorem pick_perm {α : Type} (l : List α) (k : Nat) (h : k < l.length) : (l[k] :: (l.take k ++ l.drop (k + 1))).Perm l := by
  have : l = l.take k ++ (l[k] :: l.drop (k + 1)) := by rw [← List.drop_eq_getElem_cons h, List.take_append_drop]
  exact (List.perm_middle.symm).trans (this ▸ List.Perm.refl _)
end Go.Proofs.YtmniikihkpikdaaDoor
