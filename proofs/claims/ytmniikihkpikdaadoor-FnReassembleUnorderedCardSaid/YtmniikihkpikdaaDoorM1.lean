/- Part of the proofs of the three laws on reassembly: small lemmas on memory (which old blocks may have changed), on rows behind slices, and on append; conditions: as each theorem states. -/
import Derived.Test.YtmniikihkpikdaaDoorProg
import Derived.WalkKit
import Derived.BigQuiet
import Derived.Deep.QuietTactic
import Derived.Lib.Hide
import Derived.StillTailTactics
import Derived.WalkSpells
import Derived.WalkLawsBesides
import Derived.Deep.RegionWith
import Derived.Deep.DeepCutAuto
import Derived.WalkSmall
import Derived.Deep.RegionHeld3
import Derived.Deep.AppendLies
import Derived.Deep.RegionLaw
import Derived.Deep.Onto
import Derived.Maps.AppendAt
import Derived.Maps.OwnOps
import Derived.Maps.Views
namespace Go.Proofs.YtmniikihkpikdaaDoor
open Go.RowKit
set_option linter.unusedVariables false

theorem lt_of_cell {w : World} {a : Addr} {v : Value} (h : w.cell? a = some v) : a.block < w.heap.size := by
  unfold World.cell? at h
  cases hb : w.heap[a.block]? with
  | none => rw [hb] at h; cases h
  | some o => exact (Array.getElem?_eq_some_iff.1 hb).1
/-- Which old blocks may have changed: those of S alone. -/
structure Mod (S : Nat → Prop) (w w' : World) : Prop where
  os : w'.os = w.os
  tape : w'.tape = w.tape
  output : w'.output = w.output
  size : w.heap.size ≤ w'.heap.size
  block : ∀ k, k < w.heap.size → ¬ S k → w'.heap[k]? = w.heap[k]?
theorem Mod.refl (S : Nat → Prop) (w : World) : Mod S w w := ⟨rfl, rfl, rfl, Nat.le_refl _, fun _ _ _ => rfl⟩
theorem Mod.trans {S : Nat → Prop} {a b c : World} (h : Mod S a b) (k : Mod S b c) : Mod S a c :=
  ⟨k.os.trans h.os, k.tape.trans h.tape, k.output.trans h.output, Nat.le_trans h.size k.size,
    fun n hn hS => (k.block n (Nat.lt_of_lt_of_le hn h.size) hS).trans (h.block n hn hS)⟩
theorem Mod.below {S : Nat → Prop} {B : Nat} {w w' : World} (h : Mod S w w') (hB : B ≤ w.heap.size) (hS : ∀ k, S k → B ≤ k) : Below B w w' :=
  ⟨h.os, h.tape, h.output, h.size, fun k hk => h.block k (Nat.lt_of_lt_of_le hk hB) (fun hs => by have := hS k hs; omega)⟩
theorem Mod.of_below {S : Nat → Prop} {w w' : World} (h : Below w.heap.size w w') : Mod S w w' :=
  ⟨h.os, h.tape, h.output, h.size, fun k hk _ => h.block k hk⟩
theorem Mod.of_below' {S : Nat → Prop} {B : Nat} {w w' : World} (h : Below B w w') (hB : w.heap.size ≤ B) : Mod S w w' :=
  ⟨h.os, h.tape, h.output, h.size, fun k hk _ => h.block k (by omega)⟩
theorem Mod.drew {S : Nat → Prop} {a w : World} (h : Mod S a w) : Mod S a w.drew := ⟨h.os, h.tape, h.output, h.size, h.block⟩
theorem Mod.drewN {S : Nat → Prop} {a w : World} (h : Mod S a w) (n : Nat) : Mod S a (w.drewN n) := ⟨h.os, h.tape, h.output, h.size, h.block⟩
theorem Mod.alloc {S : Nat → Prop} {a w : World} (h : Mod S a w) (o : Obj) : Mod S a (w.alloc o) :=
  h.trans ⟨rfl, rfl, rfl, by simp, fun k hk _ => Below.heap_alloc w o k hk⟩
theorem Mod.setCell {S : Nat → Prop} {a w : World} (h : Mod S a w) {p : Addr} (hp : a.heap.size ≤ p.block ∨ S p.block) (u : Value) : Mod S a (w.setCell p u) := by
  refine ⟨h.os, h.tape, h.output, ?_, fun k hk hS => ?_⟩
  · show a.heap.size ≤ (w.setCell p u).heap.size
    simpa [World.setCell] using h.size
  · rw [Below.heap_setCell w p u k (by rintro rfl; rcases hp with hp | hp; exact absurd hk (by omega); exact hS hp)]
    exact h.block k hk hS
theorem Mod.set1 {q i : Nat} {a w : World} (h : Mod (· = q) a w) (u : Value) : Mod (· = q) a (w.setCell ⟨q, i, none⟩ u) := h.setCell (Or.inr (show q = q from rfl)) u
theorem Mod.mono {S T : Nat → Prop} {w w' : World} (h : Mod S w w') (hST : ∀ k, S k → T k) : Mod T w w' :=
  ⟨h.os, h.tape, h.output, h.size, fun k hk hn => h.block k hk (fun hs => hn (hST k hs))⟩
theorem Mod.cell {S : Nat → Prop} {w w' : World} (h : Mod S w w') {p : Addr} (hp : p.block < w.heap.size) (hS : ¬ S p.block) : w'.cell? p = w.cell? p :=
  World.cell?_of_block (w := w) (h.block p.block hp hS)
theorem heap_setCell_same {w : World} {q i : Nat} {cs : Array Value} {T : TypeId} {fr : Nat × Nat} (h : w.heap[q]? = some (.cells cs T fr)) (v : Value) :
    (w.setCell ⟨q, i, none⟩ v).heap[q]? = some (.cells (cs.setIfInBounds i v) T fr) := by
  simp [World.setCell, Array.getElem?_modify, h]
theorem heap_setCell_other {w : World} {p : Addr} {k : Nat} (h : k ≠ p.block) (v : Value) : (w.setCell p v).heap[k]? = w.heap[k]? :=
  Below.heap_setCell w p v k h
theorem cell_of_block {w : World} {q i : Nat} {cs : Array Value} {T : TypeId} {fr : Nat × Nat} (h : w.heap[q]? = some (.cells cs T fr)) : w.cell? ⟨q, i, none⟩ = cs[i]? := by
  simp [World.cell?, h]
theorem frozen_of_block {w : World} {q i : Nat} {cs : Array Value} {T : TypeId} (h : w.heap[q]? = some (.cells cs T (0, 0))) : w.frozen? ⟨q, i, none⟩ = false := by
  simp [World.frozen?, h]
theorem wraps_i64 (n : Int) (h₀ : 0 ≤ n) (h₁ : n < 2 ^ 62) : IntKind.i64.wrap n = n := by
  rw [IntKind.wrap_i64]; omega
theorem heap_new (w : World) (o : Obj) : (w.alloc o).heap[w.heap.size]? = some o := heap_alloc_new w o
theorem cell_set_ne {w : World} {q i j : Nat} {v : Value} (h : w.cell? ⟨q, i, none⟩ = some v) (hij : i ≠ j) (x : Value) : (w.setCell ⟨q, j, none⟩ x).cell? ⟨q, i, none⟩ = some v := by
  unfold World.cell? at h ⊢
  simp only at h ⊢
  cases hb : w.heap[q]? with
  | none => rw [hb] at h; cases h
  | some o =>
    rw [hb] at h
    cases o <;> simp only at h <;> first | cases h | skip
    rename_i cs T fr
    rw [heap_setCell_same hb]
    simpa [Array.getElem?_setIfInBounds, Ne.symm hij] using h
theorem cell_set_blk {w : World} {g i s j : Nat} {v : Value} (h : w.cell? ⟨g, i, none⟩ = some v) (hne : g ≠ s) (x : Value) : (w.setCell ⟨s, j, none⟩ x).cell? ⟨g, i, none⟩ = some v := by
  rw [← h]; exact World.cell?_of_block (heap_setCell_other (p := ⟨s, j, none⟩) hne x)
theorem cell_drew {w : World} {a : Addr} {v : Value} (h : w.cell? a = some v) : w.drew.cell? a = some v := h
theorem cell_alloc {w : World} {p : Addr} {v : Value} (h : w.cell? p = some v) (o : Obj) : (w.alloc o).cell? p = some v := by
  have hp : p.block < w.heap.size := lt_of_cell h
  exact (((Below.refl w.heap.size w).alloc (Nat.le_refl _) o).cell (p := p) hp).trans h
theorem frozen_alloc {w : World} {p : Addr} (hp : p.block < w.heap.size) (o : Obj) : (w.alloc o).frozen? p = w.frozen? p :=
  ((Below.refl w.heap.size w).alloc (Nat.le_refl _) o).frozen (p := p) hp
/-- A row of values behind a slice. -/
def RowAt (B : Nat) (w : World) (ao : Option Addr) (n c size : Nat) (f : Nat → Value) : Prop :=
  (ao = none ∧ n = 0 ∧ c = 0) ∨ ∃ g, ao = some ⟨g, 0, none⟩ ∧ B ≤ g ∧ g < w.heap.size ∧ n ≤ c ∧ ∀ k, k < n * size → w.cell? ⟨g, k, none⟩ = some (f k)
theorem RowAt.mod {S : Nat → Prop} {B : Nat} {w w' : World} {ao : Option Addr} {n c size : Nat} {f : Nat → Value} (h : RowAt B w ao n c size f) (hM : Mod S w w') (hS : ∀ k, S k → k < B ∨ w.heap.size ≤ k) : RowAt B w' ao n c size f := by
  rcases h with h | ⟨g, rfl, hb, hg, hc, hk⟩
  · exact .inl h
  · refine .inr ⟨g, rfl, hb, Nat.lt_of_lt_of_le hg hM.size, hc, fun k hkn => ?_⟩
    rw [hM.cell hg (fun e => by have := hS g e; omega)]
    exact hk k hkn
theorem RowAt.mono {B C : Nat} {w : World} {ao : Option Addr} {n c size : Nat} {f : Nat → Value} (h : RowAt B w ao n c size f) (hC : C ≤ B) : RowAt C w ao n c size f := by
  rcases h with h | ⟨g, rfl, hb, hr⟩
  · exact .inl h
  · exact .inr ⟨g, rfl, Nat.le_trans hC hb, hr⟩
theorem range_map_getElem {f : Nat → Value} {n k : Nat} (h : k < n) : ((List.range n).map f)[k]? = some (f k) := by simp [h]
theorem RowAt.of_owns {B : Nat} {w : World} {e : TypeId} {size n : Nat} {v : Value} {f : Nat → Value} (h : w.ownsRow B e size v n ((List.range (n * size)).map f)) : ∃ ao c, v = .slice ao n c ∧ RowAt B w ao n c size f := by
  rcases h.2 with ⟨rfl, rfl⟩ | ⟨g, cap, cur, rfl, hb, hg, hc, _⟩
  · exact ⟨none, 0, rfl, .inl ⟨rfl, rfl, rfl⟩⟩
  · refine ⟨_, cap, rfl, .inr ⟨g, rfl, hb, (Array.getElem?_eq_some_iff.1 hg).1, hc, fun k hk => ?_⟩⟩
    have := h.cells (g := g) rfl k (f k) (range_map_getElem hk)
    rwa [show (⟨g, 0, none⟩ : Addr).add k = ⟨g, k, none⟩ from by unfold Addr.add; split <;> simp_all] at this
theorem range_two (f : Nat → Value) (j : Nat) : (List.range ((j + 1) * 2)).map f = (List.range (j * 2)).map f ++ [f (j * 2), f (j * 2 + 1)] := by
  rw [show (j + 1) * 2 = j * 2 + 1 + 1 by omega, List.range_succ, List.range_succ]
  simp
theorem range_one (f : Nat → Value) (j : Nat) : (List.range ((j + 1) * 1)).map f = (List.range (j * 1)).map f ++ [f j] := by
  simp [List.range_succ]
theorem two_cells {w : World} {e : TypeId} {g : Nat} (x y : Value) (hg : g = w.heap.size) : ∀ j u, [x, y][j]? = some u → (w.alloc (.cells #[x, y] e)).cell? ((⟨g, 0, none⟩ : Addr).add j) = some u := by
  intro j u hu
  subst hg
  rw [show (⟨w.heap.size, 0, none⟩ : Addr).add j = ⟨w.heap.size, j, none⟩ from by unfold Addr.add; split <;> simp_all, cell_of_block (heap_new w (.cells #[x, y] e))]
  simpa using hu
/-- An append at a step of a region that draws its order, whatever is appended. -/
theorem step_append_any {P : Program} (w : World) {ops : Array Oper} {o : Oper} {a : Act} {K : Act → World → Prop} {Q : Exit → Act → World → Prop} {E : Prop} (hgd : o.guard = none) (s x : Operand) (t : TypeId)
    (ho : o.op = .call { callee := .builtin .append, args := #[s, x], argTypes := #[t, t] })
    (base : Nat) (e : TypeId) (i : TypeInfo) (z : Value) (size bytes : Nat) (ht : P.underlying t = some (.slice e)) (hi : P.info? e = some i) (hz : i.zero = some z)
    (hsize : i.size = size) (hby : i.bytes = bytes) (hzs : z.cells.size = size) (hsz : 0 < size)
    (v : Value) (n : Nat) (xs : List Value) (hs : a.eval s = v) (hown : w.ownsRow base e size v n xs)
    (ad : Addr) (m c : Nat) (news : List Value) (hx : a.eval x = .slice (some ad) m c) (hl : news.length = m * size) (hnews : ∀ j u, news[j]? = some u → w.cell? (ad.add j) = some u) (h1 : ∀ u ∈ news, u.oneCell' = true)
    (h63 : n + m ≤ maxLen) (hbytes : (n + m) * bytes ≤ 140737488355328) (hbase : base ≤ w.heap.size)
    (h : ∀ ao cap w', w'.ownsRow base e size (.slice ao (n + m) cap) (n + m) (xs ++ news) → w.grownBy w' v.ownBlock → ((Value.slice ao (n + m) cap).ownBlock = v.ownBlock ∨ (Value.slice ao (n + m) cap).ownBlock = some w.heap.size) → K (a.put o.dst (.slice ao (n + m) cap)) w') :
    if Region.wanted o (yielded ops a.tmps) = true then Oper.wp P o a w K Q else E := by
  have hw : Region.wanted o (yielded ops a.tmps) = true := by simp [Region.wanted, hgd]
  rw [if_pos hw]
  obtain ⟨v', w', hr, h2, h3, _, h5⟩ := run_append_own_at (P := P) w base t o.type e i z size bytes ht hi hz hsize hby hzs hsz v n xs hown ad m c news hl hnews h1 h63 hbytes hbase
  unfold Oper.wp execOp
  simp only [ho, resolve, invoke, builtin, Sem.run_bind, Sem.run_pure, Result.andThen_ok, List.map_toArray, List.map_cons, List.map_nil, hs, hx, hr]
  obtain ⟨ao, cap, rfl⟩ : ∃ ao cap, v' = .slice ao (n + m) cap := by
    rcases h2.2 with ⟨e, h0⟩ | ⟨g, cap, _, e, _⟩
    · exact ⟨none, 0, by rw [h0]; exact e⟩
    · exact ⟨_, cap, e⟩
  exact h ao cap w' h2 h3 h5
theorem RowAt.news {B : Nat} {w : World} {g n c size : Nat} {f : Nat → Value} (h : RowAt B w (some ⟨g, 0, none⟩) n c size f) : ∀ j u, ((List.range (n * size)).map f)[j]? = some u → w.cell? ((⟨g, 0, none⟩ : Addr).add j) = some u := by
  intro j u hu
  have hj : j < n * size := by have := (List.getElem?_eq_some_iff.1 hu).1; simpa using this
  rw [range_map_getElem hj] at hu
  rcases h with ⟨h, _⟩ | ⟨g', e, _, _, _, hk⟩
  · cases h
  · obtain rfl : g = g' := by simpa using e
    rw [show (⟨g, 0, none⟩ : Addr).add j = ⟨g, j, none⟩ from by unfold Addr.add; split <;> simp_all, hk j hj]
    exact hu
theorem Mod.of_grown {w w' : World} (h : w.grownBy w' none) : Mod (fun _ => False) w w' := ⟨h.os, h.tape, h.output, h.size, fun k hk _ => h.block k hk (by simp)⟩
theorem owned_mod {B : Nat} {w w' : World} {e : TypeId} {size n : Nat} {v : Value} {xs : List Value} (h : w.ownsRow B e size v n xs) (hM : Mod (fun _ => False) w w') : w'.ownsRow B e size v n xs := by
  refine ⟨h.1, ?_⟩
  rcases h.2 with hn | ⟨g, cap, cur, rfl, hb, hg, hr⟩
  · exact .inl hn
  · exact .inr ⟨g, cap, cur, rfl, hb, (hM.block g (Array.getElem?_eq_some_iff.1 hg).1 (fun h => h)).trans hg, hr⟩
theorem grown_cell {w w3 : World} {B e size n : Nat} {v u : Value} {xs : List Value} {p : Addr} (hown : w.ownsRow B e size v n xs) (hp : p.block < B) (hc : w.cell? p = some u) (hg : w.grownBy w3 v.ownBlock) : w3.cell? p = some u :=
  (hg.cell_far p (lt_of_cell hc) (fun e => by have := (hown.lt _ e.symm).1; omega)).trans hc
theorem grown_frozen {w w3 : World} {B e size n : Nat} {v u : Value} {xs : List Value} {p : Addr} (hown : w.ownsRow B e size v n xs) (hp : p.block < B) (hc : w.cell? p = some u) (hf : w.frozen? p = false) (hg : w.grownBy w3 v.ownBlock) : w3.frozen? p = false :=
  (hg.frozen_far p (lt_of_cell hc) (fun e => by have := (hown.lt _ e.symm).1; omega)).trans hf
theorem own_set {B e size n g i : Nat} {w : World} {v vn : Value} {xs : List Value} (h : w.ownsRow B e size v n xs) (hg : g < B) : (w.setCell ⟨g, i, none⟩ vn).ownsRow B e size v n xs := by
  refine ⟨h.1, ?_⟩
  rcases h.2 with hn | ⟨g', cap, cur, rfl, hb, hh, hr⟩
  · exact .inl hn
  · exact .inr ⟨g', cap, cur, rfl, hb, (heap_setCell_other (show g' ≠ g by omega) _).trans hh, hr⟩
/-- The memory is as it was: only the tape was asked. -/
def Same (w w' : World) : Prop := w'.heap = w.heap ∧ w'.os = w.os ∧ w'.tape = w.tape ∧ w'.output = w.output
theorem Same.cell {w w' : World} (h : Same w w') (p : Addr) : w'.cell? p = w.cell? p := World.cell?_of_block (by rw [h.1])
theorem Same.drewN {w w' : World} (h : Same w w') (n : Nat) : Same w (w'.drewN n) := h
theorem Same.below {w w' : World} {B : Nat} {a : World} (h : Same w w') (hb : Below B a w) (hB : B ≤ w.heap.size) : Below B a w' :=
  hb.trans ((show Mod (fun _ => False) w w' from ⟨h.2.1, h.2.2.1, h.2.2.2, by rw [h.1]; exact Nat.le_refl _, fun _ _ _ => by rw [h.1]⟩).below hB (fun _ h => h.elim))
theorem RowAt.at {B : Nat} {w : World} {ao : Option Addr} {n c size : Nat} {f : Nat → Value} (h : RowAt B w ao n c size f) (hn : 0 < n) : ∃ g, ao = some ⟨g, 0, none⟩ ∧ n ≤ c ∧ ∀ k, k < n * size → w.cell? ⟨g, k, none⟩ = some (f k) := by
  rcases h with ⟨_, h, _⟩ | ⟨g, rfl, _, _, hc, hk⟩
  · omega
  · exact ⟨g, rfl, hc, hk⟩
theorem Mod.fresh {S T : Nat → Prop} {a b c : World} (h : Mod S a b) (k : Mod T b c) (hT : ∀ i, T i → a.heap.size ≤ i) : Mod S a c :=
  ⟨k.os.trans h.os, k.tape.trans h.tape, k.output.trans h.output, Nat.le_trans h.size k.size, fun i hi hS => (k.block i (Nat.lt_of_lt_of_le hi h.size) (fun t => by have := hT i t; omega)).trans (h.block i hi hS)⟩
theorem Mod.grown {S : Nat → Prop} {a b c : World} {row : Option Nat} (h : Mod S a b) (k : b.grownBy c row) (hr : ∀ i, row = some i → a.heap.size ≤ i) : Mod S a c :=
  ⟨k.os.trans h.os, k.tape.trans h.tape, k.output.trans h.output, Nat.le_trans h.size k.size, fun i hi hS => (k.block i (Nat.lt_of_lt_of_le hi h.size) (fun t => by have := hr i t.symm; omega)).trans (h.block i hi hS)⟩
theorem owned_modS {S : Nat → Prop} {B : Nat} {w w' : World} {e : TypeId} {size n : Nat} {v : Value} {xs : List Value} (h : w.ownsRow B e size v n xs) (hM : Mod S w w') (hS : ∀ g, v.ownBlock = some g → ¬ S g) : w'.ownsRow B e size v n xs := by
  refine ⟨h.1, ?_⟩
  rcases h.2 with hn | ⟨g, cap, cur, rfl, hb, hg, hr⟩
  · exact .inl hn
  · exact .inr ⟨g, cap, cur, rfl, hb, (hM.block g (Array.getElem?_eq_some_iff.1 hg).1 (hS g rfl)).trans hg, hr⟩
/-- An append in a plain region, the new value in the form of a slice. -/
theorem wpList_append_any {P : Program} (w : World) {ops : Array Oper} {rest : List Oper} {o : Oper} {a : Act} {Q : Exit → Act → World → Prop} (hgd : o.guard = none) (s x : Operand) (t : TypeId)
    (ho : o.op = .call { callee := .builtin .append, args := #[s, x], argTypes := #[t, t] })
    (base : Nat) (e : TypeId) (i : TypeInfo) (z : Value) (size bytes : Nat) (ht : P.underlying t = some (.slice e)) (hi : P.info? e = some i) (hz : i.zero = some z)
    (hsize : i.size = size) (hby : i.bytes = bytes) (hzs : z.cells.size = size) (hsz : 0 < size)
    (v : Value) (n : Nat) (xs : List Value) (hs : a.eval s = v) (hown : w.ownsRow base e size v n xs)
    (ad : Addr) (m c : Nat) (news : List Value) (hx : a.eval x = .slice (some ad) m c) (hl : news.length = m * size) (hnews : ∀ j u, news[j]? = some u → w.cell? (ad.add j) = some u) (h1 : ∀ u ∈ news, u.oneCell' = true)
    (h63 : n + m ≤ maxLen) (hbytes : (n + m) * bytes ≤ 140737488355328) (hbase : base ≤ w.heap.size)
    (h : ∀ ao cap w', w'.ownsRow base e size (.slice ao (n + m) cap) (n + m) (xs ++ news) → w.grownBy w' v.ownBlock → wpList P ops Q rest (a.put o.dst (.slice ao (n + m) cap)) w') : wpList P ops Q (o :: rest) a w :=
  wpList_append_own w hgd s x t ho base e i z size bytes ht hi hz hsize hby hzs hsz v n xs hs hown ad m c news hx hl hnews h1 h63 hbytes hbase fun v' w' h2 h3 _ => by
    obtain ⟨ao, cap, rfl⟩ : ∃ ao cap, v' = .slice ao (n + m) cap := by
      rcases h2.2 with ⟨e, h0⟩ | ⟨g, cap, _, e, _⟩
      · exact ⟨none, 0, by rw [h0]; exact e⟩
      · exact ⟨_, cap, e⟩
    exact h ao cap w' h2 h3
/-- A slice value that reads as these bytes. -/
structure BytesAt (w : World) (ao : Option Addr) (n c : Nat) (l : List Int) : Prop where
  len : l.length = n
  cap : n ≤ c
  nil : ao = none → n = 0
  cell : ∀ a, ao = some a → ∀ i, i < n → w.cell? (a.add i) = some (.int .u8 (l.getD i 0))
  byte : ∀ i, 0 ≤ l.getD i 0 ∧ l.getD i 0 < 256

theorem BytesAt.open {w : World} {ao : Option Addr} {n c : Nat} {l : List Int} (h : BytesAt w ao n c l) (hn : 0 < n) :
    ∃ b off, ao = some ⟨b, off, none⟩ ∧ b < w.heap.size ∧ ∀ i, i < n → w.cell? ⟨b, off + i, none⟩ = some (.int .u8 (l.getD i 0)) := by
  cases ao with
  | none => exact absurd (h.nil rfl) (by omega)
  | some a =>
    obtain ⟨b, off, sp⟩ := a
    have h0 := h.cell _ rfl 0 hn
    have hsp : sp = none := by
      cases sp with
      | none => rfl
      | some s => simp [Addr.add, World.cell?] at h0; split at h0 <;> simp at h0
    subst hsp
    refine ⟨b, off, rfl, lt_of_cell h0, fun i hi => ?_⟩
    have := h.cell _ rfl i hi
    rwa [show (⟨b, off, none⟩ : Addr).add i = ⟨b, off + i, none⟩ from by unfold Addr.add; split <;> simp_all] at this

theorem BytesAt.mod {S : Nat → Prop} {w w' : World} {ao : Option Addr} {n c : Nat} {l : List Int} (h : BytesAt w ao n c l) (hM : Mod S w w') (hS : ∀ a, ao = some a → ¬ S a.block) : BytesAt w' ao n c l := by
  refine ⟨h.len, h.cap, h.nil, fun a ha i hi => ?_, h.byte⟩
  have := h.cell a ha i hi
  rw [← this]
  have hb : (a.add i).block = a.block := by unfold Addr.add; split <;> rfl
  exact hM.cell (lt_of_cell this) (by rw [hb]; exact hS a ha)

/-- A slice value that reads as these numbers. -/
structure IntsAt (w : World) (ao : Option Addr) (n c : Nat) (l : List Int) : Prop where
  len : l.length = n
  cap : n ≤ c
  nil : ao = none → n = 0
  cell : ∀ a, ao = some a → ∀ i, i < n → w.cell? (a.add i) = some (.int .i64 (l.getD i 0))
theorem IntsAt.open {w : World} {ao : Option Addr} {n c : Nat} {l : List Int} (h : IntsAt w ao n c l) (hn : 0 < n) :
    ∃ b off, ao = some ⟨b, off, none⟩ ∧ n ≤ c ∧ ∀ i, i < n → w.cell? ⟨b, off + i, none⟩ = some (.int .i64 (l.getD i 0)) := by
  cases ao with
  | none => exact absurd (h.nil rfl) (by omega)
  | some a =>
    obtain ⟨b, off, sp⟩ := a
    have h0 := h.cell _ rfl 0 hn
    have hsp : sp = none := by
      cases sp with
      | none => rfl
      | some s => simp [Addr.add, World.cell?] at h0; split at h0 <;> simp at h0
    subst hsp
    refine ⟨b, off, rfl, h.cap, fun i hi => ?_⟩
    have := h.cell _ rfl i hi
    rwa [show (⟨b, off, none⟩ : Addr).add i = ⟨b, off + i, none⟩ from by unfold Addr.add; split <;> simp_all] at this
theorem IntsAt.mod {S : Nat → Prop} {w w' : World} {ao : Option Addr} {n c : Nat} {l : List Int} (h : IntsAt w ao n c l) (hM : Mod S w w') (hS : ∀ a, ao = some a → ¬ S a.block) : IntsAt w' ao n c l := by
  refine ⟨h.len, h.cap, h.nil, fun a ha i hi => ?_⟩
  have := h.cell a ha i hi
  rw [← this]
  have hb : (a.add i).block = a.block := by unfold Addr.add; split <;> rfl
  exact hM.cell (lt_of_cell this) (by rw [hb]; exact hS a ha)

end Go.Proofs.YtmniikihkpikdaaDoor
