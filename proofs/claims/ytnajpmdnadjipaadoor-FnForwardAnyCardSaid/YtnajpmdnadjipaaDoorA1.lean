/- Proved here: small lemmas on memory (which old blocks may have changed), on bytes that a slice reads as, and what binary.BigEndian.Uint16 and Uint32 return; conditions: as each theorem states. -/
import Derived.Test.YtnajpmdnadjipaaDoorRows
import Derived.WalkKit
import Derived.WalkSpells
import Derived.WalkLawsBesides
import Derived.Lib.Hide
import Derived.Deep.QuietTactic
import Derived.BigQuiet
import Derived.Lib.EndianBits
import Derived.StillTailTactics
import Derived.Deep.RegionWith
import Derived.Deep.DeepCutAuto
import Derived.WalkSmall
namespace Go.Proofs.YtnajpmdnadjipaaDoor
open Go.RowKit

theorem lt_of_cell {w : World} {a : Addr} {v : Value} (h : w.cell? a = some v) : a.block < w.heap.size := by
  unfold World.cell? at h
  cases hb : w.heap[a.block]? with
  | none => rw [hb] at h; cases h
  | some o => exact (Array.getElem?_eq_some_iff.1 hb).1

/-- Which old blocks may have changed: those of S alone. -/
structure Mod (S : Nat → Prop) (w w' : World) : Prop where
  os : w'.os = w.os
  tape : w'.tape = w.tape
  output : w'.output = w.output
  size : w.heap.size ≤ w'.heap.size
  block : ∀ k, k < w.heap.size → ¬ S k → w'.heap[k]? = w.heap[k]?

theorem Mod.refl (S : Nat → Prop) (w : World) : Mod S w w := ⟨rfl, rfl, rfl, Nat.le_refl _, fun _ _ _ => rfl⟩
theorem Mod.trans {S : Nat → Prop} {a b c : World} (h : Mod S a b) (k : Mod S b c) : Mod S a c :=
  ⟨k.os.trans h.os, k.tape.trans h.tape, k.output.trans h.output, Nat.le_trans h.size k.size,
    fun n hn hS => (k.block n (Nat.lt_of_lt_of_le hn h.size) hS).trans (h.block n hn hS)⟩
theorem Mod.below {S : Nat → Prop} {B : Nat} {w w' : World} (h : Mod S w w') (hB : B ≤ w.heap.size) (hS : ∀ k, S k → B ≤ k) : Below B w w' :=
  ⟨h.os, h.tape, h.output, h.size, fun k hk => h.block k (Nat.lt_of_lt_of_le hk hB) (fun hs => by have := hS k hs; omega)⟩
theorem Mod.of_below {S : Nat → Prop} {w w' : World} (h : Below w.heap.size w w') : Mod S w w' :=
  ⟨h.os, h.tape, h.output, h.size, fun k hk _ => h.block k hk⟩
theorem Mod.of_below' {S : Nat → Prop} {B : Nat} {w w' : World} (h : Below B w w') (hB : w.heap.size ≤ B) : Mod S w w' :=
  ⟨h.os, h.tape, h.output, h.size, fun k hk _ => h.block k (by omega)⟩
theorem Mod.drew {S : Nat → Prop} {a w : World} (h : Mod S a w) : Mod S a w.drew := ⟨h.os, h.tape, h.output, h.size, h.block⟩
theorem Mod.drewN {S : Nat → Prop} {a w : World} (h : Mod S a w) (n : Nat) : Mod S a (w.drewN n) := ⟨h.os, h.tape, h.output, h.size, h.block⟩
theorem Mod.alloc {S : Nat → Prop} {a w : World} (h : Mod S a w) (o : Obj) : Mod S a (w.alloc o) :=
  h.trans ⟨rfl, rfl, rfl, by simp, fun k hk _ => Below.heap_alloc w o k hk⟩
theorem Mod.setCell {S : Nat → Prop} {a w : World} (h : Mod S a w) {p : Addr} (hp : a.heap.size ≤ p.block ∨ S p.block) (u : Value) : Mod S a (w.setCell p u) := by
  refine ⟨h.os, h.tape, h.output, ?_, fun k hk hS => ?_⟩
  · show a.heap.size ≤ (w.setCell p u).heap.size
    simpa [World.setCell] using h.size
  · rw [Below.heap_setCell w p u k (by rintro rfl; rcases hp with hp | hp; exact absurd hk (by omega); exact hS hp)]
    exact h.block k hk hS
theorem Mod.set1 {q i : Nat} {a w : World} (h : Mod (· = q) a w) (u : Value) : Mod (· = q) a (w.setCell ⟨q, i, none⟩ u) := h.setCell (Or.inr (show q = q from rfl)) u
theorem Mod.mono {S T : Nat → Prop} {w w' : World} (h : Mod S w w') (hST : ∀ k, S k → T k) : Mod T w w' :=
  ⟨h.os, h.tape, h.output, h.size, fun k hk hn => h.block k hk (fun hs => hn (hST k hs))⟩
theorem Mod.cell {S : Nat → Prop} {w w' : World} (h : Mod S w w') {p : Addr} (hp : p.block < w.heap.size) (hS : ¬ S p.block) : w'.cell? p = w.cell? p :=
  World.cell?_of_block (w := w) (h.block p.block hp hS)

theorem heap_setCell_same {w : World} {q i : Nat} {cs : Array Value} {T : TypeId} {fr : Nat × Nat} (h : w.heap[q]? = some (.cells cs T fr)) (v : Value) :
    (w.setCell ⟨q, i, none⟩ v).heap[q]? = some (.cells (cs.setIfInBounds i v) T fr) := by
  simp [World.setCell, Array.getElem?_modify, h]
theorem heap_setCell_other {w : World} {p : Addr} {k : Nat} (h : k ≠ p.block) (v : Value) : (w.setCell p v).heap[k]? = w.heap[k]? :=
  Below.heap_setCell w p v k h
theorem cell_of_block {w : World} {q i : Nat} {cs : Array Value} {T : TypeId} {fr : Nat × Nat} (h : w.heap[q]? = some (.cells cs T fr)) : w.cell? ⟨q, i, none⟩ = cs[i]? := by
  simp [World.cell?, h]
theorem frozen_of_block {w : World} {q i : Nat} {cs : Array Value} {T : TypeId} (h : w.heap[q]? = some (.cells cs T (0, 0))) : w.frozen? ⟨q, i, none⟩ = false := by
  simp [World.frozen?, h]

/-- A slice value that reads as these bytes. -/
structure BytesAt (w : World) (ao : Option Addr) (n c : Nat) (l : List Int) : Prop where
  len : l.length = n
  cap : n ≤ c
  nil : ao = none → n = 0
  cell : ∀ a, ao = some a → ∀ i, i < n → w.cell? (a.add i) = some (.int .u8 (l.getD i 0))
  byte : ∀ i, 0 ≤ l.getD i 0 ∧ l.getD i 0 < 256

theorem BytesAt.open {w : World} {ao : Option Addr} {n c : Nat} {l : List Int} (h : BytesAt w ao n c l) (hn : 0 < n) :
    ∃ b off, ao = some ⟨b, off, none⟩ ∧ b < w.heap.size ∧ ∀ i, i < n → w.cell? ⟨b, off + i, none⟩ = some (.int .u8 (l.getD i 0)) := by
  cases ao with
  | none => exact absurd (h.nil rfl) (by omega)
  | some a =>
    obtain ⟨b, off, sp⟩ := a
    have h0 := h.cell _ rfl 0 hn
    have hsp : sp = none := by
      cases sp with
      | none => rfl
      | some s => simp [Addr.add, World.cell?] at h0; split at h0 <;> simp at h0
    subst hsp
    refine ⟨b, off, rfl, lt_of_cell h0, fun i hi => ?_⟩
    have := h.cell _ rfl i hi
    rwa [show (⟨b, off, none⟩ : Addr).add i = ⟨b, off + i, none⟩ from by unfold Addr.add; split <;> simp_all] at this

theorem BytesAt.mod {S : Nat → Prop} {w w' : World} {ao : Option Addr} {n c : Nat} {l : List Int} (h : BytesAt w ao n c l) (hM : Mod S w w') (hS : ∀ a, ao = some a → ¬ S a.block) : BytesAt w' ao n c l := by
  refine ⟨h.len, h.cap, h.nil, fun a ha i hi => ?_, h.byte⟩
  have := h.cell a ha i hi
  rw [← this]
  have hb : (a.add i).block = a.block := by unfold Addr.add; split <;> rfl
  exact hM.cell (lt_of_cell this) (by rw [hb]; exact hS a ha)

theorem ret_eq {k : IntKind} {a b : Int} (h : a = b) : Ending.returned (.int k a) = .returned (.int k b) := by rw [h]

set_option maxHeartbeats 400000 in
theorem be16 (b off n c : Nat) (x0 x1 : Int) (w : World) (hn : 2 ≤ n) (h0 : 0 ≤ x0) (h0' : x0 < 256) (h1 : 0 ≤ x1) (h1' : x1 < 256)
    (c0 : w.cell? ⟨b, off, none⟩ = some (.int .u8 x0)) (c1 : w.cell? ⟨b, off + 1, none⟩ = some (.int .u8 x1)) :
    Calls Tryd.prog 44 #[.agg #[], .slice (some ⟨b, off, none⟩) n c] w fun e w' => e = .returned (.int .u16 (x0 * 256 + x1)) ∧ Below w.heap.size w w' := by
  have hb : b < w.heap.size := lt_of_cell c0
  go_enter Tryd.func44, Tryd.ntmps44
  go_wp2
  go_quiet (fail)
  go_wp2
  go_ret
  refine ⟨?_, below_drewN ((Below.refl _ w).alloc (Nat.le_refl _) _) _⟩
  have hv : bits BinOp.or IntKind.u16 x1 (x0 * 256) = x1 + x0 * 256 := u16_or8 _ _ (by omega) (by omega) (by omega) (by omega) (by omega)
  simp [hv, Int.add_comm]

set_option maxHeartbeats 400000 in
theorem be32 (b off n c : Nat) (x0 x1 x2 x3 : Int) (w : World) (hn : 4 ≤ n) (h0 : 0 ≤ x0) (h0' : x0 < 256) (h1 : 0 ≤ x1) (h1' : x1 < 256)
    (h2 : 0 ≤ x2) (h2' : x2 < 256) (h3 : 0 ≤ x3) (h3' : x3 < 256)
    (c0 : w.cell? ⟨b, off, none⟩ = some (.int .u8 x0)) (c1 : w.cell? ⟨b, off + 1, none⟩ = some (.int .u8 x1))
    (c2 : w.cell? ⟨b, off + 2, none⟩ = some (.int .u8 x2)) (c3 : w.cell? ⟨b, off + 3, none⟩ = some (.int .u8 x3)) :
    Calls Tryd.prog 43 #[.agg #[], .slice (some ⟨b, off, none⟩) n c] w fun e w' => e = .returned (.int .u32 (x0 * 16777216 + x1 * 65536 + x2 * 256 + x3)) ∧ Below w.heap.size w w' := by
  have hb : b < w.heap.size := lt_of_cell c0
  have q1 : (1 : Int) < n := by omega
  have q2 : (2 : Int) < n := by omega
  have q3 : (3 : Int) < n := by omega
  have q0 : 0 < n := by omega
  go_enter Tryd.func43, Tryd.ntmps43
  go_wp2
  go_quiet (fail)
  go_wp2
  go_ret
  refine ⟨?_, below_drewN ((Below.refl _ w).alloc (Nat.le_refl _) _) _⟩
  simp (disch := omega) only [u32_or8, u32_or16, u32_or24]
  simp only [Array.getD_eq_getD_getElem?]
  exact ret_eq (by omega)
end Go.Proofs.YtnajpmdnadjipaaDoor
