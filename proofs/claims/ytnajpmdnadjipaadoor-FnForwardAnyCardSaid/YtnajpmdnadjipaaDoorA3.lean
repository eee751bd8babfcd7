/- Proved here: the errors of a chunk header, and that impl.copied makes a copy in new memory; conditions: as each theorem states. -/
import Derived.Test.YtnajpmdnadjipaaDoorA2
namespace Go.Proofs.YtnajpmdnadjipaaDoor
open Go.RowKit
set_option linter.unusedVariables false

/-- A package-level error is there: an interface value that is not nil. -/
def GlobErr (w : World) (g : Nat) : Prop := ∃ u v, w.cell? ⟨g, 0, none⟩ = some (.iface u v)
theorem GlobErr.mod {S : Nat → Prop} {w w' : World} {g : Nat} (h : GlobErr w g) (hM : Mod S w w') (hS : ¬ S g) : GlobErr w' g := by
  obtain ⟨u, v, h⟩ := h
  exact ⟨u, v, by rw [← h]; exact hM.cell (lt_of_cell h) hS⟩

/-- The call hands back an error that is not nil, and only the blocks S may have changed. -/
def ErrPost (S : Nat → Prop) (w : World) (e : Ending) (w' : World) : Prop := ∃ u v, e = .returned (.iface u v) ∧ Mod S w w'

set_option maxHeartbeats 400000 in
set_option maxRecDepth 20000 in
theorem hdr_small (q : Nat) (ao : Option Addr) (n c : Nat) (w : World) (hn : n < 4) (e11 : GlobErr w 11) :
    Calls Tryd.prog 42 #[.pointer (some ⟨q, 0, none⟩), .slice ao n c] w (ErrPost (· = q) w) := by
  obtain ⟨u, v, e11⟩ := e11
  go_enter Tryd.func42, Tryd.ntmps42
  go_wp2_with fail
  go_ret
  exact ⟨u, v, rfl, Mod.refl _ _⟩

set_option maxHeartbeats 400000 in
set_option maxRecDepth 20000 in
theorem hdr_more (q : Nat) (cs : Array Value) (T : TypeId) (b off n c : Nat) (l : List Int) (w : World)
    (hq : w.heap[q]? = some (.cells cs T (0, 0))) (hcs : 3 ≤ cs.size) (hqb : q ≠ b) (hqg : q ≠ 12) (e12 : GlobErr w 12)
    (hn : 4 ≤ n) (hn' : n ≤ 2147483647) (hc : n ≤ c) (hcell : ∀ i, i < n → w.cell? ⟨b, off + i, none⟩ = some (.int .u8 (l.getD i 0))) (hbyte : ∀ i, 0 ≤ l.getD i 0 ∧ l.getD i 0 < 256)
    (hw : n < l.getD 2 0 * 256 + l.getD 3 0) :
    Calls Tryd.prog 42 #[.pointer (some ⟨q, 0, none⟩), .slice (some ⟨b, off, none⟩) n c] w (ErrPost (· = q) w) := by
  obtain ⟨x0, h0⟩ : ∃ x, x = l.getD 0 0 := ⟨_, rfl⟩
  obtain ⟨x1, h1⟩ : ∃ x, x = l.getD 1 0 := ⟨_, rfl⟩
  obtain ⟨x2, h2⟩ : ∃ x, x = l.getD 2 0 := ⟨_, rfl⟩
  obtain ⟨x3, h3⟩ : ∃ x, x = l.getD 3 0 := ⟨_, rfl⟩
  have c0 : w.cell? ⟨b, off, none⟩ = some (.int .u8 x0) := by rw [h0]; exact hcell 0 (by omega)
  have c1 : w.cell? ⟨b, off + 1, none⟩ = some (.int .u8 x1) := by rw [h1]; exact hcell 1 (by omega)
  have c2 : w.cell? ⟨b, off + 2, none⟩ = some (.int .u8 x2) := by rw [h2]; exact hcell 2 (by omega)
  have c3 : w.cell? ⟨b, off + 3, none⟩ = some (.int .u8 x3) := by rw [h3]; exact hcell 3 (by omega)
  have b2 := hbyte 2; have b3 := hbyte 3
  rw [← h2] at b2; rw [← h3] at b3; rw [← h2, ← h3] at hw
  have hb : b < w.heap.size := lt_of_cell c0
  have hq' : q < w.heap.size := (Array.getElem?_eq_some_iff.1 hq).1
  obtain ⟨b2l, b2r⟩ := b2
  obtain ⟨b3l, b3r⟩ := b3
  obtain ⟨u, v, e12⟩ := e12
  have h12 : 12 < w.heap.size := lt_of_cell e12
  have g0 : w.cell? ⟨q, 0, none⟩ = some (cs[0]'(by omega)) := by rw [cell_of_block hq]; simp
  have g1 : w.cell? ⟨q, 1, none⟩ = some (cs[1]'(by omega)) := by rw [cell_of_block hq]; simp
  have f0 : w.frozen? ⟨q, 0, none⟩ = false := frozen_of_block hq
  have f1 : w.frozen? ⟨q, 1, none⟩ = false := frozen_of_block hq
  have HQ := Lib.hid hq
  have q1 : (1 : Int) < n := by omega
  have q2 : (2 : Int) ≤ n := by omega
  have qc : ¬ c = 2 := by omega
  have q3 : (0 : Int) < n := by omega
  clear h0 h1 h2 h3 hcell hbyte hq
  have D2 : Hid (((w.setCell ⟨q, 0, none⟩ (.int .u8 x0)).setCell ⟨q, 1, none⟩ (.int .u8 x1)).drew.cell? ⟨b, off + 2, none⟩ = some (.int .u8 x2)) := by
    refine Lib.hid ?_
    rw [← c2]; exact World.cell?_of_block (by show ((w.setCell _ _).setCell _ _).heap[b]? = _; rw [heap_setCell_other (Ne.symm hqb), heap_setCell_other (Ne.symm hqb)])
  have D3 : Hid (((w.setCell ⟨q, 0, none⟩ (.int .u8 x0)).setCell ⟨q, 1, none⟩ (.int .u8 x1)).drew.cell? ⟨b, off + 2 + 1, none⟩ = some (.int .u8 x3)) := by
    refine Lib.hid ?_
    rw [← c3]; exact World.cell?_of_block (by show ((w.setCell _ _).setCell _ _).heap[b]? = _; rw [heap_setCell_other (Ne.symm hqb), heap_setCell_other (Ne.symm hqb)])
  go_enter Tryd.func42, Tryd.ntmps42
  go_wp2_with fail
  go_region_held3 (fun _ => True) (trivial) (first | (go_at_call 44; refine (be16 b (off + 2) (n - 2) (c - 2) x2 x3 _ (by omega) b2l b2r b3l b3r D2.out D3.out).mono ?_; rintro e w1 ⟨rfl, hb1⟩))
  have hM : Mod (· = q) w w1 := ((((Mod.refl _ w).set1 _).set1 _).drew).trans (Mod.of_below hb1)
  have g12 : w1.cell? ⟨12, 0, none⟩ = some (.iface u v) := by rw [← e12]; exact hM.cell h12 (fun h => hqg h.symm)
  go_wp2_with fail
  go_ret
  exact ⟨u, v, rfl, hM⟩

/-- What the copy of bytes is. -/
def Copied (w : World) (n : Nat) (l : List Int) (e : Ending) (w' : World) : Prop :=
  ∃ ao c, e = .returned (.slice ao n c) ∧ BytesAt w' ao n c l ∧ (∀ a, ao = some a → w.heap.size ≤ a.block) ∧ c ≤ 9223372036854775807 ∧ Below w.heap.size w w'

theorem bytes_of_owns {w : World} {B : Nat} {v : Value} {n : Nat} {l : List Int} (hl : l.length = n) (h : w.ownsRow B 5 1 v n (l.map (Value.int .u8))) (hb : ∀ i, 0 ≤ l.getD i 0 ∧ l.getD i 0 < 256) :
    ∃ ao c, v = .slice ao n c ∧ BytesAt w ao n c l ∧ (∀ a, ao = some a → B ≤ a.block) ∧ c ≤ 9223372036854775807 := by
  rcases h.2 with ⟨rfl, rfl⟩ | ⟨g, cap, cur, rfl, hB, hg, hnc, hm, hs, ht⟩
  · exact ⟨none, 0, rfl, ⟨hl, Nat.le_refl _, fun _ => rfl, fun _ h => by simp at h, hb⟩, fun _ h => by simp at h, by omega⟩
  · refine ⟨_, cap, rfl, ⟨hl, hnc, fun h => by simp at h, ?_, hb⟩, fun a h => by obtain rfl := Option.some.inj h; exact hB, by simpa [maxLen] using hm⟩
    intro a ha i hi
    obtain rfl := Option.some.inj ha
    have := h.cells (g := g) rfl i (.int .u8 (l.getD i 0)) (by simp [List.getElem?_eq_getElem (show i < l.length by omega)])
    exact this

set_option maxHeartbeats 400000 in
theorem copied_any (ao : Option Addr) (n c : Nat) (l : List Int) (w : World) (h : BytesAt w ao n c l) (hn : n ≤ 2147483647) :
    Calls Tryd.prog 24 #[.slice ao n c] w (Copied w n l) := by
  obtain ⟨i0, hi, hz0, hz1, hz2⟩ := info_parts (show (Tryd.prog.info? 5).map (fun i => (i.zero, i.size, i.bytes)) = some (some (.int .u8 0), 1, 1) by kernel_rfl)
  have H := Lib.hid h
  cases ao with
  | none =>
    obtain rfl : n = 0 := h.nil rfl
    clear h
    go_enter Tryd.func24, Tryd.ntmps24
    go_wp2
    go_ret
    have : l = [] := List.eq_nil_of_length_eq_zero H.out.len
    subst this
    exact ⟨none, 0, rfl, ⟨rfl, Nat.le_refl _, fun _ => rfl, fun _ h => by simp at h, H.out.byte⟩, fun _ h => by simp at h, by omega, Below.refl _ _⟩
  | some a =>
    clear h
    go_enter Tryd.func24, Tryd.ntmps24
    go_wp2_with (first | (at_builtin; refine wpList_append_own _ rfl _ _ 22 rfl w.heap.size 5 i0 (.int .u8 0) 1 1 Tryd.underlying22 hi hz0 hz1 hz2 rfl (by decide) _ _ _ rfl (World.ownsRow_nil _ _ _ _) a n _ (l.map (Value.int .u8)) rfl ?c0 ?c1 ?c2 ?c3 ?c4 ?c5 ?_))
    case c0 => simp [H.out.len]
    case c1 =>
      intro j u hu
      have hj : j < n := by have := (List.getElem?_eq_some_iff.1 hu).1; simpa [H.out.len] using this
      rw [H.out.cell a rfl j hj]
      rw [List.getElem?_map] at hu
      have hj' : j < l.length := by rw [H.out.len]; exact hj
      rw [List.getElem?_eq_getElem hj'] at hu
      rw [← hu]
      simp [List.getD_eq_getElem?_getD, List.getElem?_eq_getElem hj']
    case c2 => exact ints_oneCell _ _
    case c3 => unfold maxLen; omega
    case c4 => omega
    case c5 => exact Nat.le_refl _
    intro v' w1 hown hgrow _
    have hb1 : Below w.heap.size w w1 := (Below.refl _ _).grown hgrow (Nat.le_refl _) (fun k hk => by simp [Value.ownBlock] at hk)
    have O := Lib.hid hown
    clear hown hgrow
    go_wp2
    go_ret
    obtain ⟨ao, c, rfl, h1, h2, h3⟩ := bytes_of_owns H.out.len O.out H.out.byte
    exact ⟨ao, c, rfl, h1, h2, h3, hb1⟩
end Go.Proofs.YtnajpmdnadjipaaDoor
