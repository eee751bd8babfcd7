/- Proved here: what the unmarshal of a COOKIE ECHO chunk does; conditions: as each theorem states. -/
import Derived.Test.YtnajpmdnadjipaaDoorA5
namespace Go.Proofs.YtnajpmdnadjipaaDoor
open Go.RowKit
set_option linter.unusedVariables false

/-- Bytes in one block, a header ahead. -/
structure ChunkAt (w : World) (b off n c : Nat) (l : List Int) : Prop where
  len : l.length = n
  ge : 4 ≤ n
  cap : n ≤ c
  most : c ≤ 9223372036854775807
  small : n ≤ 2147483647
  cell : ∀ i, i < n → w.cell? ⟨b, off + i, none⟩ = some (.int .u8 (l.getD i 0))
  byte : ∀ i, 0 ≤ l.getD i 0 ∧ l.getD i 0 < 256

theorem ChunkAt.lt {w : World} {b off n c : Nat} {l : List Int} (h : ChunkAt w b off n c l) : b < w.heap.size := by
  have := h.ge
  exact lt_of_cell (h.cell 0 (by omega))

theorem ChunkAt.mod {S : Nat → Prop} {w w' : World} {b off n c : Nat} {l : List Int} (h : ChunkAt w b off n c l) (hM : Mod S w w') (hS : ¬ S b) : ChunkAt w' b off n c l :=
  ⟨h.len, h.ge, h.cap, h.most, h.small, fun i hi => by rw [← h.cell i hi]; exact hM.cell h.lt hS, h.byte⟩

theorem hdr_w {w : World} {b off n c : Nat} {l : List Int} (h : ChunkAt w b off n c l) (hw : be2 l 2 = n) (q : Nat) (cs : Array Value) (T : TypeId)
    (hq : w.heap[q]? = some (.cells cs T (0, 0))) (hcs : 3 ≤ cs.size) (hqb : q ≠ b) :
    Calls Tryd.prog 42 #[.pointer (some ⟨q, 0, none⟩), .slice (some ⟨b, off, none⟩) n c] w (HdrWhole q b cs T l w) :=
  hdr_whole q cs T b off n c l w hq hcs hqb h.len h.ge h.cap h.most h.cell h.byte hw

theorem hdr_m {w : World} {b off n c : Nat} {l : List Int} (h : ChunkAt w b off n c l) (hw : n < be2 l 2) (q : Nat) (cs : Array Value) (T : TypeId)
    (hq : w.heap[q]? = some (.cells cs T (0, 0))) (hcs : 3 ≤ cs.size) (hqb : q ≠ b) (hqg : q ≠ 12) (e12 : GlobErr w 12) :
    Calls Tryd.prog 42 #[.pointer (some ⟨q, 0, none⟩), .slice (some ⟨b, off, none⟩) n c] w (ErrPost (· = q) w) :=
  hdr_more q cs T b off n c l w hq hcs hqb hqg e12 h.ge h.small h.cap h.cell h.byte hw

/-- COOKIE ECHO, where it is one. -/
def CkYes (q : Nat) (l : List Int) (w : World) (e : Ending) (w' : World) : Prop :=
  e = .returned .nilIface ∧ Mod (· = q) w w' ∧ ∃ ao c, BytesAt w' ao (l.length - 4) c (l.drop 4) ∧ (∀ a, ao = some a → a.block ≠ q) ∧ w'.cell? ⟨q, 3, none⟩ = some (.slice ao (l.length - 4) c)

set_option maxHeartbeats 400000 in
theorem ck_yes {w : World} {b off n c : Nat} {l : List Int} (h : ChunkAt w b off n c l) (hw : be2 l 2 = n) (q : Nat) (v0 v1 v2 v3 : Value) (T : TypeId)
    (hq : w.heap[q]? = some (.cells #[v0, v1, v2, v3] T (0, 0))) (hqb : q ≠ b) (h10 : l.getD 0 0 = 10) :
    Calls Tryd.prog 35 #[.pointer (some ⟨q, 0, none⟩), .slice (some ⟨b, off, none⟩) n c] w (CkYes q l w) := by
  have HC := Lib.hid (hdr_w h hw q #[v0, v1, v2, v3] T hq (by simp) hqb)
  have H10 := Lib.hid h10
  clear h hw hq h10
  go_enter Tryd.func35, Tryd.ntmps35
  go_wp2_with fail
  refine HC.out.mono ?_
  rintro e w1 ⟨rfl, hM, ao, c1, hB, hne, hb1⟩
  rw [H10.out] at hb1
  simp at hb1
  have g0 : w1.cell? ⟨q, 0, none⟩ = some (.int .u8 10) := by rw [cell_of_block hb1]; rfl
  have g2 : w1.cell? ⟨q, 2, none⟩ = some (.slice ao (l.length - 4) c1) := by rw [cell_of_block hb1]; rfl
  have g3 : w1.cell? ⟨q, 3, none⟩ = some v3 := by rw [cell_of_block hb1]; rfl
  have f3 : w1.frozen? ⟨q, 3, none⟩ = false := frozen_of_block hb1
  have HB := Lib.hid hB; have HN := Lib.hid hne; have H1 := Lib.hid hb1
  clear hB hne hb1
  go_wp2_with fail
  go_ret
  exact ⟨rfl, hM.set1 _, ao, c1, HB.out.mod ((Mod.refl _ w1).set1 _) (fun a ha => (HN.out a ha).1), fun a ha => (HN.out a ha).1, by rw [cell_of_block (heap_setCell_same H1.out _)]; rfl⟩

set_option maxHeartbeats 400000 in
theorem ck_no {w : World} {b off n c : Nat} {l : List Int} (h : ChunkAt w b off n c l) (hw : be2 l 2 = n) (q : Nat) (v0 v1 v2 v3 : Value) (T : TypeId)
    (hq : w.heap[q]? = some (.cells #[v0, v1, v2, v3] T (0, 0))) (hqb : q ≠ b) (h10 : l.getD 0 0 ≠ 10) (e1 : GlobErr w 1) (hqg : q ≠ 1) :
    Calls Tryd.prog 35 #[.pointer (some ⟨q, 0, none⟩), .slice (some ⟨b, off, none⟩) n c] w (ErrPost (· = q) w) := by
  have HC := Lib.hid (hdr_w h hw q #[v0, v1, v2, v3] T hq (by simp) hqb)
  have H10 : (l.getD 0 0 == 10) = false := by simpa using h10
  obtain ⟨x, hx⟩ : ∃ x, x = l.getD 0 0 := ⟨_, rfl⟩
  rw [← hx] at H10
  have HX := Lib.hid hx
  have E := Lib.hid e1
  clear h hw hq h10 hx e1
  go_enter Tryd.func35, Tryd.ntmps35
  go_wp2_with fail
  refine HC.out.mono ?_
  rintro e w1 ⟨rfl, hM, ao, c1, hB, hne, hb1⟩
  rw [← HX.out] at hb1
  obtain ⟨u, v, g1⟩ := E.out.mod hM (fun h => hqg h.symm)
  simp at hb1
  have g0 : w1.cell? ⟨q, 0, none⟩ = some (.int .u8 x) := by rw [cell_of_block hb1]; rfl
  clear hB hne hb1
  go_wp2_with fail
  go_ret
  exact ⟨u, v, rfl, hM⟩

set_option maxHeartbeats 400000 in
/-- An error of the header is handed on. -/
theorem ck_err {w : World} (q : Nat) (ao : Option Addr) (n c : Nat)
    (h : Calls Tryd.prog 42 #[.pointer (some ⟨q, 0, none⟩), .slice ao n c] w (ErrPost (· = q) w)) :
    Calls Tryd.prog 35 #[.pointer (some ⟨q, 0, none⟩), .slice ao n c] w (ErrPost (· = q) w) := by
  have HC := Lib.hid h
  clear h
  go_enter Tryd.func35, Tryd.ntmps35
  go_wp2_with fail
  refine HC.out.mono ?_
  rintro e w1 ⟨u, v, rfl, hM⟩
  go_wp2_with fail
  go_ret
  exact ⟨u, v, rfl, hM⟩
end Go.Proofs.YtnajpmdnadjipaaDoor
