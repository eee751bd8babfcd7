/- Part of the proof of laws.FnSackAny: where the reader of a SACK chunk hands back an error ahead of its counts; conditions: the package's errors are there (GlobErr). -/
import Derived.Test.YtnajpmdnadjipaaDoorH1
namespace Go.Proofs.YtnajpmdnadjipaaDoor
open Go.RowKit
set_option linter.unusedVariables false

/-- The fields of a SACK chunk. -/
def sackC (t f raw tsn win g d : Value) : Array Value := #[t, f, raw, tsn, win, g, d]
def sackH (x f : Int) (raw : Value) : Array Value := sackC (.int .u8 x) (.int .u8 f) raw (.int .u32 0) (.int .u32 0) (.slice none 0 0) (.slice none 0 0)

set_option maxHeartbeats 1000000 in
set_option maxRecDepth 20000 in
theorem sk_no {w : World} {b off n c : Nat} {l : List Int} (h : ChunkAt w b off n c l) (hw : be2 l 2 = n) (q : Nat)
    (hq : w.heap[q]? = some (.cells sk0 95 (0, 0))) (hqb : q ≠ b) (h3 : l.getD 0 0 ≠ 3) (e6 : GlobErr w 6) (hqg : q ≠ 6) :
    Calls Tryd.prog 39 #[.pointer (some ⟨q, 0, none⟩), .slice (some ⟨b, off, none⟩) n c] w (ErrPost (· = q) w) := by
  have HC := Lib.hid (hdr_w h hw q sk0 95 hq (by simp [sk0]) hqb)
  obtain ⟨x, hx⟩ : ∃ x, x = l.getD 0 0 := ⟨_, rfl⟩
  have x3 : (x == 3) = false := by rw [hx]; simpa using h3
  have HX := Lib.hid hx
  have E := Lib.hid e6
  clear h hw hq h3 hx e6
  go_enter Tryd.func39, Tryd.ntmps39
  go_wp2_with fail
  refine HC.out.mono ?_
  rintro e w1 ⟨rfl, hM, ao, c1, hB, hne, hb1⟩
  rw [← HX.out] at hb1
  obtain ⟨u, v, hg⟩ := E.out.mod hM (fun h => hqg h.symm)
  replace hb1 : w1.heap[q]? = some (.cells (sackH x (l.getD 1 0) (.slice ao (l.length - 4) c1)) 95 (0, 0)) := hb1
  have g0 : w1.cell? ⟨q, 0, none⟩ = some (.int .u8 x) := by rw [cell_of_block hb1]; rfl
  have HM := Lib.hid hM
  clear hB hne hb1 hM
  go_wp2_with fail
  go_ret
  exact ⟨u, v, rfl, HM.out⟩

set_option maxHeartbeats 1000000 in
set_option maxRecDepth 20000 in
theorem sk_short {w : World} {b off n c : Nat} {l : List Int} (h : ChunkAt w b off n c l) (hw : be2 l 2 = n) (q : Nat)
    (hq : w.heap[q]? = some (.cells sk0 95 (0, 0))) (hqb : q ≠ b) (h3 : l.getD 0 0 = 3) (hn : n < 16) (e7 : GlobErr w 7) (hqg : q ≠ 7) :
    Calls Tryd.prog 39 #[.pointer (some ⟨q, 0, none⟩), .slice (some ⟨b, off, none⟩) n c] w (ErrPost (· = q) w) := by
  have HC := Lib.hid (hdr_w h hw q sk0 95 hq (by simp [sk0]) hqb)
  have H3 := Lib.hid h3
  have HL := Lib.hid h.len
  have E := Lib.hid e7
  have hn4 := h.ge
  clear h hw hq h3 e7
  go_enter Tryd.func39, Tryd.ntmps39
  go_wp2_with fail
  refine HC.out.mono ?_
  rintro e w1 ⟨rfl, hM, ao, c1, hB, hne, hb1⟩
  rw [H3.out, HL.out] at hb1
  obtain ⟨u, v, hg⟩ := E.out.mod hM (fun h => hqg h.symm)
  obtain ⟨m, hm⟩ : ∃ m, m = n - 4 := ⟨_, rfl⟩
  rw [← hm] at hb1
  have hm12 : (m : Int) < 12 := by omega
  replace hb1 : w1.heap[q]? = some (.cells (sackH 3 (l.getD 1 0) (.slice ao m c1)) 95 (0, 0)) := hb1
  have g0 : w1.cell? ⟨q, 0, none⟩ = some (.int .u8 3) := by rw [cell_of_block hb1]; rfl
  have g2 : w1.cell? ⟨q, 2, none⟩ = some (.slice ao m c1) := by rw [cell_of_block hb1]; rfl
  have HM := Lib.hid hM
  clear hB hne hb1 hM hm
  go_wp2_with fail
  go_ret
  exact ⟨u, v, rfl, HM.out⟩
end Go.Proofs.YtnajpmdnadjipaaDoor
