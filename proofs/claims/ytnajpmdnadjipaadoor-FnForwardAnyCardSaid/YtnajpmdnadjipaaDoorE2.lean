/- Part of the proof of laws.FnDataAny: where the reader of a chunk of user data hands back an error, and what it does with a chunk of the kind I-DATA; conditions: the package's errors are there (GlobErr). -/
import Derived.Test.YtnajpmdnadjipaaDoorE1
namespace Go.Proofs.YtnajpmdnadjipaaDoor
open Go.RowKit
set_option linter.unusedVariables false

set_option maxHeartbeats 400000 in
set_option maxRecDepth 20000 in
theorem pd_err {w : World} (q : Nat) (ao : Option Addr) (n c : Nat)
    (h : Calls Tryd.prog 42 #[.pointer (some ⟨q, 0, none⟩), .slice ao n c] w (ErrPost (· = q) w)) :
    Calls Tryd.prog 37 #[.pointer (some ⟨q, 0, none⟩), .slice ao n c] w (ErrPost (· = q) w) := by
  have HC := Lib.hid h
  clear h
  go_enter Tryd.func37, Tryd.ntmps37
  go_wp2_with fail
  refine HC.out.mono ?_
  rintro e w1 ⟨u, v, rfl, hM⟩
  go_wp2_with fail
  go_ret
  exact ⟨u, v, rfl, hM⟩

set_option maxHeartbeats 2000000 in
set_option maxRecDepth 20000 in
theorem pd_other {w : World} {b off n c : Nat} {l : List Int} (h : ChunkAt w b off n c l) (hw : be2 l 2 = n) (q : Nat)
    (hq : w.heap[q]? = some (.cells data0 90 (0, 0))) (hqb : q ≠ b) (h0 : l.getD 0 0 ≠ 0) (h64 : l.getD 0 0 ≠ 64) (e0 : GlobErr w 0) (hqg : q ≠ 0) :
    Calls Tryd.prog 37 #[.pointer (some ⟨q, 0, none⟩), .slice (some ⟨b, off, none⟩) n c] w (ErrPost (· = q) w) := by
  have HC := Lib.hid (hdr_w h hw q data0 90 hq (by simp [data0, dataC]) hqb)
  have HL := Lib.hid h.len
  have hs := h.small
  have hge := h.ge
  obtain ⟨f, hf⟩ : ∃ x, x = l.getD 1 0 := ⟨_, rfl⟩
  have HF := Lib.hid hf
  have hfb := h.byte 1
  rw [← hf] at hfb
  obtain ⟨hf0, hf1⟩ := hfb
  obtain ⟨x, hx⟩ : ∃ x, x = l.getD 0 0 := ⟨_, rfl⟩
  have HX := Lib.hid hx
  have x0 : (x == 0) = false := by rw [hx]; simpa using h0
  have x64 : (x == 64) = false := by rw [hx]; simpa using h64
  have E := Lib.hid e0
  clear h0 h64 e0
  clear h hw hq hf hx
  go_enter Tryd.func37, Tryd.ntmps37
  go_wp2_with fail
  refine HC.out.mono ?_
  rintro e w1 ⟨rfl, hM, ao, c1, hB, hne, hb1⟩
  rw [← HX.out, HL.out, ← HF.out] at hb1
  rw [HL.out] at hB
  obtain ⟨m, hm⟩ : ∃ m, m = n - 4 := ⟨_, rfl⟩
  rw [← hm] at hb1 hB
  have HMN := Lib.hid hm
  clear hm
  have hq1 : q < w1.heap.size := (Array.getElem?_eq_some_iff.1 hb1).1
  replace hb1 : w1.heap[q]? = some (.cells (dataH x f (.slice ao m c1)) 90 (0, 0)) := hb1
  have B1 := Lib.hid hb1
  have g0 : w1.cell? ⟨q, 0, none⟩ = some (.int .u8 x) := by rw [cell_of_block hb1]; rfl
  have g1 : w1.cell? ⟨q, 1, none⟩ = some (.int .u8 f) := by rw [cell_of_block hb1]; rfl
  have g2 : w1.cell? ⟨q, 2, none⟩ = some (.slice ao m c1) := by rw [cell_of_block hb1]; rfl
  have g4 : w1.cell? ⟨q, 4, none⟩ = some (.bool false) := by rw [cell_of_block hb1]; rfl
  have g5 : w1.cell? ⟨q, 5, none⟩ = some (.bool false) := by rw [cell_of_block hb1]; rfl
  have g6 : w1.cell? ⟨q, 6, none⟩ = some (.bool false) := by rw [cell_of_block hb1]; rfl
  have g7 : w1.cell? ⟨q, 7, none⟩ = some (.bool false) := by rw [cell_of_block hb1]; rfl
  have f4 : w1.frozen? ⟨q, 4, none⟩ = false := frozen_of_block hb1
  have f5 : w1.frozen? ⟨q, 5, none⟩ = false := frozen_of_block hb1
  have f6 : w1.frozen? ⟨q, 6, none⟩ = false := frozen_of_block hb1
  have f7 : w1.frozen? ⟨q, 7, none⟩ = false := frozen_of_block hb1
  have hc1 := hB.cap
  have HB := Lib.hid hB
  have HN := Lib.hid hne
  have HM := Lib.hid hM

  obtain ⟨u, v, hg⟩ := E.out.mod hM (fun h => hqg h.symm)
  have hgl : 0 < w1.heap.size := lt_of_cell hg
  clear hB hne hb1 hM
  go_wp2_with fail
  go_ret
  exact ⟨u, v, rfl, (((HM.out.set1 _).set1 _).set1 _).set1 _⟩

set_option maxHeartbeats 2000000 in
set_option maxRecDepth 20000 in
theorem pd_short {w : World} {b off n c : Nat} {l : List Int} (h : ChunkAt w b off n c l) (hw : be2 l 2 = n) (q : Nat)
    (hq : w.heap[q]? = some (.cells data0 90 (0, 0))) (hqb : q ≠ b) (h0 : l.getD 0 0 = 0) (hn : n < 16) (e0 : GlobErr w 5) (hqg : q ≠ 5) :
    Calls Tryd.prog 37 #[.pointer (some ⟨q, 0, none⟩), .slice (some ⟨b, off, none⟩) n c] w (ErrPost (· = q) w) := by
  have HC := Lib.hid (hdr_w h hw q data0 90 hq (by simp [data0, dataC]) hqb)
  have HL := Lib.hid h.len
  have hs := h.small
  have hge := h.ge
  obtain ⟨f, hf⟩ : ∃ x, x = l.getD 1 0 := ⟨_, rfl⟩
  have HF := Lib.hid hf
  have hfb := h.byte 1
  rw [← hf] at hfb
  obtain ⟨hf0, hf1⟩ := hfb
  obtain ⟨x, hx⟩ : ∃ x, x = l.getD 0 0 := ⟨_, rfl⟩
  have HX := Lib.hid hx
  obtain rfl : 0 = x := by rw [hx, h0]
  have E := Lib.hid e0
  clear h0 e0
  clear h hw hq hf hx
  go_enter Tryd.func37, Tryd.ntmps37
  go_wp2_with fail
  refine HC.out.mono ?_
  rintro e w1 ⟨rfl, hM, ao, c1, hB, hne, hb1⟩
  rw [← HX.out, HL.out, ← HF.out] at hb1
  rw [HL.out] at hB
  obtain ⟨m, hm⟩ : ∃ m, m = n - 4 := ⟨_, rfl⟩
  rw [← hm] at hb1 hB
  have HMN := Lib.hid hm
  have hm12 : (m : Int) < 12 := by omega
  clear hm
  have hq1 : q < w1.heap.size := (Array.getElem?_eq_some_iff.1 hb1).1
  replace hb1 : w1.heap[q]? = some (.cells (dataH 0 f (.slice ao m c1)) 90 (0, 0)) := hb1
  have B1 := Lib.hid hb1
  have g0 : w1.cell? ⟨q, 0, none⟩ = some (.int .u8 0) := by rw [cell_of_block hb1]; rfl
  have g1 : w1.cell? ⟨q, 1, none⟩ = some (.int .u8 f) := by rw [cell_of_block hb1]; rfl
  have g2 : w1.cell? ⟨q, 2, none⟩ = some (.slice ao m c1) := by rw [cell_of_block hb1]; rfl
  have g4 : w1.cell? ⟨q, 4, none⟩ = some (.bool false) := by rw [cell_of_block hb1]; rfl
  have g5 : w1.cell? ⟨q, 5, none⟩ = some (.bool false) := by rw [cell_of_block hb1]; rfl
  have g6 : w1.cell? ⟨q, 6, none⟩ = some (.bool false) := by rw [cell_of_block hb1]; rfl
  have g7 : w1.cell? ⟨q, 7, none⟩ = some (.bool false) := by rw [cell_of_block hb1]; rfl
  have f4 : w1.frozen? ⟨q, 4, none⟩ = false := frozen_of_block hb1
  have f5 : w1.frozen? ⟨q, 5, none⟩ = false := frozen_of_block hb1
  have f6 : w1.frozen? ⟨q, 6, none⟩ = false := frozen_of_block hb1
  have f7 : w1.frozen? ⟨q, 7, none⟩ = false := frozen_of_block hb1
  have hc1 := hB.cap
  have HB := Lib.hid hB
  have HN := Lib.hid hne
  have HM := Lib.hid hM

  obtain ⟨u, v, hg⟩ := E.out.mod hM (fun h => hqg h.symm)
  have hgl : 5 < w1.heap.size := lt_of_cell hg
  clear hB hne hb1 hM
  go_wp2_with fail
  go_ret
  exact ⟨u, v, rfl, (((HM.out.set1 _).set1 _).set1 _).set1 _⟩

set_option maxHeartbeats 2000000 in
set_option maxRecDepth 20000 in
theorem pd_ishort {w : World} {b off n c : Nat} {l : List Int} (h : ChunkAt w b off n c l) (hw : be2 l 2 = n) (q : Nat)
    (hq : w.heap[q]? = some (.cells data0 90 (0, 0))) (hqb : q ≠ b) (h0 : l.getD 0 0 = 64) (hn : n < 20) (e0 : GlobErr w 5) (hqg : q ≠ 5) :
    Calls Tryd.prog 37 #[.pointer (some ⟨q, 0, none⟩), .slice (some ⟨b, off, none⟩) n c] w (ErrPost (· = q) w) := by
  have HC := Lib.hid (hdr_w h hw q data0 90 hq (by simp [data0, dataC]) hqb)
  have HL := Lib.hid h.len
  have hs := h.small
  have hge := h.ge
  obtain ⟨f, hf⟩ : ∃ x, x = l.getD 1 0 := ⟨_, rfl⟩
  have HF := Lib.hid hf
  have hfb := h.byte 1
  rw [← hf] at hfb
  obtain ⟨hf0, hf1⟩ := hfb
  obtain ⟨x, hx⟩ : ∃ x, x = l.getD 0 0 := ⟨_, rfl⟩
  have HX := Lib.hid hx
  obtain rfl : 64 = x := by rw [hx, h0]
  have E := Lib.hid e0
  clear h0 e0
  clear h hw hq hf hx
  go_enter Tryd.func37, Tryd.ntmps37
  go_wp2_with fail
  refine HC.out.mono ?_
  rintro e w1 ⟨rfl, hM, ao, c1, hB, hne, hb1⟩
  rw [← HX.out, HL.out, ← HF.out] at hb1
  rw [HL.out] at hB
  obtain ⟨m, hm⟩ : ∃ m, m = n - 4 := ⟨_, rfl⟩
  rw [← hm] at hb1 hB
  have HMN := Lib.hid hm
  have hm12 : (m : Int) < 16 := by omega
  clear hm
  have hq1 : q < w1.heap.size := (Array.getElem?_eq_some_iff.1 hb1).1
  replace hb1 : w1.heap[q]? = some (.cells (dataH 64 f (.slice ao m c1)) 90 (0, 0)) := hb1
  have B1 := Lib.hid hb1
  have g0 : w1.cell? ⟨q, 0, none⟩ = some (.int .u8 64) := by rw [cell_of_block hb1]; rfl
  have g1 : w1.cell? ⟨q, 1, none⟩ = some (.int .u8 f) := by rw [cell_of_block hb1]; rfl
  have g2 : w1.cell? ⟨q, 2, none⟩ = some (.slice ao m c1) := by rw [cell_of_block hb1]; rfl
  have g4 : w1.cell? ⟨q, 4, none⟩ = some (.bool false) := by rw [cell_of_block hb1]; rfl
  have g5 : w1.cell? ⟨q, 5, none⟩ = some (.bool false) := by rw [cell_of_block hb1]; rfl
  have g6 : w1.cell? ⟨q, 6, none⟩ = some (.bool false) := by rw [cell_of_block hb1]; rfl
  have g7 : w1.cell? ⟨q, 7, none⟩ = some (.bool false) := by rw [cell_of_block hb1]; rfl
  have f4 : w1.frozen? ⟨q, 4, none⟩ = false := frozen_of_block hb1
  have f5 : w1.frozen? ⟨q, 5, none⟩ = false := frozen_of_block hb1
  have f6 : w1.frozen? ⟨q, 6, none⟩ = false := frozen_of_block hb1
  have f7 : w1.frozen? ⟨q, 7, none⟩ = false := frozen_of_block hb1
  have hc1 := hB.cap
  have HB := Lib.hid hB
  have HN := Lib.hid hne
  have HM := Lib.hid hM

  obtain ⟨u, v, hg⟩ := E.out.mod hM (fun h => hqg h.symm)
  have hgl : 5 < w1.heap.size := lt_of_cell hg
  clear hB hne hb1 hM
  go_wp2_with fail
  go_ret
  exact ⟨u, v, rfl, (((HM.out.set1 _).set1 _).set1 _).set1 _⟩

end Go.Proofs.YtnajpmdnadjipaaDoor
