/- Part of the proof of laws.FnDataAny: what spec.DataOf returns of a chunk whose flags are of four bits; conditions: as each theorem states. -/
import Derived.Test.YtnajpmdnadjipaaDoorF3
namespace Go.Proofs.YtnajpmdnadjipaaDoor
open Go.RowKit
set_option linter.unusedVariables false

theorem flags4 (f : Int) (h0 : 0 ≤ f) (h1 : f < 16) : (bits .and .u8 f 1 == 1) = (bits .and .u8 f 1 != 0) ∧ (bits .and .u8 f 2 == 2) = (bits .and .u8 f 2 != 0) ∧ (bits .and .u8 f 4 == 4) = (bits .and .u8 f 4 != 0) ∧ (bits .and .u8 f 8 == 8) = (bits .and .u8 f 8 != 0) := by
  have : f = 0 ∨ f = 1 ∨ f = 2 ∨ f = 3 ∨ f = 4 ∨ f = 5 ∨ f = 6 ∨ f = 7 ∨ f = 8 ∨ f = 9 ∨ f = 10 ∨ f = 11 ∨ f = 12 ∨ f = 13 ∨ f = 14 ∨ f = 15 := by omega
  rcases this with rfl | rfl | rfl | rfl | rfl | rfl | rfl | rfl | rfl | rfl | rfl | rfl | rfl | rfl | rfl | rfl <;> decide

/-- What spec.DataOf hands back where there is a chunk: its bytes lie in the chunk's own. -/
def SpecIs (w : World) (l : List Int) (v : Value) (e : Ending) (w' : World) : Prop := e = .returned (.tuple #[dataV l v, .bool true]) ∧ Below w.heap.size w w'

set_option maxHeartbeats 1000000 in
set_option maxRecDepth 20000 in
theorem specData_no {w : World} {b off n c : Nat} {l : List Int} (h : ChunkAt w b off n c l) (hno : l.getD 0 0 ≠ 0 ∨ n < 17) :
    Calls Tryd.prog 13 #[.slice (some ⟨b, off, none⟩) n c] w (DataNot w) := by
  obtain ⟨x, hx⟩ : ∃ x, x = l.getD 0 0 := ⟨_, rfl⟩
  have hb := h.lt
  have g0 : w.cell? ⟨b, off, none⟩ = some (.int .u8 x) := by rw [hx]; exact h.cell 0 (by have := h.ge; omega)
  have hn0 : (0 : Int) < n := by have := h.ge; omega
  have hn1 : 0 < n := by have := h.ge; omega
  have hs := h.small
  rw [← hx] at hno
  have hA := heap_new w (.cells im0 32)
  have A0 := Lib.hid hA
  have hW : Hid (Below w.heap.size w (w.alloc (.cells im0 32))) := Lib.hid ((Below.refl _ w).alloc (Nat.le_refl _) _)
  clear h hx hA
  by_cases h0 : x = 0
  · subst h0
    have hn : (n : Int) < 17 := by rcases hno with h | h; exact absurd rfl h; omega
    clear hno
    go_enter Tryd.func13, Tryd.ntmps13
    go_wp2_with fail
    refine bodyPost_ret (v := .tuple #[.agg im0, .bool false]) (by simp [results, Tryd.results13, go_sem, im0]) rfl ?_
    exact ⟨rfl, (Below.refl _ w).alloc (Nat.le_refl _) _⟩
  · have hx0 : (x == 0) = false := by simpa using h0
    clear hno
    go_enter Tryd.func13, Tryd.ntmps13
    go_wp2_with fail
    refine bodyPost_ret (v := .tuple #[.agg im0, .bool false]) (by simp [results, Tryd.results13, go_sem, im0]) rfl ?_
    exact ⟨rfl, (Below.refl _ w).alloc (Nat.le_refl _) _⟩

set_option maxHeartbeats 1000000 in
set_option maxRecDepth 20000 in
theorem specData_yes {w : World} {b off n c : Nat} {l : List Int} (h : ChunkAt w b off n c l) (h0 : l.getD 0 0 = 0) (hn : 17 ≤ n) (h1 : l.getD 1 0 < 16) :
    Calls Tryd.prog 13 #[.slice (some ⟨b, off, none⟩) n c] w (SpecIs w l (.slice (some ⟨b, off + 16, none⟩) (n - 16) (c - 16))) := by
  have hb := h.lt
  have hh := h.mod ((Mod.refl (fun _ => False) w).alloc (.cells #[.bool false, .bool false, .bool false, .bool false, .int .u32 0, .int .i64 0, .int .i64 0, .int .u32 0, .slice none 0 0] 32)).drew (fun h => h)
  have A4 := Lib.hid (at4 b off n c l 4 _ (by omega) h.small h.cap hh.cell h.byte 4 rfl)
  have A8 := Lib.hid (at2 b off n c l 8 _ (by omega) h.small h.cap hh.cell h.byte 8 rfl)
  have A10 := Lib.hid (at2 b off n c l 10 _ (by omega) h.small h.cap hh.cell h.byte 10 rfl)
  have A12 := Lib.hid (at4 b off n c l 12 _ (by omega) h.small h.cap hh.cell h.byte 12 rfl)
  obtain ⟨f, hf⟩ : ∃ x, x = l.getD 1 0 := ⟨_, rfl⟩
  have g0 : w.cell? ⟨b, off, none⟩ = some (.int .u8 0) := by rw [← h0]; exact h.cell 0 (by omega)
  have g1 : w.cell? ⟨b, off + 1, none⟩ = some (.int .u8 f) := by rw [hf]; exact h.cell 1 (by omega)
  have hn0 : (0 : Int) < n := by omega
  have hn1 : (1 : Int) < n := by omega
  have hn2 : 0 < n := by omega
  have hn17 : (17 : Int) ≤ n := by omega
  have hn16 : (16 : Int) ≤ n := by omega
  have hs := h.small
  have hcn := h.cap
  have hc16 : ¬ c = 16 := by omega
  have F4 := flags4 f (by rw [hf]; exact (h.byte 1).1) (by rw [hf]; exact h1)
  have q4 := be4_bound h.byte 4; have q8 := be2_bound h.byte 8; have q10 := be2_bound h.byte 10; have q12 := be4_bound h.byte 12
  obtain ⟨y4, e4⟩ : ∃ y, y = be4 l 4 := ⟨_, rfl⟩
  obtain ⟨y5, e5⟩ : ∃ y, y = be2 l 8 := ⟨_, rfl⟩
  obtain ⟨y6, e6⟩ : ∃ y, y = be2 l 10 := ⟨_, rfl⟩
  obtain ⟨y7, e7⟩ : ∃ y, y = be4 l 12 := ⟨_, rfl⟩
  rw [← e4] at q4 A4; rw [← e5] at q8 A8; rw [← e6] at q10 A10; rw [← e7] at q12 A12
  obtain ⟨q4l, q4r⟩ := q4; obtain ⟨q8l, q8r⟩ := q8; obtain ⟨q10l, q10r⟩ := q10; obtain ⟨q12l, q12r⟩ := q12
  have W4 : IntKind.u32.wrap y4 = y4 := wraps_u32 y4 (by omega) (by omega)
  have W7 : IntKind.u32.wrap y7 = y7 := wraps_u32 y7 (by omega) (by omega)
  have EQ := Lib.hid (And.intro hf (And.intro e4 (And.intro e5 (And.intro e6 e7))))
  have HF4 := Lib.hid F4
  clear h hh h0 h1 hf F4 e4 e5 e6 e7
  go_enter Tryd.func13, Tryd.ntmps13
  go_wp2_with fail
  go_region_held3 (fun _ => True) (trivial) (first | (go_at_call 26; (with_reducible refine (A4.out).mono ?_); rintro e w1 ⟨rfl, rfl⟩) | (go_at_call 26; (with_reducible refine (A8.out).mono ?_); rintro e w1 ⟨rfl, rfl⟩) | (go_at_call 26; (with_reducible refine (A10.out).mono ?_); rintro e w1 ⟨rfl, rfl⟩) | (go_at_call 26; (with_reducible refine (A12.out).mono ?_); rintro e w1 ⟨rfl, rfl⟩))
  go_wp2_with fail
  obtain ⟨F41, F42, F44, F48⟩ := HF4.out
  rw [F41, F42, F44, F48]
  generalize hW : World.alloc _ _ = w5
  have hb5 : w5.heap[w.heap.size]? = some (.cells #[.bool (bits .and .u8 f 4 != 0), .bool (bits .and .u8 f 2 != 0), .bool (bits .and .u8 f 1 != 0), .bool (bits .and .u8 f 8 != 0), .int .u32 y4, .int .i64 y5, .int .i64 y6, .int .u32 y7, .slice (some ⟨b, off + 16, none⟩) (n - 16) (c - 16)] 32 (0, 0)) := by rw [← hW]; exact heap_new w _
  have hL5 : Below w.heap.size w w5 := by rw [← hW]; exact (Below.refl _ w).alloc (Nat.le_refl _) _
  clear hW

  have k0 : w5.cell? ⟨w.heap.size, 0, none⟩ = some (.bool (bits .and .u8 f 4 != 0)) := by rw [cell_of_block hb5]; rfl
  have k1 : w5.cell? ⟨w.heap.size, 1, none⟩ = some (.bool (bits .and .u8 f 2 != 0)) := by rw [cell_of_block hb5]; rfl
  have k2 : w5.cell? ⟨w.heap.size, 2, none⟩ = some (.bool (bits .and .u8 f 1 != 0)) := by rw [cell_of_block hb5]; rfl
  have k3 : w5.cell? ⟨w.heap.size, 3, none⟩ = some (.bool (bits .and .u8 f 8 != 0)) := by rw [cell_of_block hb5]; rfl
  have k4 : w5.cell? ⟨w.heap.size, 4, none⟩ = some (.int .u32 y4) := by rw [cell_of_block hb5]; rfl
  have k5 : w5.cell? ⟨w.heap.size, 5, none⟩ = some (.int .i64 y5) := by rw [cell_of_block hb5]; rfl
  have k6 : w5.cell? ⟨w.heap.size, 6, none⟩ = some (.int .i64 y6) := by rw [cell_of_block hb5]; rfl
  have k7 : w5.cell? ⟨w.heap.size, 7, none⟩ = some (.int .u32 y7) := by rw [cell_of_block hb5]; rfl
  have k8 : w5.cell? ⟨w.heap.size, 8, none⟩ = some (.slice (some ⟨b, off + 16, none⟩) (n - 16) (c - 16)) := by rw [cell_of_block hb5]; rfl
  refine bodyPost_ret (v := .tuple #[.agg #[.bool (bits .and .u8 f 4 != 0), .bool (bits .and .u8 f 2 != 0), .bool (bits .and .u8 f 1 != 0), .bool (bits .and .u8 f 8 != 0), .int .u32 y4, .int .i64 y5, .int .i64 y6, .int .u32 y7, .slice (some ⟨b, off + 16, none⟩) (n - 16) (c - 16)], .bool true]) (by simp [results, Tryd.results13, go_sem, k0, k1, k2, k3, k4, k5, k6, k7, k8]) rfl ?_
  obtain ⟨rfl, rfl, rfl, rfl, rfl⟩ := EQ.out
  exact ⟨rfl, hL5.drew⟩
end Go.Proofs.YtnajpmdnadjipaaDoor
