/- Part of the proof of laws.FnSackAny: the bytes that spec.Sack writes of a chunk with a number alone; conditions: none. -/
import Derived.Test.YtnajpmdnadjipaaDoorN4
namespace Go.Proofs.YtnajpmdnadjipaaDoor
open Go.RowKit
set_option linter.unusedVariables false

theorem quad_below {w w' : World} {s : Nat} {v0 v1 v2 v3 : Value} (hb : Below w.heap.size w w') (hs : s < w.heap.size)
    (h : w.cell? ⟨s, 0, none⟩ = some (v0) ∧ w.cell? ⟨s, 1, none⟩ = some (v1) ∧ w.cell? ⟨s, 2, none⟩ = some (v2) ∧ w.cell? ⟨s, 3, none⟩ = some (v3)) :
    w'.cell? ⟨s, 0, none⟩ = some (v0) ∧ w'.cell? ⟨s, 1, none⟩ = some (v1) ∧ w'.cell? ⟨s, 2, none⟩ = some (v2) ∧ w'.cell? ⟨s, 3, none⟩ = some (v3) :=
  ⟨(hb.cell (p := ⟨s, 0, none⟩) hs).trans h.1, (hb.cell (p := ⟨s, 1, none⟩) hs).trans h.2.1, (hb.cell (p := ⟨s, 2, none⟩) hs).trans h.2.2.1, (hb.cell (p := ⟨s, 3, none⟩) hs).trans h.2.2.2⟩
theorem quad_alloc {w : World} {s : Nat} {v0 v1 v2 v3 : Value} (o : Obj) (hs : s < w.heap.size)
    (h : w.cell? ⟨s, 0, none⟩ = some (v0) ∧ w.cell? ⟨s, 1, none⟩ = some (v1) ∧ w.cell? ⟨s, 2, none⟩ = some (v2) ∧ w.cell? ⟨s, 3, none⟩ = some (v3)) :
    (w.alloc o).cell? ⟨s, 0, none⟩ = some (v0) ∧ (w.alloc o).cell? ⟨s, 1, none⟩ = some (v1) ∧ (w.alloc o).cell? ⟨s, 2, none⟩ = some (v2) ∧ (w.alloc o).cell? ⟨s, 3, none⟩ = some (v3) :=
  quad_below ((Below.refl _ w).alloc (Nat.le_refl _) o) hs h

set_option maxHeartbeats 1000000 in
set_option maxRecDepth 20000 in
theorem sack_one (w : World) : Calls Tryd.prog 18 #[.agg #[.int .u32 1, .int .u32 0, .slice none 0 0, .slice none 0 0]] w (Copied w 16 [3, 0, 0, 16, 0, 0, 0, 1, 0, 0, 0, 0, 0, 0, 0, 0]) := by
  go_enter Tryd.func18, Tryd.ntmps18
  go_wp2_with fail
  generalize hW : World.alloc w _ = w0
  have hL0 : Below w.heap.size w w0 := by rw [← hW]; exact (Below.refl _ w).alloc (Nat.le_refl _) _
  have hb0 : w0.heap[w.heap.size]? = some (.cells #[.int .u32 1, .int .u32 0, .slice none 0 0, .slice none 0 0] 39 (0, 0)) := by rw [← hW]; exact heap_new w _
  have hq0 : w.heap.size < w0.heap.size := (Array.getElem?_eq_some_iff.1 hb0).1
  have d0 : w0.cell? ⟨w.heap.size, 0, none⟩ = some (.int .u32 1) := by rw [cell_of_block hb0]; rfl
  have d1 : w0.cell? ⟨w.heap.size, 1, none⟩ = some (.int .u32 0) := by rw [cell_of_block hb0]; rfl
  have d2 : w0.cell? ⟨w.heap.size, 2, none⟩ = some (.slice none 0 0) := by rw [cell_of_block hb0]; rfl
  have d3 : w0.cell? ⟨w.heap.size, 3, none⟩ = some (.slice none 0 0) := by rw [cell_of_block hb0]; rfl
  have SD : w0.drew.cell? ⟨w.heap.size, 0, none⟩ = some (.int .u32 1) ∧ w0.drew.cell? ⟨w.heap.size, 1, none⟩ = some (.int .u32 0) ∧ w0.drew.cell? ⟨w.heap.size, 2, none⟩ = some (.slice none 0 0) ∧ w0.drew.cell? ⟨w.heap.size, 3, none⟩ = some (.slice none 0 0) := ⟨d0, d1, d2, d3⟩
  have SD := Lib.hid SD
  have HL0 := Lib.hid hL0
  have W0 : IntKind.i64.wrap 0 = 0 := by decide
  have W1 : IntKind.i64.wrap 1 = 1 := by decide
  have tok1 : True := trivial
  have tok2 : True := trivial
  have tok3 : True := trivial
  have tok4 : True := trivial
  clear hW hL0 hb0 d0 d1 d2 d3
  have HJ : ∀ (w0 w1 w2 w3 w4 : World) (p1 p2 p3 p4 : Addr) (c1 c2 c3 c4 : Nat), Below w0.heap.size w0 w1 → BytesAt w1 (some p1) 4 c1 [0, 0, 0, 1] → Below w1.heap.size w1 w2 → BytesAt w2 (some p2) 4 c2 [0, 0, 0, 0] → Below w2.heap.size w2 w3 → BytesAt w3 (some p3) 2 c3 [0, 0] → Below w3.heap.size w3 w4 → BytesAt w4 (some p4) 2 c4 [0, 0] →
      Calls Tryd.prog 31 #[.slice (some ⟨w4.heap.size, 0, none⟩) 4 4] (w4.alloc (.cells #[.slice (some p1) 4 c1, .slice (some p2) 4 c2, .slice (some p3) 2 c3, .slice (some p4) 2 c4] 22)) (Copied (w4.alloc (.cells #[.slice (some p1) 4 c1, .slice (some p2) 4 c2, .slice (some p3) 2 c3, .slice (some p4) 2 c4] 22)) 12 [0, 0, 0, 1, 0, 0, 0, 0, 0, 0, 0, 0]) := by
    intro w0 w1 w2 w3 w4 p1 p2 p3 p4 c1 c2 c3 c4 l1 b1 l2 b2 l3 b3 l4 b4
    have M4 : Mod (fun _ => False) w4 (w4.alloc (.cells #[.slice (some p1) 4 c1, .slice (some p2) 4 c2, .slice (some p3) 2 c3, .slice (some p4) 2 c4] 22)) := (Mod.refl _ w4).alloc _
    have M3 := (Mod.of_below (S := fun _ => False) l4).trans M4
    have M2 := (Mod.of_below (S := fun _ => False) l3).trans M3
    have M1 := (Mod.of_below (S := fun _ => False) l2).trans M2
    refine (joined_any w4.heap.size [⟨p1, 4, c1, [0, 0, 0, 1]⟩, ⟨p2, 4, c2, [0, 0, 0, 0]⟩, ⟨p3, 2, c3, [0, 0]⟩, ⟨p4, 2, c4, [0, 0]⟩] _ (fun i h => by rw [cell_of_block (heap_new w4 _)]; match i, h with | 0, _ => rfl | 1, _ => rfl | 2, _ => rfl | 3, _ => rfl)
      (fun i h => by match i, h with | 0, _ => exact b1.mod M1 (fun _ _ h => h) | 1, _ => exact b2.mod M2 (fun _ _ h => h) | 2, _ => exact b3.mod M3 (fun _ _ h => h) | 3, _ => exact b4.mod M4 (fun _ _ h => h))
      (by simp) (by simp) (by simp [flat])).mono fun e w' h => copied_cast h (by simp [flat]) (by simp [flat])
  have HJ := Lib.hid HJ
  go_region_held3 (fun w' => w'.cell? ⟨w.heap.size, 0, none⟩ = some (.int .u32 1) ∧ w'.cell? ⟨w.heap.size, 1, none⟩ = some (.int .u32 0) ∧ w'.cell? ⟨w.heap.size, 2, none⟩ = some (.slice none 0 0) ∧ w'.cell? ⟨w.heap.size, 3, none⟩ = some (.slice none 0 0)) (first | with_reducible exact SD.out | with_reducible exact S1 | with_reducible exact S2 | with_reducible exact S3 | with_reducible exact S4 | with_reducible exact quad_alloc _ hq4 S4 | with_reducible exact S5) (first | (go_at_call 32; have _t := tok1; (with_reducible refine (number4 1 _ (by decide) (by decide)).mono ?_); rintro e w1 ⟨a1, c1, rfl, hB1, hf1, hc1, hx1⟩; obtain ⟨p1, rfl⟩ := hB1.some (by omega); have S1 := quad_below hx1 hq0 SD.out; have hq1 : w.heap.size < w1.heap.size := Nat.lt_of_lt_of_le hq0 hx1.size; clear tok1) | (go_at_call 32; have _t := tok2; (with_reducible refine (number4 0 _ (by decide) (by decide)).mono ?_); rintro e w2 ⟨a2, c2, rfl, hB2, hf2, hc2, hx2⟩; obtain ⟨p2, rfl⟩ := hB2.some (by omega); have S2 := quad_below hx2 hq1 S1; have hq2 : w.heap.size < w2.heap.size := Nat.lt_of_lt_of_le hq1 hx2.size; clear tok2) | (go_at_call 32; have _t := tok3; (with_reducible refine (number2 0 _ (by decide) (by decide)).mono ?_); rintro e w3 ⟨a3, c3, rfl, hB3, hf3, hc3, hx3⟩; obtain ⟨p3, rfl⟩ := hB3.some (by omega); have S3 := quad_below hx3 hq2 S2; have hq3 : w.heap.size < w3.heap.size := Nat.lt_of_lt_of_le hq2 hx3.size; clear tok3) | (go_at_call 32; have _t := tok4; (with_reducible refine (number2 0 _ (by decide) (by decide)).mono ?_); rintro e w4 ⟨a4, c4, rfl, hB4, hf4, hc4, hx4⟩; obtain ⟨p4, rfl⟩ := hB4.some (by omega); have S4 := quad_below hx4 hq3 S3; have hq4 : w.heap.size < w4.heap.size := Nat.lt_of_lt_of_le hq3 hx4.size; clear tok4) | (go_at_call 31; (with_reducible refine (HJ.out w0.drew w1 w2 w3 w4 p1 p2 p3 p4 c1 c2 c3 c4 hx1 hB1 hx2 hB2 hx3 hB3 hx4 hB4).mono ?_); rintro e w5 ⟨a5, c5, rfl, hB5, hf5, hc5, hx5⟩; obtain ⟨p5, rfl⟩ := hB5.some (by omega); have SA := quad_alloc (.cells #[.slice (some p1) 4 c1, .slice (some p2) 4 c2, .slice (some p3) 2 c3, .slice (some p4) 2 c4] 22) hq4 S4; have hqa : w.heap.size < (w4.alloc (.cells #[.slice (some p1) 4 c1, .slice (some p2) 4 c2, .slice (some p3) 2 c3, .slice (some p4) 2 c4] 22)).heap.size := (by simp; omega); have S5 := quad_below hx5 hqa SA; have hq5 : w.heap.size < w5.heap.size := Nat.lt_of_lt_of_le hqa hx5.size))
  have e1 := HL0.out.drew.trans (hx1.mono (Nat.le_of_lt hq0))
  have e2 := e1.trans (hx2.mono (Nat.le_of_lt hq1))
  have e3 := e2.trans (hx3.mono (Nat.le_of_lt hq2))
  have e4 := e3.trans (hx4.mono (Nat.le_of_lt hq3))
  have e5 := (e4.alloc (Nat.le_of_lt hq4) (.cells #[.slice (some p1) 4 c1, .slice (some p2) 4 c2, .slice (some p3) 2 c3, .slice (some p4) 2 c4] 22)).trans (hx5.mono (Nat.le_of_lt hqa))
  have E5 := Lib.hid e5
  have HB5 := Lib.hid hB5
  have HF5 := Lib.hid hf5
  obtain ⟨g0, g1, g2, g3⟩ := S5
  clear e1 e2 e3 e4 e5 hx1 hx2 hx3 hx4 hx5 hB1 hB2 hB3 hB4 hB5 S1 S2 S3 S4 SA hf1 hf2 hf3 hf4 hf5 HJ
  go_wp2_with fail
  refine wp_loop_rounds 1 ?_
  rw [rounds_succ]
  go_wp2_with fail
  refine wp_loop_rounds 1 ?_
  rw [rounds_succ]
  go_wp2_with fail
  refine (chunk_any 3 0 (by decide) (by decide) p5 12 c5 _ w5 HB5.out (by decide)).mono ?_
  rintro e w6 ⟨a6, c6, rfl, hB6, hf6, hc6, hx6⟩
  have E6 := Lib.hid (E5.out.trans (hx6.mono (Nat.le_of_lt hq5)))
  have HB6 := Lib.hid hB6
  have HX6 := Lib.hid hx6
  have HF6 := Lib.hid hf6
  clear hx6 hB6 hf6 g0 g1 g2 g3
  go_wp2_with fail
  go_ret
  have hl : Copied w5 (4 + 12) ([3, 0, 0, 4 + ((12 : Nat) : Int)] ++ [0, 0, 0, 1, 0, 0, 0, 0, 0, 0, 0, 0]) (.returned (.slice a6 16 c6)) w6 := ⟨a6, c6, rfl, HB6.out, HF6.out, hc6, HX6.out⟩
  obtain ⟨a7, c7, e7, hB7, hf7, hc7, _⟩ := copied_cast hl (n' := 16) (l' := [3, 0, 0, 16, 0, 0, 0, 1, 0, 0, 0, 0, 0, 0, 0, 0]) rfl rfl
  exact ⟨a7, c7, e7, hB7, fun a ha => Nat.le_trans (Nat.le_of_lt hq5) (hf7 a ha), hc7, E6.out⟩
end Go.Proofs.YtnajpmdnadjipaaDoor
