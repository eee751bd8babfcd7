/- Part of the proofs of laws.FnDataAny, FnSackAny, FnForwardAny: what spec.Chunk returns of a small value, and the three chunks that these statements take as examples; conditions: as each theorem states. -/
import Derived.Test.YtnajpmdnadjipaaDoorN2
namespace Go.Proofs.YtnajpmdnadjipaaDoor
open Go.RowKit
set_option linter.unusedVariables false

theorem BytesAt.some {w : World} {ao : Option Addr} {n c : Nat} {l : List Int} (h : BytesAt w ao n c l) (hn : 0 < n) : ∃ a, ao = some a := by
  cases ao with
  | none => exact absurd (h.nil rfl) (by omega)
  | some a => exact ⟨a, rfl⟩

theorem two_at (w : World) (x y : Int) (hx : 0 ≤ x ∧ x < 256) (hy : 0 ≤ y ∧ y < 256) : BytesAt (w.alloc (.cells #[.int .u8 x, .int .u8 y] 5)) (some ⟨w.heap.size, 0, none⟩) 2 2 [x, y] := by
  refine ⟨rfl, Nat.le_refl _, (fun h => by simp at h), fun a ha i hi => ?_, fun i => ?_⟩
  · obtain rfl := Option.some.inj ha
    rw [show (⟨w.heap.size, 0, none⟩ : Addr).add i = ⟨w.heap.size, i, none⟩ from by unfold Addr.add; split <;> simp_all, cell_of_block (heap_new w _)]
    match i, hi with
    | 0, _ => rfl
    | 1, _ => rfl
  · match i with
    | 0 => exact hx
    | 1 => exact hy
    | i + 2 => simp

set_option maxHeartbeats 1000000 in
theorem chunk_any (x y : Int) (hx : 0 ≤ x ∧ x < 256) (hy : 0 ≤ y ∧ y < 256) (a : Addr) (n c : Nat) (l : List Int) (w : World) (h : BytesAt w (some a) n c l) (hn : n ≤ 200) :
    Calls Tryd.prog 33 #[.int .i64 x, .int .i64 y, .slice (some a) n c] w (Copied w (4 + n) ([x, y, 0, 4 + (n : Int)] ++ l)) := by
  have hM1 : Mod (fun _ => False) w (w.alloc (.cells #[.int .u8 x, .int .u8 y] 5)) := (Mod.refl _ w).alloc _
  have HC := Lib.hid (number2 (4 + n) (w.alloc (.cells #[.int .u8 x, .int .u8 y] 5)) (by omega) (by omega))
  have HT := Lib.hid (two_at w x y hx hy)
  have HV := Lib.hid (h.mod hM1 (fun _ _ h => h))
  have HL := Lib.hid h.len
  obtain ⟨hx0, hx1⟩ := hx
  obtain ⟨hy0, hy1⟩ := hy
  clear h hM1
  go_enter Tryd.func33, Tryd.ntmps33
  go_wp2_with fail
  refine HC.out.mono ?_
  rintro e w1 ⟨a1, c1, rfl, hB, hf, hc1, hL1⟩
  obtain ⟨ad, rfl⟩ := hB.some (by omega)
  have hM : Mod (fun _ => False) (w.alloc (.cells #[.int .u8 x, .int .u8 y] 5)) w1 := Mod.of_below hL1
  have hT1 := HT.out.mod hM (fun _ _ h => h)
  have hV1 := HV.out.mod hM (fun _ _ h => h)
  have hA : Mod (fun _ => False) w1 (w1.alloc (.cells #[.slice (some ⟨w.heap.size, 0, none⟩) 2 2, .slice (some ad) 2 c1, .slice (some a) n c] 22)) := (Mod.refl _ w1).alloc _
  have HJ := Lib.hid (joined_any w1.heap.size [⟨⟨w.heap.size, 0, none⟩, 2, 2, [x, y]⟩, ⟨ad, 2, c1, [0, 4 + n]⟩, ⟨a, n, c, l⟩] (w1.alloc (.cells #[.slice (some ⟨w.heap.size, 0, none⟩) 2 2, .slice (some ad) 2 c1, .slice (some a) n c] 22))
    (fun i h => by rw [cell_of_block (heap_new w1 _)]; match i, h with | 0, _ => rfl | 1, _ => rfl | 2, _ => rfl)
    (fun i h => by match i, h with | 0, _ => exact hT1.mod hA (fun _ _ h => h) | 1, _ => exact hB.mod hA (fun _ _ h => h) | 2, _ => exact hV1.mod hA (fun _ _ h => h))
    (by simp) (by simp) (by simp [flat, HL.out]; omega))
  have hL := ((Below.refl w.heap.size w).alloc (Nat.le_refl _) (.cells #[.int .u8 x, .int .u8 y] 5)).trans (hL1.mono (by simp))
  have HLL := Lib.hid hL
  clear hB hf hL1 hM hT1 hV1 hA hL
  go_wp2_with fail
  refine HJ.out.mono ?_
  rintro e w2 ⟨a2, c2, rfl, hB2, hf2, hc2, hL2⟩
  have hsz := HLL.out.size
  have HB2 := Lib.hid hB2
  have HF2 := Lib.hid hf2
  have HL2 := Lib.hid ((HLL.out.alloc hsz (.cells #[.slice (some ⟨w.heap.size, 0, none⟩) 2 2, .slice (some ad) 2 c1, .slice (some a) n c] 22)).trans (hL2.mono (by simp; omega)))
  clear hB2 hf2 hL2
  go_wp2_with fail
  go_ret
  have e1 : (flat [⟨⟨w.heap.size, 0, none⟩, 2, 2, [x, y]⟩, ⟨ad, 2, c1, [0, 4 + (n : Int)]⟩, ⟨a, n, c, l⟩]) = [x, y, 0, 4 + (n : Int)] ++ l := by simp [flat]
  have e2 : (flat [⟨⟨w.heap.size, 0, none⟩, 2, 2, [x, y]⟩, ⟨ad, 2, c1, [0, 4 + (n : Int)]⟩, ⟨a, n, c, l⟩]).length = 4 + n := by rw [e1]; simp [HL.out]; omega
  have hB3 := HB2.out
  rw [e2, e1] at hB3
  refine ⟨a2, c2, ?_, hB3, fun a ha => Nat.le_trans (by simp; omega) (HF2.out a ha), hc2, HL2.out⟩
  simp only [Array.getD_eq_getD_getElem?]; exact congrArg (fun t => Ending.returned (.slice a2 t c2)) e2

theorem flag_any (t : Bool) (n : Int) (w : World) : Calls Tryd.prog 38 #[.bool t, .int .i64 n] w fun e w' => e = .returned (.int .i64 (if t then n else 0)) ∧ w' = w := by
  cases t
  · go_enter Tryd.func38, Tryd.ntmps38
    go_wp2
    go_ret
    exact ⟨rfl, rfl⟩
  · go_enter Tryd.func38, Tryd.ntmps38
    go_wp2
    go_ret
    exact ⟨rfl, rfl⟩

theorem copied_cast {w w' : World} {n n' : Nat} {l l' : List Int} {e : Ending} (h : Copied w n l e w') (hn : n = n') (hl : l = l') : Copied w n' l' e w' := by
  subst hn hl; exact h
theorem five_below {w w' : World} {q : Nat} {v0 v1 v2 v3 v4 : Value} (hb : Below w.heap.size w w') (hq : q < w.heap.size)
    (h : w.cell? ⟨q, 4, none⟩ = some v0 ∧ w.cell? ⟨q, 5, none⟩ = some v1 ∧ w.cell? ⟨q, 6, none⟩ = some v2 ∧ w.cell? ⟨q, 7, none⟩ = some v3 ∧ w.cell? ⟨q, 8, none⟩ = some v4) : w'.cell? ⟨q, 4, none⟩ = some v0 ∧ w'.cell? ⟨q, 5, none⟩ = some v1 ∧ w'.cell? ⟨q, 6, none⟩ = some v2 ∧ w'.cell? ⟨q, 7, none⟩ = some v3 ∧ w'.cell? ⟨q, 8, none⟩ = some v4 :=
  ⟨(hb.cell (p := ⟨q, 4, none⟩) hq).trans h.1, (hb.cell (p := ⟨q, 5, none⟩) hq).trans h.2.1, (hb.cell (p := ⟨q, 6, none⟩) hq).trans h.2.2.1, (hb.cell (p := ⟨q, 7, none⟩) hq).trans h.2.2.2.1, (hb.cell (p := ⟨q, 8, none⟩) hq).trans h.2.2.2.2⟩
theorem five_alloc {w : World} {q : Nat} {v0 v1 v2 v3 v4 : Value} (o : Obj) (hq : q < w.heap.size)
    (h : w.cell? ⟨q, 4, none⟩ = some v0 ∧ w.cell? ⟨q, 5, none⟩ = some v1 ∧ w.cell? ⟨q, 6, none⟩ = some v2 ∧ w.cell? ⟨q, 7, none⟩ = some v3 ∧ w.cell? ⟨q, 8, none⟩ = some v4) : (w.alloc o).cell? ⟨q, 4, none⟩ = some v0 ∧ (w.alloc o).cell? ⟨q, 5, none⟩ = some v1 ∧ (w.alloc o).cell? ⟨q, 6, none⟩ = some v2 ∧ (w.alloc o).cell? ⟨q, 7, none⟩ = some v3 ∧ (w.alloc o).cell? ⟨q, 8, none⟩ = some v4 :=
  five_below ((Below.refl _ w).alloc (Nat.le_refl _) o) hq h

set_option maxHeartbeats 1000000 in
set_option maxRecDepth 20000 in
theorem data_one (a : Addr) (w : World) (h : BytesAt w (some a) 1 1 [1]) :
    Calls Tryd.prog 28 #[.agg #[.bool false, .bool true, .bool true, .bool false, .int .u32 0, .int .i64 0, .int .i64 0, .int .u32 0, .slice (some a) 1 1]] w (Copied w 17 [0, 3, 0, 17, 0, 0, 0, 0, 0, 0, 0, 0, 0, 0, 0, 0, 1]) := by
  have HV := Lib.hid h
  clear h
  go_enter Tryd.func28, Tryd.ntmps28
  go_wp2_with fail
  go_quiet ((go_at_call 38; exact Calls.quiet_of_same (flag_any _ _ _)))
  go_wp2_with fail
  rw [show bits BinOp.or IntKind.i64 (bits BinOp.or IntKind.i64 (bits BinOp.or IntKind.i64 1 2) 0) 0 = 3 from by decide]
  generalize hW : World.drewN _ _ = w0
  have hL0 : Below w.heap.size w w0 := by rw [← hW]; exact below_drewN ((Below.refl _ w).alloc (Nat.le_refl _) _) _
  have hb0 : w0.heap[w.heap.size]? = some (.cells #[.bool false, .bool true, .bool true, .bool false, .int .u32 0, .int .i64 0, .int .i64 0, .int .u32 0, .slice (some a) 1 1] 32 (0, 0)) := by rw [← hW]; exact heap_new w _
  have hq0 : w.heap.size < w0.heap.size := (Array.getElem?_eq_some_iff.1 hb0).1
  have d4 : w0.cell? ⟨w.heap.size, 4, none⟩ = some (.int .u32 0) := by rw [cell_of_block hb0]; rfl
  have d5 : w0.cell? ⟨w.heap.size, 5, none⟩ = some (.int .i64 0) := by rw [cell_of_block hb0]; rfl
  have d6 : w0.cell? ⟨w.heap.size, 6, none⟩ = some (.int .i64 0) := by rw [cell_of_block hb0]; rfl
  have d7 : w0.cell? ⟨w.heap.size, 7, none⟩ = some (.int .u32 0) := by rw [cell_of_block hb0]; rfl
  have d8 : w0.cell? ⟨w.heap.size, 8, none⟩ = some (.slice (some a) 1 1) := by rw [cell_of_block hb0]; rfl
  have SD : w0.drew.cell? ⟨w.heap.size, 4, none⟩ = some (.int .u32 0) ∧ w0.drew.cell? ⟨w.heap.size, 5, none⟩ = some (.int .i64 0) ∧ w0.drew.cell? ⟨w.heap.size, 6, none⟩ = some (.int .i64 0) ∧ w0.drew.cell? ⟨w.heap.size, 7, none⟩ = some (.int .u32 0) ∧ w0.drew.cell? ⟨w.heap.size, 8, none⟩ = some (.slice (some a) 1 1) := ⟨d4, d5, d6, d7, d8⟩
  have SD := Lib.hid SD
  have HV0 := Lib.hid (HV.out.mod (Mod.of_below (S := fun _ => False) hL0) (fun _ _ h => h))
  have HL0 := Lib.hid hL0
  have W0 : IntKind.i64.wrap 0 = 0 := by decide
  have tok1 : True := trivial
  have tok2 : True := trivial
  have tok3 : True := trivial
  have tok4 : True := trivial
  clear hW hL0 hb0
  have HJ : ∀ (w0 w1 w2 w3 w4 : World) (p1 p2 p3 p4 : Addr) (c1 c2 c3 c4 : Nat), BytesAt w0 (some a) 1 1 [1] → Below w0.heap.size w0 w1 → BytesAt w1 (some p1) 4 c1 [0, 0, 0, 0] → Below w1.heap.size w1 w2 → BytesAt w2 (some p2) 2 c2 [0, 0] → Below w2.heap.size w2 w3 → BytesAt w3 (some p3) 2 c3 [0, 0] → Below w3.heap.size w3 w4 → BytesAt w4 (some p4) 4 c4 [0, 0, 0, 0] →
      Calls Tryd.prog 31 #[.slice (some ⟨w4.heap.size, 0, none⟩) 5 5] (w4.alloc (.cells #[.slice (some p1) 4 c1, .slice (some p2) 2 c2, .slice (some p3) 2 c3, .slice (some p4) 4 c4, .slice (some a) 1 1] 22)) (Copied (w4.alloc (.cells #[.slice (some p1) 4 c1, .slice (some p2) 2 c2, .slice (some p3) 2 c3, .slice (some p4) 4 c4, .slice (some a) 1 1] 22)) 13 [0, 0, 0, 0, 0, 0, 0, 0, 0, 0, 0, 0, 1]) := by
    intro w0 w1 w2 w3 w4 p1 p2 p3 p4 c1 c2 c3 c4 h0 l1 b1 l2 b2 l3 b3 l4 b4
    have M4 : Mod (fun _ => False) w4 (w4.alloc (.cells #[.slice (some p1) 4 c1, .slice (some p2) 2 c2, .slice (some p3) 2 c3, .slice (some p4) 4 c4, .slice (some a) 1 1] 22)) := (Mod.refl _ w4).alloc _
    have M3 := (Mod.of_below (S := fun _ => False) l4).trans M4
    have M2 := (Mod.of_below (S := fun _ => False) l3).trans M3
    have M1 := (Mod.of_below (S := fun _ => False) l2).trans M2
    have M0 := (Mod.of_below (S := fun _ => False) l1).trans M1
    refine (joined_any w4.heap.size [⟨p1, 4, c1, [0, 0, 0, 0]⟩, ⟨p2, 2, c2, [0, 0]⟩, ⟨p3, 2, c3, [0, 0]⟩, ⟨p4, 4, c4, [0, 0, 0, 0]⟩, ⟨a, 1, 1, [1]⟩] _ (fun i h => by rw [cell_of_block (heap_new w4 _)]; match i, h with | 0, _ => rfl | 1, _ => rfl | 2, _ => rfl | 3, _ => rfl | 4, _ => rfl)
      (fun i h => by match i, h with | 0, _ => exact b1.mod M1 (fun _ _ h => h) | 1, _ => exact b2.mod M2 (fun _ _ h => h) | 2, _ => exact b3.mod M3 (fun _ _ h => h) | 3, _ => exact b4.mod M4 (fun _ _ h => h) | 4, _ => exact h0.mod M0 (fun _ _ h => h))
      (by simp) (by simp) (by simp [flat])).mono fun e w' h => copied_cast h (by simp [flat]) (by simp [flat])
  have HJ := Lib.hid HJ
  go_region_held3 (fun w' => w'.cell? ⟨w.heap.size, 4, none⟩ = some (.int .u32 0) ∧ w'.cell? ⟨w.heap.size, 5, none⟩ = some (.int .i64 0) ∧ w'.cell? ⟨w.heap.size, 6, none⟩ = some (.int .i64 0) ∧ w'.cell? ⟨w.heap.size, 7, none⟩ = some (.int .u32 0) ∧ w'.cell? ⟨w.heap.size, 8, none⟩ = some (.slice (some a) 1 1)) (first | with_reducible exact SD.out | with_reducible exact S1 | with_reducible exact S2 | with_reducible exact S3 | with_reducible exact S4 | with_reducible exact five_alloc _ hq4 S4 | with_reducible exact S5 | with_reducible exact S6) (first | (go_at_call 32; have _t := tok1; (with_reducible refine (number4 0 _ (by decide) (by decide)).mono ?_); rintro e w1 ⟨a1, c1, rfl, hB1, hf1, hc1, hx1⟩; obtain ⟨p1, rfl⟩ := hB1.some (by omega); have S1 := five_below hx1 hq0 SD.out; have hq1 : w.heap.size < w1.heap.size := Nat.lt_of_lt_of_le hq0 hx1.size; clear tok1) | (go_at_call 32; have _t := tok2; (with_reducible refine (number2 0 _ (by decide) (by decide)).mono ?_); rintro e w2 ⟨a2, c2, rfl, hB2, hf2, hc2, hx2⟩; obtain ⟨p2, rfl⟩ := hB2.some (by omega); have S2 := five_below hx2 hq1 S1; have hq2 : w.heap.size < w2.heap.size := Nat.lt_of_lt_of_le hq1 hx2.size; clear tok2) | (go_at_call 32; have _t := tok3; (with_reducible refine (number2 0 _ (by decide) (by decide)).mono ?_); rintro e w3 ⟨a3, c3, rfl, hB3, hf3, hc3, hx3⟩; obtain ⟨p3, rfl⟩ := hB3.some (by omega); have S3 := five_below hx3 hq2 S2; have hq3 : w.heap.size < w3.heap.size := Nat.lt_of_lt_of_le hq2 hx3.size; clear tok3) | (go_at_call 32; have _t := tok4; (with_reducible refine (number4 0 _ (by decide) (by decide)).mono ?_); rintro e w4 ⟨a4, c4, rfl, hB4, hf4, hc4, hx4⟩; obtain ⟨p4, rfl⟩ := hB4.some (by omega); have S4 := five_below hx4 hq3 S3; have hq4 : w.heap.size < w4.heap.size := Nat.lt_of_lt_of_le hq3 hx4.size; clear tok4) | (go_at_call 31; (with_reducible refine (HJ.out w0.drew w1 w2 w3 w4 p1 p2 p3 p4 c1 c2 c3 c4 HV0.out.drewN hx1 hB1 hx2 hB2 hx3 hB3 hx4 hB4).mono ?_); rintro e w5 ⟨a5, c5, rfl, hB5, hf5, hc5, hx5⟩; obtain ⟨p5, rfl⟩ := hB5.some (by omega); have SA := five_alloc (.cells #[.slice (some p1) 4 c1, .slice (some p2) 2 c2, .slice (some p3) 2 c3, .slice (some p4) 4 c4, .slice (some a) 1 1] 22) hq4 S4; have hqa : w.heap.size < (w4.alloc (.cells #[.slice (some p1) 4 c1, .slice (some p2) 2 c2, .slice (some p3) 2 c3, .slice (some p4) 4 c4, .slice (some a) 1 1] 22)).heap.size := (by simp; omega); have S5 := five_below hx5 hqa SA; have hq5 : w.heap.size < w5.heap.size := Nat.lt_of_lt_of_le hqa hx5.size) | (go_at_call 33; (with_reducible refine (chunk_any 0 3 (by decide) (by decide) p5 13 c5 _ w5 hB5 (by decide)).mono ?_); rintro e w6 ⟨a6, c6, rfl, hB6, hf6, hc6, hx6⟩; have S6 := five_below hx6 hq5 S5))
  have e1 := HL0.out.drew.trans (hx1.mono (Nat.le_of_lt hq0))
  have e2 := e1.trans (hx2.mono (Nat.le_of_lt hq1))
  have e3 := e2.trans (hx3.mono (Nat.le_of_lt hq2))
  have e4 := e3.trans (hx4.mono (Nat.le_of_lt hq3))
  have e5 := (e4.alloc (Nat.le_of_lt hq4) (.cells #[.slice (some p1) 4 c1, .slice (some p2) 2 c2, .slice (some p3) 2 c3, .slice (some p4) 4 c4, .slice (some a) 1 1] 22)).trans (hx5.mono (Nat.le_of_lt hqa))
  have E6 := Lib.hid (e5.trans (hx6.mono (Nat.le_of_lt hq5)))
  have HB6 := Lib.hid hB6
  have HX6 := Lib.hid hx6
  have HF6 := Lib.hid hf6
  clear e1 e2 e3 e4 e5 hx1 hx2 hx3 hx4 hx5 hx6 hB1 hB2 hB3 hB4 hB5 hB6 S1 S2 S3 S4 SA S5 S6 hf1 hf2 hf3 hf4 hf5 hf6
  go_wp2_with fail
  go_ret
  have hl : Copied w5 (4 + 13) ([0, 3, 0, 4 + ((13 : Nat) : Int)] ++ [0, 0, 0, 0, 0, 0, 0, 0, 0, 0, 0, 0, 1]) (.returned (.slice a6 17 c6)) w6 := ⟨a6, c6, rfl, HB6.out, HF6.out, hc6, HX6.out⟩
  obtain ⟨a7, c7, e7, hB7, hf7, hc7, _⟩ := copied_cast hl (n' := 17) (l' := [0, 3, 0, 17, 0, 0, 0, 0, 0, 0, 0, 0, 0, 0, 0, 0, 1]) rfl rfl
  exact ⟨a7, c7, e7, hB7, fun a ha => Nat.le_trans (Nat.le_of_lt hq5) (hf7 a ha), hc7, E6.out⟩

set_option maxHeartbeats 400000 in
theorem one_any (w : World) : Calls Tryd.prog 15 #[] w (Copied w 17 [0, 3, 0, 17, 0, 0, 0, 0, 0, 0, 0, 0, 0, 0, 0, 0, 1]) := by
  have h1 : BytesAt (w.alloc (.cells #[.int .u8 1] 5)) (some ⟨w.heap.size, 0, none⟩) 1 1 [1] := by
    refine ⟨rfl, Nat.le_refl _, (fun h => by simp at h), fun a ha i hi => ?_, fun i => ?_⟩
    · obtain rfl := Option.some.inj ha
      obtain rfl : i = 0 := by omega
      exact one_new w (.int .u8 1) 0 _ rfl
    · match i with
      | 0 => decide
      | i + 1 => simp
  have HC := Lib.hid (data_one ⟨w.heap.size, 0, none⟩ _ h1)
  clear h1
  go_enter Tryd.func15, Tryd.ntmps15
  go_wp2_with fail
  refine HC.out.mono ?_
  rintro e w1 ⟨a1, c1, rfl, hB, hf, hc1, hL⟩
  have HB := Lib.hid hB
  have HF := Lib.hid hf
  have HL := Lib.hid (((Below.refl w.heap.size w).alloc (Nat.le_refl _) (.cells #[.int .u8 1] 5)).trans (hL.mono (by simp)))
  clear hB hf hL
  go_wp2_with fail
  go_ret
  exact ⟨a1, c1, rfl, HB.out, fun a ha => Nat.le_trans (by simp) (HF.out a ha), hc1, HL.out⟩
end Go.Proofs.YtnajpmdnadjipaaDoor
