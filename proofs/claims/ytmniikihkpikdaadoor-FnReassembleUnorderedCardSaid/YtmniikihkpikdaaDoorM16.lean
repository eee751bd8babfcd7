/- Part of the proofs of the three laws on reassembly: a chunk as plain data is copied into the package's; conditions: as each theorem states. -/
import Derived.Test.YtmniikihkpikdaaDoorM15
namespace Go.Proofs.YtmniikihkpikdaaDoor
open Go.RowKit
set_option linter.unusedVariables false

/-- A copy of bytes in new memory. -/
def Copied (w : World) (n : Nat) (l : List Int) (e : Ending) (w' : World) : Prop := ∃ ao c, e = .returned (.slice ao n c) ∧ w'.ownsRow w.heap.size 5 1 (.slice ao n c) n (l.map (Value.int .u8)) ∧ Below w.heap.size w w'

set_option maxHeartbeats 400000 in
theorem copied_own (ao : Option Addr) (n c : Nat) (l : List Int) (w : World) (h : BytesAt w ao n c l) (hn : n ≤ 2147483647) : Calls Tryd.prog 14 #[.slice ao n c] w (Copied w n l) := by
  obtain ⟨i0, hi, hz0, hz1, hz2⟩ := info_parts info5
  have H := Lib.hid h
  cases ao with
  | none =>
    obtain rfl : n = 0 := h.nil rfl
    have hc := h.cap
    clear h
    go_enter Tryd.func14, Tryd.ntmps14
    go_wp2
    go_ret
    have : l = [] := List.eq_nil_of_length_eq_zero H.out.len
    subst this
    exact ⟨none, 0, rfl, World.ownsRow_nil _ _ _ _, Below.refl _ _⟩
  | some a =>
    clear h
    go_enter Tryd.func14, Tryd.ntmps14
    go_wp2_with (first | (at_builtin; refine wpList_append_own _ rfl _ _ 29 rfl w.heap.size 5 i0 (.int .u8 0) 1 1 Tryd.underlying29 hi hz0 hz1 hz2 rfl (by decide) _ _ _ rfl (World.ownsRow_nil _ _ _ _) a n _ (l.map (Value.int .u8)) rfl ?c0 ?c1 ?c2 ?c3 ?c4 ?c5 ?_))
    case c0 => simp [H.out.len]
    case c1 =>
      intro j u hu
      have hj : j < n := by have := (List.getElem?_eq_some_iff.1 hu).1; simpa [H.out.len] using this
      rw [H.out.cell a rfl j hj]
      rw [List.getElem?_map] at hu
      have hj' : j < l.length := by rw [H.out.len]; exact hj
      rw [List.getElem?_eq_getElem hj'] at hu
      rw [← hu]
      simp [List.getD_eq_getElem?_getD, List.getElem?_eq_getElem hj']
    case c2 => exact ints_oneCell _ _
    case c3 => unfold maxLen; omega
    case c4 => omega
    case c5 => exact Nat.le_refl _
    intro v' w1 hown hgrow _
    have hb1 : Below w.heap.size w w1 := (Below.refl _ _).grown hgrow (Nat.le_refl _) (fun k hk => by simp [Value.ownBlock] at hk)
    have O := Lib.hid hown
    have HB1 := Lib.hid hb1
    clear hown hgrow hb1
    go_wp2
    go_ret
    have hO : w1.ownsRow w.heap.size 5 1 v' n (l.map (Value.int .u8)) := by have := O.out; simpa using this
    obtain ⟨ao, c, rfl⟩ : ∃ ao c, v' = .slice ao n c := by
      rcases hO.2 with ⟨e, h0⟩ | ⟨g, cap, _, e, _⟩
      · exact ⟨none, 0, by rw [h0]; exact e⟩
      · exact ⟨_, cap, e⟩
    exact ⟨ao, c, rfl, hO, HB1.out⟩

theorem nine_below {w w' : World} {s B : Nat} {x0 x1 x2 x3 x4 x5 x6 x7 x8 : Value} (hb : Below B w w') (hs : s < B) (h : w.cell? ⟨s, 0, none⟩ = some (x0) ∧ w.cell? ⟨s, 1, none⟩ = some (x1) ∧ w.cell? ⟨s, 2, none⟩ = some (x2) ∧ w.cell? ⟨s, 3, none⟩ = some (x3) ∧ w.cell? ⟨s, 4, none⟩ = some (x4) ∧ w.cell? ⟨s, 5, none⟩ = some (x5) ∧ w.cell? ⟨s, 6, none⟩ = some (x6) ∧ w.cell? ⟨s, 7, none⟩ = some (x7) ∧ w.cell? ⟨s, 8, none⟩ = some (x8)) : w'.cell? ⟨s, 0, none⟩ = some (x0) ∧ w'.cell? ⟨s, 1, none⟩ = some (x1) ∧ w'.cell? ⟨s, 2, none⟩ = some (x2) ∧ w'.cell? ⟨s, 3, none⟩ = some (x3) ∧ w'.cell? ⟨s, 4, none⟩ = some (x4) ∧ w'.cell? ⟨s, 5, none⟩ = some (x5) ∧ w'.cell? ⟨s, 6, none⟩ = some (x6) ∧ w'.cell? ⟨s, 7, none⟩ = some (x7) ∧ w'.cell? ⟨s, 8, none⟩ = some (x8) :=
  ⟨(hb.cell (p := ⟨s, 0, none⟩) hs).trans h.1, (hb.cell (p := ⟨s, 1, none⟩) hs).trans h.2.1, (hb.cell (p := ⟨s, 2, none⟩) hs).trans h.2.2.1, (hb.cell (p := ⟨s, 3, none⟩) hs).trans h.2.2.2.1, (hb.cell (p := ⟨s, 4, none⟩) hs).trans h.2.2.2.2.1, (hb.cell (p := ⟨s, 5, none⟩) hs).trans h.2.2.2.2.2.1, (hb.cell (p := ⟨s, 6, none⟩) hs).trans h.2.2.2.2.2.2.1, (hb.cell (p := ⟨s, 7, none⟩) hs).trans h.2.2.2.2.2.2.2.1, (hb.cell (p := ⟨s, 8, none⟩) hs).trans h.2.2.2.2.2.2.2.2⟩
theorem nine_set {w : World} {s g : Nat} {x0 x1 x2 x3 x4 x5 x6 x7 x8 : Value} (y0 y1 y2 y3 y4 y5 y6 y7 y8 : Value) (hne : s ≠ g) (h : w.cell? ⟨s, 0, none⟩ = some (x0) ∧ w.cell? ⟨s, 1, none⟩ = some (x1) ∧ w.cell? ⟨s, 2, none⟩ = some (x2) ∧ w.cell? ⟨s, 3, none⟩ = some (x3) ∧ w.cell? ⟨s, 4, none⟩ = some (x4) ∧ w.cell? ⟨s, 5, none⟩ = some (x5) ∧ w.cell? ⟨s, 6, none⟩ = some (x6) ∧ w.cell? ⟨s, 7, none⟩ = some (x7) ∧ w.cell? ⟨s, 8, none⟩ = some (x8)) :
    let w' := (((((((((w.setCell ⟨g, 0, none⟩ y0).setCell ⟨g, 1, none⟩ y1).setCell ⟨g, 2, none⟩ y2).setCell ⟨g, 3, none⟩ y3).setCell ⟨g, 4, none⟩ y4).setCell ⟨g, 5, none⟩ y5).setCell ⟨g, 6, none⟩ y6).setCell ⟨g, 7, none⟩ y7).setCell ⟨g, 8, none⟩ y8)
    w'.cell? ⟨s, 0, none⟩ = some (x0) ∧ w'.cell? ⟨s, 1, none⟩ = some (x1) ∧ w'.cell? ⟨s, 2, none⟩ = some (x2) ∧ w'.cell? ⟨s, 3, none⟩ = some (x3) ∧ w'.cell? ⟨s, 4, none⟩ = some (x4) ∧ w'.cell? ⟨s, 5, none⟩ = some (x5) ∧ w'.cell? ⟨s, 6, none⟩ = some (x6) ∧ w'.cell? ⟨s, 7, none⟩ = some (x7) ∧ w'.cell? ⟨s, 8, none⟩ = some (x8) :=
  ⟨(cell_set_blk (cell_set_blk (cell_set_blk (cell_set_blk (cell_set_blk (cell_set_blk (cell_set_blk (cell_set_blk (cell_set_blk h.1 hne _) hne _) hne _) hne _) hne _) hne _) hne _) hne _) hne _), (cell_set_blk (cell_set_blk (cell_set_blk (cell_set_blk (cell_set_blk (cell_set_blk (cell_set_blk (cell_set_blk (cell_set_blk h.2.1 hne _) hne _) hne _) hne _) hne _) hne _) hne _) hne _) hne _), (cell_set_blk (cell_set_blk (cell_set_blk (cell_set_blk (cell_set_blk (cell_set_blk (cell_set_blk (cell_set_blk (cell_set_blk h.2.2.1 hne _) hne _) hne _) hne _) hne _) hne _) hne _) hne _) hne _), (cell_set_blk (cell_set_blk (cell_set_blk (cell_set_blk (cell_set_blk (cell_set_blk (cell_set_blk (cell_set_blk (cell_set_blk h.2.2.2.1 hne _) hne _) hne _) hne _) hne _) hne _) hne _) hne _) hne _), (cell_set_blk (cell_set_blk (cell_set_blk (cell_set_blk (cell_set_blk (cell_set_blk (cell_set_blk (cell_set_blk (cell_set_blk h.2.2.2.2.1 hne _) hne _) hne _) hne _) hne _) hne _) hne _) hne _) hne _), (cell_set_blk (cell_set_blk (cell_set_blk (cell_set_blk (cell_set_blk (cell_set_blk (cell_set_blk (cell_set_blk (cell_set_blk h.2.2.2.2.2.1 hne _) hne _) hne _) hne _) hne _) hne _) hne _) hne _) hne _), (cell_set_blk (cell_set_blk (cell_set_blk (cell_set_blk (cell_set_blk (cell_set_blk (cell_set_blk (cell_set_blk (cell_set_blk h.2.2.2.2.2.2.1 hne _) hne _) hne _) hne _) hne _) hne _) hne _) hne _) hne _), (cell_set_blk (cell_set_blk (cell_set_blk (cell_set_blk (cell_set_blk (cell_set_blk (cell_set_blk (cell_set_blk (cell_set_blk h.2.2.2.2.2.2.2.1 hne _) hne _) hne _) hne _) hne _) hne _) hne _) hne _) hne _), (cell_set_blk (cell_set_blk (cell_set_blk (cell_set_blk (cell_set_blk (cell_set_blk (cell_set_blk (cell_set_blk (cell_set_blk h.2.2.2.2.2.2.2.2 hne _) hne _) hne _) hne _) hne _) hne _) hne _) hne _) hne _)⟩

/-- A chunk as plain data: its bytes may lie anywhere. -/
structure Dk where
  pc : Pc
  ug : Nat
  uo : Nat
  uc : Nat
deriving Inhabited
def dCells (f si : Int) (d : Dk) : Array Value := #[.bool d.pc.un, .bool d.pc.beg, .bool d.pc.fin, .bool false, .int .u32 (U f d.pc.p), .int .i64 si, .int .i64 d.pc.k, .int .u32 d.pc.proto, .slice (some ⟨d.ug, d.uo, none⟩) d.pc.bytes.length d.uc]
structure DkAt (w : World) (d : Dk) : Prop where
  usr : BytesAt w (some ⟨d.ug, d.uo, none⟩) d.pc.bytes.length d.uc d.pc.bytes
  pos : 0 < d.pc.bytes.length
  small : d.pc.bytes.length ≤ 4096
  pb : 0 ≤ d.pc.p ∧ d.pc.p < 5000
  kb : 0 ≤ d.pc.k ∧ d.pc.k < 1000
theorem DkAt.lt {w : World} {d : Dk} (h : DkAt w d) : d.ug < w.heap.size := by
  obtain ⟨b, off, e, hb, _⟩ := h.usr.open h.pos
  have e : (⟨d.ug, d.uo, none⟩ : Addr) = ⟨b, off, none⟩ := Option.some.inj e
  have := congrArg Addr.block e
  have : d.ug = b := this
  omega
theorem DkAt.mod {S : Nat → Prop} {w w' : World} {d : Dk} (h : DkAt w d) (hM : Mod S w w') (hS : ¬ S d.ug) : DkAt w' d :=
  ⟨h.usr.mod hM (fun a ha => by have := (Option.some.inj ha).symm; subst this; exact hS), h.pos, h.small, h.pb, h.kb⟩
def zz0 : Array Value := #[.bool false, .bool false, .bool false, .bool false, .int .u32 0, .int .u16 0, .int .u16 0, .int .u32 0, .slice none 0 0]
/-- What is handed back. -/
def DataBack (w : World) (f si : Int) (d : Dk) (e : Ending) (w' : World) : Prop :=
  ∃ g c, e = .returned (.agg (zCells f si ⟨0, d.pc, g, c⟩)) ∧ UsAt w' ⟨0, d.pc, g, c⟩ ∧ w.heap.size ≤ g ∧ Below w.heap.size w w'

set_option maxHeartbeats 2000000 in
set_option maxRecDepth 20000 in
theorem dataOf_any {w : World} {f si : Int} {d : Dk} (h : DkAt w d) (hsi : 0 ≤ si ∧ si < 65536) : Calls Tryd.prog 12 #[.agg (dCells f si d)] w (DataBack w f si d) := by
  have H := Lib.hid h
  obtain ⟨hs0, hs1⟩ := hsi
  obtain ⟨hk0, hk1⟩ := h.kb
  have hlen := h.small
  unfold dCells
  obtain ⟨y0, e0⟩ : ∃ y, y = d.pc.un := ⟨_, rfl⟩
  obtain ⟨y1, e1⟩ : ∃ y, y = d.pc.beg := ⟨_, rfl⟩
  obtain ⟨y2, e2⟩ : ∃ y, y = d.pc.fin := ⟨_, rfl⟩
  obtain ⟨y4, e4⟩ : ∃ y, y = U f d.pc.p := ⟨_, rfl⟩
  obtain ⟨y6, e6⟩ : ∃ y, y = d.pc.k := ⟨_, rfl⟩
  obtain ⟨y7, e7⟩ : ∃ y, y = d.pc.proto := ⟨_, rfl⟩
  obtain ⟨n, en⟩ : ∃ n, n = d.pc.bytes.length := ⟨_, rfl⟩
  rw [← en] at hlen
  rw [← e6] at hk0 hk1
  rw [← e0, ← e1, ← e2, ← e4, ← e6, ← e7, ← en]
  have EQ := Lib.hid (And.intro e0 (And.intro e1 (And.intro e2 (And.intro e4 (And.intro e6 (And.intro e7 en))))))
  clear h e0 e1 e2 e4 e6 e7 en
  have W5 : IntKind.u16.wrap si = si := wraps_u16 si hs0 hs1
  have W6 : IntKind.u16.wrap y6 = y6 := wraps_u16 y6 hk0 (by omega)
  have HW := Lib.hid (And.intro W5 W6)
  go_enter Tryd.func12, Tryd.ntmps12
  go_wp2_with fail

  generalize hW3 : World.alloc _ _ = w3
  have B3 : Below w.heap.size w w3 := by rw [← hW3]; exact ((Below.refl _ w).alloc (Nat.le_refl _) _).alloc (by simp) _
  have hsz3 : w3.heap.size = w.heap.size + 2 := by rw [← hW3]; simp
  have b0 : w3.heap[w.heap.size]? = some (.cells #[.bool y0, .bool y1, .bool y2, .bool false, .int .u32 y4, .int .i64 si, .int .i64 y6, .int .u32 y7, .slice (some ⟨d.ug, d.uo, none⟩) n d.uc] 31 (0, 0)) := by rw [← hW3]; exact (heap_alloc_old _ _ (by simp)).trans (heap_new w _)
  have b1 : w3.heap[w.heap.size + 1]? = some (.cells zz0 42 (0, 0)) := by
    rw [← hW3]
    have e : (w.alloc (.cells #[.bool y0, .bool y1, .bool y2, .bool false, .int .u32 y4, .int .i64 si, .int .i64 y6, .int .u32 y7, .slice (some ⟨d.ug, d.uo, none⟩) n d.uc] 31)).heap.size = w.heap.size + 1 := by simp
    rw [← e]; exact heap_new _ _
  clear hW3
  obtain ⟨s, hs⟩ : ∃ s, s = w.heap.size := ⟨_, rfl⟩
  rw [← hs] at b0 b1 hsz3
  rw [← hs]
  have hsr : s ≠ s + 1 := by omega
  have hlt3 : s < w3.heap.size := by omega
  have hlt3' : s + 1 < w3.heap.size := by omega
  have HB0 := Lib.hid b0; have HB1 := Lib.hid b1; have HB3 := Lib.hid B3; have HS := Lib.hid hs
  have D3 : BytesAt w3.drew (some ⟨d.ug, d.uo, none⟩) n d.uc d.pc.bytes := by
    obtain ⟨_, _, _, _, _, _, en⟩ := EQ.out
    rw [en]
    exact (H.out.mod ((Mod.of_below (S := fun _ => False) B3).drew) (fun h => h)).usr
  have HC := Lib.hid (copied_own (some ⟨d.ug, d.uo, none⟩) n d.uc d.pc.bytes w3.drew D3 (by omega))
  clear b1 B3 hs D3
  have d0 : w3.cell? ⟨s, 0, none⟩ = some (.bool y0) := by rw [cell_of_block HB0.out]; rfl
  have d1 : w3.cell? ⟨s, 1, none⟩ = some (.bool y1) := by rw [cell_of_block HB0.out]; rfl
  have d2 : w3.cell? ⟨s, 2, none⟩ = some (.bool y2) := by rw [cell_of_block HB0.out]; rfl
  have d3 : w3.cell? ⟨s, 3, none⟩ = some (.bool false) := by rw [cell_of_block HB0.out]; rfl
  have d4 : w3.cell? ⟨s, 4, none⟩ = some (.int .u32 y4) := by rw [cell_of_block HB0.out]; rfl
  have d5 : w3.cell? ⟨s, 5, none⟩ = some (.int .i64 si) := by rw [cell_of_block HB0.out]; rfl
  have d6 : w3.cell? ⟨s, 6, none⟩ = some (.int .i64 y6) := by rw [cell_of_block HB0.out]; rfl
  have d7 : w3.cell? ⟨s, 7, none⟩ = some (.int .u32 y7) := by rw [cell_of_block HB0.out]; rfl
  have d8 : w3.cell? ⟨s, 8, none⟩ = some (.slice (some ⟨d.ug, d.uo, none⟩) n d.uc) := by rw [cell_of_block HB0.out]; rfl
  clear b0
  have SD : w3.drew.cell? ⟨s, 0, none⟩ = some (.bool y0) ∧ w3.drew.cell? ⟨s, 1, none⟩ = some (.bool y1) ∧ w3.drew.cell? ⟨s, 2, none⟩ = some (.bool y2) ∧ w3.drew.cell? ⟨s, 3, none⟩ = some (.bool false) ∧ w3.drew.cell? ⟨s, 4, none⟩ = some (.int .u32 y4) ∧ w3.drew.cell? ⟨s, 5, none⟩ = some (.int .i64 si) ∧ w3.drew.cell? ⟨s, 6, none⟩ = some (.int .i64 y6) ∧ w3.drew.cell? ⟨s, 7, none⟩ = some (.int .u32 y7) ∧ w3.drew.cell? ⟨s, 8, none⟩ = some (.slice (some ⟨d.ug, d.uo, none⟩) n d.uc) := ⟨d0, d1, d2, d3, d4, d5, d6, d7, d8⟩
  have SD := Lib.hid SD
  go_region_held3 (fun w' => w'.cell? ⟨s, 0, none⟩ = some (.bool y0) ∧ w'.cell? ⟨s, 1, none⟩ = some (.bool y1) ∧ w'.cell? ⟨s, 2, none⟩ = some (.bool y2) ∧ w'.cell? ⟨s, 3, none⟩ = some (.bool false) ∧ w'.cell? ⟨s, 4, none⟩ = some (.int .u32 y4) ∧ w'.cell? ⟨s, 5, none⟩ = some (.int .i64 si) ∧ w'.cell? ⟨s, 6, none⟩ = some (.int .i64 y6) ∧ w'.cell? ⟨s, 7, none⟩ = some (.int .u32 y7) ∧ w'.cell? ⟨s, 8, none⟩ = some (.slice (some ⟨d.ug, d.uo, none⟩) n d.uc)) (first | with_reducible exact SD.out | with_reducible exact S4 | with_reducible exact nine_set _ _ _ _ _ _ _ _ _ hsr S4) (first | (go_at_call 14; refine HC.out.mono ?_; rintro e w4 ⟨a4, c4, rfl, hown, hx⟩; have S4 := nine_below hx hlt3 SD.out; have HbA4 := (hx.block _ hlt3').trans HB1.out; have s0 : w4.cell? ⟨s + 1, 0, none⟩ = some (.bool false) := (by rw [cell_of_block HbA4]; rfl); have z0 : w4.frozen? ⟨s + 1, 0, none⟩ = false := frozen_of_block HbA4; have s1 : w4.cell? ⟨s + 1, 1, none⟩ = some (.bool false) := (by rw [cell_of_block HbA4]; rfl); have z1 : w4.frozen? ⟨s + 1, 1, none⟩ = false := frozen_of_block HbA4; have s2 : w4.cell? ⟨s + 1, 2, none⟩ = some (.bool false) := (by rw [cell_of_block HbA4]; rfl); have z2 : w4.frozen? ⟨s + 1, 2, none⟩ = false := frozen_of_block HbA4; have s3 : w4.cell? ⟨s + 1, 3, none⟩ = some (.bool false) := (by rw [cell_of_block HbA4]; rfl); have z3 : w4.frozen? ⟨s + 1, 3, none⟩ = false := frozen_of_block HbA4; have s4 : w4.cell? ⟨s + 1, 4, none⟩ = some (.int .u32 0) := (by rw [cell_of_block HbA4]; rfl); have z4 : w4.frozen? ⟨s + 1, 4, none⟩ = false := frozen_of_block HbA4; have s5 : w4.cell? ⟨s + 1, 5, none⟩ = some (.int .u16 0) := (by rw [cell_of_block HbA4]; rfl); have z5 : w4.frozen? ⟨s + 1, 5, none⟩ = false := frozen_of_block HbA4; have s6 : w4.cell? ⟨s + 1, 6, none⟩ = some (.int .u16 0) := (by rw [cell_of_block HbA4]; rfl); have z6 : w4.frozen? ⟨s + 1, 6, none⟩ = false := frozen_of_block HbA4; have s7 : w4.cell? ⟨s + 1, 7, none⟩ = some (.int .u32 0) := (by rw [cell_of_block HbA4]; rfl); have z7 : w4.frozen? ⟨s + 1, 7, none⟩ = false := frozen_of_block HbA4; have s8 : w4.cell? ⟨s + 1, 8, none⟩ = some (.slice none 0 0) := (by rw [cell_of_block HbA4]; rfl); have z8 : w4.frozen? ⟨s + 1, 8, none⟩ = false := frozen_of_block HbA4))
  have HO := Lib.hid hown
  have HL4 := Lib.hid (HB3.out.drew.trans (hx.mono (by have := HB3.out.size; exact this)))
  have HA4 := Lib.hid HbA4
  clear S4 hown hx HbA4 s0 z0 d0 s1 z1 d1 s2 z2 d2 s3 z3 d3 s4 z4 d4 s5 z5 d5 s6 z6 d6 s7 z7 d7 s8 z8 d8
  go_wp2_with fail
  generalize hW : World.setCell _ _ _ = w5
  have hch := (heap_setCell_same (i := 8) (heap_setCell_same (i := 7) (heap_setCell_same (i := 6) (heap_setCell_same (i := 5) (heap_setCell_same (i := 4) (heap_setCell_same (i := 3) (heap_setCell_same (i := 2) (heap_setCell_same (i := 1) (heap_setCell_same (i := 0) HA4.out (.bool y0)) (.bool y1)) (.bool y2)) (.bool false)) (.int .u32 y4)) (.int .u16 si)) (.int .u16 y6)) (.int .u32 y7)) (.slice a4 n c4))
  simp only [zz0, List.setIfInBounds_toArray, List.set_cons_zero, List.set_cons_succ] at hch
  have hb : w5.heap[s + 1]? = some (.cells #[.bool y0, .bool y1, .bool y2, .bool false, .int .u32 y4, .int .u16 si, .int .u16 y6, .int .u32 y7, .slice a4 n c4] 42 (0, 0)) := by rw [← hW]; exact hch
  have M : Mod (· = s + 1) w4 w5 := by rw [← hW]; exact ((((((((((Mod.refl (· = s + 1) w4).set1 _).set1 _).set1 _).set1 _).set1 _).set1 _).set1 _).set1 _).set1 _)
  clear hch hW
  have k0 : w5.cell? ⟨s + 1, 0, none⟩ = some (.bool y0) := by rw [cell_of_block hb]; rfl
  have k1 : w5.cell? ⟨s + 1, 1, none⟩ = some (.bool y1) := by rw [cell_of_block hb]; rfl
  have k2 : w5.cell? ⟨s + 1, 2, none⟩ = some (.bool y2) := by rw [cell_of_block hb]; rfl
  have k3 : w5.cell? ⟨s + 1, 3, none⟩ = some (.bool false) := by rw [cell_of_block hb]; rfl
  have k4 : w5.cell? ⟨s + 1, 4, none⟩ = some (.int .u32 y4) := by rw [cell_of_block hb]; rfl
  have k5 : w5.cell? ⟨s + 1, 5, none⟩ = some (.int .u16 si) := by rw [cell_of_block hb]; rfl
  have k6 : w5.cell? ⟨s + 1, 6, none⟩ = some (.int .u16 y6) := by rw [cell_of_block hb]; rfl
  have k7 : w5.cell? ⟨s + 1, 7, none⟩ = some (.int .u32 y7) := by rw [cell_of_block hb]; rfl
  have k8 : w5.cell? ⟨s + 1, 8, none⟩ = some (.slice a4 n c4) := by rw [cell_of_block hb]; rfl
  refine bodyPost_ret (v := .agg #[.bool y0, .bool y1, .bool y2, .bool false, .int .u32 y4, .int .u16 si, .int .u16 y6, .int .u32 y7, .slice a4 n c4]) (by simp [results, Tryd.results12, go_sem, k0, k1, k2, k3, k4, k5, k6, k7, k8]) rfl ?_
  obtain ⟨e0, e1, e2, e4, e6, e7, en⟩ := EQ.out
  have hpos := H.out.pos
  have hO := HO.out
  obtain ⟨g, rfl⟩ : ∃ g, a4 = some ⟨g, 0, none⟩ := by
    rcases hO.2 with ⟨_, h0⟩ | ⟨g, cap, cur, e, _⟩
    · omega
    · exact ⟨g, (Value.slice.inj e).1⟩
  obtain ⟨hBg, cur, hg, hnc, htk⟩ := own_row hO
  have hsB := HB3.out.size
  have hBg : w3.heap.size ≤ g := hBg
  have hsz := HS.out
  have hg5 : w5.heap[g]? = some (.cells cur 5 (0, 0)) := (M.block g (Array.getElem?_eq_some_iff.1 hg).1 (fun e => by have e : g = s + 1 := e; omega)).trans hg
  refine ⟨g, c4, ?_, ⟨⟨cur, hg5, by rw [← en]; exact htk⟩, by rw [← en]; exact hnc, H.out.small, H.out.pb, H.out.kb⟩, by omega, HL4.out.trans (M.below HL4.out.size (fun k hk => by omega))⟩
  unfold zCells
  rw [e0, e1, e2, e4, e6, e7, en]
end Go.Proofs.YtmniikihkpikdaaDoor
