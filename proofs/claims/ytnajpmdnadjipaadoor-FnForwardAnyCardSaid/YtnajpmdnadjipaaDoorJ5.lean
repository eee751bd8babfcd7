/- Part of the proof of laws.FnSackAny: what spec.SackOf returns; conditions: as each theorem states. -/
import Derived.Test.YtnajpmdnadjipaaDoorJ3
import Derived.Deep.AppendLies
import Derived.Deep.RegionLaw
namespace Go.Proofs.YtnajpmdnadjipaaDoor
open Go.RowKit
set_option linter.unusedVariables false

theorem ChunkAt.at2 {w : World} {b off n c : Nat} {l : List Int} (h : ChunkAt w b off n c l) (p : Nat) (hp : p + 2 ≤ n) (P : Int) (hP : P = p) :
    Calls Tryd.prog 26 #[.slice (some ⟨b, off, none⟩) n c, .int .i64 P, .int .i64 2] w fun e w' => e = .returned (.int .i64 (be2 l p)) ∧ w' = w :=
  (Go.Proofs.YtnajpmdnadjipaaDoor.at2 b off n c l p w hp h.small h.cap h.cell h.byte P hP).mono fun _ _ ⟨a, b⟩ => ⟨a, b.symm⟩
theorem ChunkAt.at4 {w : World} {b off n c : Nat} {l : List Int} (h : ChunkAt w b off n c l) (p : Nat) (hp : p + 4 ≤ n) (P : Int) (hP : P = p) :
    Calls Tryd.prog 26 #[.slice (some ⟨b, off, none⟩) n c, .int .i64 P, .int .i64 4] w fun e w' => e = .returned (.int .i64 (be4 l p)) ∧ w' = w :=
  (Go.Proofs.YtnajpmdnadjipaaDoor.at4 b off n c l p w hp h.small h.cap h.cell h.byte P hP).mono fun _ _ ⟨a, b⟩ => ⟨a, b.symm⟩

def pair64 (l : List Int) (k : Nat) : Value := .int .i64 (be2 l (16 + 2 * k))
def quad32 (l : List Int) (s : Nat) (k : Nat) : Value := .int .u32 (be4 l (s + 4 * k))

theorem grown_cell {w w3 : World} {B e size n : Nat} {v u : Value} {xs : List Value} {p : Addr} (hown : w.ownsRow B e size v n xs) (hp : p.block < B) (hc : w.cell? p = some u) (hg : w.grownBy w3 v.ownBlock) : w3.cell? p = some u :=
  (hg.cell_far p (lt_of_cell hc) (fun e => by have := (hown.lt _ e.symm).1; omega)).trans hc
theorem grown_frozen {w w3 : World} {B e size n : Nat} {v u : Value} {xs : List Value} {p : Addr} (hown : w.ownsRow B e size v n xs) (hp : p.block < B) (hc : w.cell? p = some u) (hf : w.frozen? p = false) (hg : w.grownBy w3 v.ownBlock) : w3.frozen? p = false :=
  (hg.frozen_far p (lt_of_cell hc) (fun e => by have := (hown.lt _ e.symm).1; omega)).trans hf

/-- The loops' relations. -/
structure SpSt (w wr : World) (l : List Int) (t u : Int) (v v' : Value) (j k s : Nat) : Prop where
  res : wr.heap[w.heap.size]? = some (.cells imsk 39 (0, 0))
  x : wr.heap[w.heap.size + 1]? = some (.cells #[.int .u32 t, .int .u32 u, v, v'] 39 (0, 0))
  gaps : wr.ownsRow (w.heap.size + 2) 43 2 v j ((List.range (j * 2)).map (pair64 l))
  twice : wr.ownsRow (w.heap.size + 2) 27 1 v' k ((List.range (k * 1)).map (quad32 l s))
  apart : v.ownBlock = none ∨ v.ownBlock ≠ v'.ownBlock
  below : Below w.heap.size w wr
theorem SpSt.far {w wr : World} {l : List Int} {t u : Int} {v v' : Value} {j k s : Nat} (h : SpSt w wr l t u v v' j k s) {y w3 : World} {o : Obj} {z : Value} (hy : y = wr.drew.alloc o) (hz : ∀ g, z.ownBlock = some g → w.heap.size + 2 ≤ g) (hg : y.grownBy w3 z.ownBlock) (i : Nat) (vn : Value) :
    Below w.heap.size w (w3.setCell ⟨w.heap.size + 1, i, none⟩ vn) ∧ (w3.setCell ⟨w.heap.size + 1, i, none⟩ vn).heap[w.heap.size]? = some (.cells imsk 39 (0, 0)) ∧
      (w3.setCell ⟨w.heap.size + 1, i, none⟩ vn).heap[w.heap.size + 1]? = some (.cells (#[.int .u32 t, .int .u32 u, v, v'].setIfInBounds i vn) 39 (0, 0)) := by
  have hx := (Array.getElem?_eq_some_iff.1 h.x).1
  have hys : wr.heap.size + 1 = y.heap.size := by rw [hy]; simp
  have b1 : Below w.heap.size w y := by rw [hy]; exact h.below.drew.alloc (by simp; omega) _
  have b3 : Below w.heap.size w w3 := b1.grown hg (by omega) (fun k hk => by have := hz k hk; omega)
  have e0 : w3.heap[w.heap.size]? = some (.cells imsk 39 (0, 0)) := by
    rw [hg.block _ (by omega) (fun e => by have := hz _ e.symm; omega), hy]
    exact (heap_alloc_old wr.drew o (show w.heap.size < wr.drew.heap.size by simp; omega)).trans h.res
  have e1 : w3.heap[w.heap.size + 1]? = some (.cells #[.int .u32 t, .int .u32 u, v, v'] 39 (0, 0)) := by
    rw [hg.block _ (by omega) (fun e => by have := hz _ e.symm; omega), hy]
    exact (heap_alloc_old wr.drew o (show w.heap.size + 1 < wr.drew.heap.size by simp; omega)).trans h.x
  refine ⟨b3.trans ?_, (heap_setCell_other (by simp) _).trans e0, heap_setCell_same e1 _⟩
  exact ((Mod.refl (· = w.heap.size + 1) w3).set1 vn).below b3.size (fun k hk => by omega)
theorem own_set {B e size n g i : Nat} {w : World} {v vn : Value} {xs : List Value} (h : w.ownsRow B e size v n xs) (hg : g < B) : (w.setCell ⟨g, i, none⟩ vn).ownsRow B e size v n xs := by
  refine ⟨h.1, ?_⟩
  rcases h.2 with hn | ⟨g', cap, cur, rfl, hb, hh, hr⟩
  · exact .inl hn
  · exact .inr ⟨g', cap, cur, rfl, hb, (heap_setCell_other (show g' ≠ g by omega) _).trans hh, hr⟩
theorem SpSt.gap {w wr : World} {l : List Int} {t u : Int} {v : Value} {j s : Nat} (h : SpSt w wr l t u v (.slice none 0 0) j 0 s) {y w3 : World} {o : Obj} (hy : y = wr.drew.alloc o) {va : Option Addr} {vc : Nat} {a b : Value}
    (ha : a = pair64 l (j * 2)) (hb : b = pair64 l (j * 2 + 1)) (hown : w3.ownsRow (w.heap.size + 2) 43 2 (.slice va (j + 1) vc) (j + 1) ((List.range (j * 2)).map (pair64 l) ++ [a, b])) (hg : y.grownBy w3 v.ownBlock) :
    SpSt w (w3.setCell ⟨w.heap.size + 1, 2, none⟩ (.slice va (j + 1) vc)) l t u (.slice va (j + 1) vc) (.slice none 0 0) (j + 1) 0 s := by
  obtain ⟨hb3, e0, e1⟩ := h.far hy (fun g e => (h.gaps.lt g e).1) hg 2 (.slice va (j + 1) vc)
  refine ⟨e0, e1, ?_, World.ownsRow_nil _ _ _ _, ?_, hb3⟩
  · rw [ha, hb, ← range_two] at hown
    exact own_set hown (by omega)
  · cases va with
    | none => exact .inl rfl
    | some g => exact .inr (by simp [Value.ownBlock])
theorem SpSt.dup {w wr : World} {l : List Int} {t u : Int} {v v' : Value} {j k s : Nat} (h : SpSt w wr l t u v v' j k s) {y w3 : World} {o : Obj} (hy : y = wr.drew.alloc o) {va : Option Addr} {vc : Nat} {a : Value}
    (ha : a = quad32 l s k) (hown : w3.ownsRow (w.heap.size + 2) 27 1 (.slice va (k + 1) vc) (k + 1) ((List.range (k * 1)).map (quad32 l s) ++ [a])) (hg : y.grownBy w3 v'.ownBlock)
    (hat : (Value.slice va (k + 1) vc).ownBlock = v'.ownBlock ∨ (Value.slice va (k + 1) vc).ownBlock = some y.heap.size) :
    SpSt w (w3.setCell ⟨w.heap.size + 1, 3, none⟩ (.slice va (k + 1) vc)) l t u v (.slice va (k + 1) vc) j (k + 1) s := by
  obtain ⟨hb3, e0, e1⟩ := h.far hy (fun g e => (h.twice.lt g e).1) hg 3 (.slice va (k + 1) vc)
  refine ⟨e0, e1, ?_, ?_, ?_, hb3⟩
  · refine own_set (World.ownsRow.kept (w := y) (by rw [hy]; exact h.gaps.drew.alloc _) hg ?_) (by omega)
    rcases h.apart with h0 | h0
    · exact .inl h0
    · exact .inr h0
  · rw [ha, ← range_one] at hown
    exact own_set hown (by omega)
  · cases hv : v.ownBlock with
    | none => exact .inl rfl
    | some g =>
      right
      rcases hat with h0 | h0
      · rw [h0, ← hv]
        rcases h.apart with h1 | h1
        · rw [hv] at h1; cases h1
        · exact h1
      · rw [h0, hy]
        intro e
        have h1 := (h.gaps.lt g hv).2
        have h2 : g = (wr.drew.alloc o).heap.size := Option.some.inj e
        simp at h2
        omega
def SpRel1 (w : World) (G s : Nat) (l : List Int) (t u : Int) (v5 v6 : Value) (wr : World) : Prop :=
  ∃ j : Nat, ∃ v : Value, j ≤ G ∧ v6 = .int .i64 j ∧ v5 = .int .i64 ((16 + 4 * j : Nat) : Int) ∧ SpSt w wr l t u v (.slice none 0 0) j 0 s
def SpRel2 (w : World) (G D s : Nat) (l : List Int) (t u : Int) (v5 v7 : Value) (wr : World) : Prop :=
  ∃ k : Nat, ∃ v v' : Value, k ≤ D ∧ v7 = .int .i64 k ∧ v5 = .int .i64 ((s + 4 * k : Nat) : Int) ∧ SpSt w wr l t u v v' G k s

set_option maxHeartbeats 1000000 in
set_option maxRecDepth 20000 in
theorem specSack_yes {w : World} {b off n c : Nat} {l : List Int} (h : ChunkAt w b off n c l) (h3 : l.getD 0 0 = 3) (hn : 16 ≤ n) (he16 : (n : Int) = 16 + 4 * be2 l 12 + 4 * be2 l 14) :
    Calls Tryd.prog 16 #[.slice (some ⟨b, off, none⟩) n c] w (SackIs w l) := by
  have hb := h.lt
  have HCW := Lib.hid h
  have hA := h.mod ((Mod.refl (fun _ => False) w).alloc (.cells #[.int .u32 0, .int .u32 0, .slice none 0 0, .slice none 0 0] 39)) (fun h => h)
  obtain ⟨G, hG⟩ : ∃ G : Nat, (G : Int) = be2 l 12 := ⟨(be2 l 12).toNat, Int.toNat_of_nonneg (be2_bound h.byte 12).1⟩
  obtain ⟨D, hD⟩ : ∃ D : Nat, (D : Int) = be2 l 14 := ⟨(be2 l 14).toNat, Int.toNat_of_nonneg (be2_bound h.byte 14).1⟩
  have G1 : G < 65536 := by have := (be2_bound h.byte 12).2; omega
  have D1 : D < 65536 := by have := (be2_bound h.byte 14).2; omega
  have HCH := Lib.hid hA
  have A12 := Lib.hid (hA.at2 12 (by omega) 12 rfl)
  have A14 := Lib.hid (hA.at2 14 (by omega) 14 rfl)
  have A4 := Lib.hid (hA.at4 4 (by omega) 4 rfl)
  have A8 := Lib.hid (hA.at4 8 (by omega) 8 rfl)
  rw [← hG] at A12; rw [← hD] at A14
  have q4 := be4_bound h.byte 4; have q8 := be4_bound h.byte 8
  obtain ⟨t, ht⟩ : ∃ y, y = be4 l 4 := ⟨_, rfl⟩
  obtain ⟨u, hu⟩ : ∃ y, y = be4 l 8 := ⟨_, rfl⟩
  rw [← ht] at q4 A4; rw [← hu] at q8 A8
  obtain ⟨q4l, q4r⟩ := q4; obtain ⟨q8l, q8r⟩ := q8
  have W4 : IntKind.u32.wrap t = t := wraps_u32 t (by omega) (by omega)
  have W8 : IntKind.u32.wrap u = u := wraps_u32 u (by omega) (by omega)
  have g0 : w.cell? ⟨b, off, none⟩ = some (.int .u8 3) := by rw [← h3]; exact h.cell 0 (by omega)
  have hn0 : (0 : Int) < n := by omega
  have hn1 : 0 < n := by omega
  have hn16 : ¬ (n : Int) < 16 := by omega
  have hs := h.small
  have hN : n = 16 + 4 * G + 4 * D := by omega
  have wg := wraps_i64 (4 * (G : Int)) (by omega) (by omega)
  have wd := wraps_i64 (4 * (D : Int)) (by omega) (by omega)
  have ws := wraps_i64 (16 + 4 * (G : Int)) (by omega) (by omega)
  have wt := wraps_i64 (16 + 4 * (G : Int) + 4 * (D : Int)) (by omega) (by omega)
  have hme : ((n : Int) == 16 + 4 * (G : Int) + 4 * (D : Int)) = true := by simp; omega
  have HT := Lib.hid ht; have HU := Lib.hid hu; have HG := Lib.hid hG; have HD := Lib.hid hD; have HN := Lib.hid hN
  clear h h3 he16 hA ht hu hG hD hN
  go_enter Tryd.func16, Tryd.ntmps16
  go_wp2_with fail
  refine A12.out.mono ?_
  rintro e w1 ⟨rfl, rfl⟩
  go_wp2_with fail
  refine A14.out.mono ?_
  rintro e w1 ⟨rfl, rfl⟩
  go_wp2_with fail
  refine A4.out.mono ?_
  rintro e w1 ⟨rfl, rfl⟩
  go_wp2_with fail
  refine A8.out.mono ?_
  rintro e w1 ⟨rfl, rfl⟩
  have HR0 := Lib.hid (heap_new w (.cells #[.int .u32 0, .int .u32 0, .slice none 0 0, .slice none 0 0] 39))
  have HL0 := Lib.hid ((Below.refl w.heap.size w).alloc (Nat.le_refl _) (.cells #[.int .u32 0, .int .u32 0, .slice none 0 0, .slice none 0 0] 39))
  have hz0 : (w.alloc (.cells #[.int .u32 0, .int .u32 0, .slice none 0 0, .slice none 0 0] 39)).heap.size = w.heap.size + 1 := by simp
  clear A12 A14 A4 A8 g0 wg wd ws wt hme
  go_wp2_with fail
  have ST0 : Hid (SpSt w ((w.alloc (.cells #[.int .u32 0, .int .u32 0, .slice none 0 0, .slice none 0 0] 39)).alloc (.cells #[.int .u32 t, .int .u32 u, .slice none 0 0, .slice none 0 0] 39)) l t u (.slice none 0 0) (.slice none 0 0) 0 0 (16 + 4 * G)) := Lib.hid
    ⟨(heap_alloc_old _ _ (by simp)).trans HR0.out, by rw [← hz0]; exact heap_new _ _, World.ownsRow_nil _ _ _ _, World.ownsRow_nil _ _ _ _, .inl rfl, HL0.out.alloc (by simp) _⟩
  obtain ⟨i0, hi, hz0', hzz1, hzz2⟩ := info_parts info43
  obtain ⟨k0, hk0, kz0, kzz1, kzz2⟩ := info_parts info27s
  have HBY := Lib.hid (fun k => be2_bound HCH.out.byte k)
  have HBY4 := Lib.hid (fun k => be4_bound HCH.out.byte k)
  clear HCH HR0 HL0 hz0
  go_loopw [5, 6] (fun v i wr => SpRel1 w G (16 + 4 * G) l t u v i wr) (fun _ i _ => G - (intOf i).toNat)
  case atStart => exact ⟨0, _, Nat.zero_le _, rfl, rfl, ST0.out⟩
  case round =>
    obtain ⟨j, v, hj, rfl, rfl, hst⟩ := hrel
    have hch := HCW.out.mod (Mod.of_below (S := fun _ => False) hst.below) (fun h => h)
    have HCR := Lib.hid hch
    have A12 := Lib.hid (hch.at2 12 (by omega) 12 rfl)
    rw [← HG.out] at A12
    have HST := Lib.hid hst
    clear hst hch
    by_cases hjk : j < G
    · have hjG : (j : Int) < G := by omega
      obtain ⟨p, hp⟩ : ∃ p, p = 16 + 4 * j := ⟨_, rfl⟩
      rw [← hp]
      have hpm : p + 4 ≤ n := by have := HN.out; omega
      have w2p := wraps_i64 ((p : Int) + 2) (by omega) (by omega)
      have B0 := Lib.hid ((HCR.out.mod ((Mod.refl (fun _ => False) wr).drew) (fun h => h)).at2 p (by omega) p rfl)
      have B2 := Lib.hid ((HCR.out.mod ((Mod.refl (fun _ => False) wr).drew) (fun h => h)).at2 (p + 2) (by omega) ((p : Int) + 2) (by simp))
      obtain ⟨x, hx⟩ : ∃ x, x = be2 l p := ⟨_, rfl⟩
      obtain ⟨y, hy⟩ : ∃ y, y = be2 l (p + 2) := ⟨_, rfl⟩
      rw [← hx] at B0; rw [← hy] at B2
      have c2 : wr.cell? ⟨w.heap.size + 1, 2, none⟩ = some v := by rw [cell_of_block HST.out.x]; rfl
      have f2 : wr.frozen? ⟨w.heap.size + 1, 2, none⟩ = false := frozen_of_block HST.out.x
      have c2d : wr.drew.cell? ⟨w.heap.size + 1, 2, none⟩ = some v := c2
      have f2d : wr.drew.frozen? ⟨w.heap.size + 1, 2, none⟩ = false := f2
      have c2a := cell_alloc c2 (.cells #[.int .i64 x, .int .i64 y] 43)
      have hsz : w.heap.size + 2 ≤ wr.heap.size := (Array.getElem?_eq_some_iff.1 HST.out.x).1
      have HX := Lib.hid hx; have HY := Lib.hid hy; have HP := Lib.hid hp
      clear hx hy hp
      go_wp2_with fail
      refine A12.out.mono ?_
      rintro e w1 ⟨rfl, rfl⟩
      clear A12
      go_wp2_with fail
      go_region_law (first | (refine step_append_any _ (by rfl) _ _ 36 (by rfl) (w.heap.size + 2) 43 i0 (.agg #[.int .i64 0, .int .i64 0]) 2 16 Tryd.underlying36 hi hz0' hzz1 hzz2 rfl (by decide) v j ((List.range (j * 2)).map (pair64 l)) (by rfl) (HST.out.gaps.drew.alloc _) ⟨w1.heap.size, 0, none⟩ 1 1 [.int .i64 x, .int .i64 y] (by rfl) rfl (two_cells _ _ rfl) (by simp [Value.oneCell']) (by unfold maxLen; omega) (by omega) (by simp; omega) ?_; intro va vc w3 hown hgrow hat; have c3 := grown_cell (HST.out.gaps.drew.alloc _) (p := ⟨w.heap.size + 1, 2, none⟩) (by simp) (cell_alloc c2d _) hgrow; have f3 := grown_frozen (HST.out.gaps.drew.alloc _) (p := ⟨w.heap.size + 1, 2, none⟩) (by simp) (cell_alloc c2d _) ((frozen_alloc (lt_of_cell c2d) _).trans f2d) hgrow) | (go_simp; go_at_call 26; with_reducible refine B0.out.mono ?_; rintro e w2 ⟨rfl, rfl⟩) | (go_simp; go_at_call 26; with_reducible refine B2.out.mono ?_; rintro e w2 ⟨rfl, rfl⟩))
      all_goals (
        have HS2 := Lib.hid (HST.out.gap (y := w1.drew.alloc (.cells #[.int .i64 x, .int .i64 y] 43)) rfl (a := .int .i64 x) (b := .int .i64 y) (by rw [HX.out, HP.out]; unfold pair64; congr 2; omega) (by rw [HY.out, HP.out]; unfold pair64; congr 2; omega) hown hgrow)
        clear hown hgrow hat c3 f3 c2 f2 c2d f2d c2a
        go_wp2_with fail
        have w4p := wraps_i64 ((p : Int) + 4) (by omega) (by omega)
        have w1j := wraps_i64 ((j : Int) + 1) (by omega) (by omega)
        go_wp2_with fail
        go_roundw
        case rel => exact ⟨j + 1, _, hjk, by go_num, by rw [show ((16 + 4 * (j + 1) : Nat) : Int) = (p : Int) + 4 by rw [HP.out]; omega], HS2.out⟩
        case measure => simp [intOf]; omega)
    · obtain rfl : j = G := by omega
      have hjj : (j : Int) ≤ j := Int.le_refl _
      go_wp2_with fail
      refine A12.out.mono ?_
      rintro e w1 ⟨rfl, rfl⟩
      clear A12 HCR
      go_wp2_with fail
      go_loopw [5, 7] (fun v i wr => SpRel2 w j D (16 + 4 * j) l t u v i wr) (fun _ i _ => D - (intOf i).toNat)
      case atStart => exact ⟨0, _, _, Nat.zero_le _, rfl, rfl, HST.out⟩
      case round =>
        clear HST
        obtain ⟨k, v, v', hk, rfl, rfl, hst⟩ := hrel
        have hch := HCW.out.mod (Mod.of_below (S := fun _ => False) hst.below) (fun h => h)
        have HCR := Lib.hid hch
        have A14 := Lib.hid (hch.at2 14 (by omega) 14 rfl)
        rw [← HD.out] at A14
        have HST := Lib.hid hst
        clear hst hch
        by_cases hkd : k < D
        · have hkD : (k : Int) < D := by omega
          obtain ⟨p, hp⟩ : ∃ p, p = 16 + 4 * j + 4 * k := ⟨_, rfl⟩
          rw [← hp]
          have hpm : p + 4 ≤ n := by have := HN.out; omega
          have B0 := Lib.hid ((HCR.out.mod ((Mod.refl (fun _ => False) wr).drew) (fun h => h)).at4 p (by omega) p rfl)
          obtain ⟨x, hx⟩ : ∃ x, x = be4 l p := ⟨_, rfl⟩
          have qx := HBY4.out p
          rw [← hx] at B0 qx
          obtain ⟨qx0, qx1⟩ := qx
          have WX : IntKind.u32.wrap x = x := wraps_u32 x (by omega) (by omega)
          have c2 : wr.cell? ⟨w.heap.size + 1, 3, none⟩ = some v' := by rw [cell_of_block HST.out.x]; rfl
          have f2 : wr.frozen? ⟨w.heap.size + 1, 3, none⟩ = false := frozen_of_block HST.out.x
          have c2d : wr.drew.cell? ⟨w.heap.size + 1, 3, none⟩ = some v' := c2
          have f2d : wr.drew.frozen? ⟨w.heap.size + 1, 3, none⟩ = false := f2
          have c2a := cell_alloc c2 (.cells #[.int .u32 x] 27)
          have hsz : w.heap.size + 2 ≤ wr.heap.size := (Array.getElem?_eq_some_iff.1 HST.out.x).1
          have HX := Lib.hid hx; have HP := Lib.hid hp
          clear hx hp
          go_wp2_with fail
          refine A14.out.mono ?_
          rintro e w1 ⟨rfl, rfl⟩
          clear A14
          go_wp2_with fail
          go_region_law (first | (refine step_append_any _ (by rfl) _ _ 37 (by rfl) (w.heap.size + 2) 27 k0 (.int .u32 0) 1 4 Tryd.underlying37 hk0 kz0 kzz1 kzz2 rfl (by decide) v' k ((List.range (k * 1)).map (quad32 l (16 + 4 * j))) (by rfl) (HST.out.twice.drew.alloc _) ⟨w1.heap.size, 0, none⟩ 1 1 [.int .u32 x] (by rfl) rfl (cell_one_new _ _ _) (by simp [Value.oneCell']) (by unfold maxLen; omega) (by omega) (by simp; omega) ?_; intro va vc w3 hown hgrow hat; have c3 := grown_cell (HST.out.twice.drew.alloc _) (p := ⟨w.heap.size + 1, 3, none⟩) (by simp) (cell_alloc c2d _) hgrow; have f3 := grown_frozen (HST.out.twice.drew.alloc _) (p := ⟨w.heap.size + 1, 3, none⟩) (by simp) (cell_alloc c2d _) ((frozen_alloc (lt_of_cell c2d) _).trans f2d) hgrow) | (go_simp; go_at_call 26; with_reducible refine B0.out.mono ?_; rintro e w2 ⟨rfl, rfl⟩))
          all_goals (
            have HS2 := Lib.hid (HST.out.dup (y := w1.drew.alloc (.cells #[.int .u32 x] 27)) rfl (a := .int .u32 x) (by rw [HX.out, HP.out]; rfl) hown hgrow hat)
            clear hown hgrow hat c3 f3 c2 f2 c2d f2d c2a
            go_wp2_with fail
            have w4p := wraps_i64 ((p : Int) + 4) (by omega) (by omega)
            have w1k := wraps_i64 ((k : Int) + 1) (by omega) (by omega)
            go_wp2_with fail
            go_roundw
            case rel => exact ⟨k + 1, _, _, hkd, by go_num, by rw [show ((16 + 4 * j + 4 * (k + 1) : Nat) : Int) = (p : Int) + 4 by rw [HP.out]; omega], HS2.out⟩
            case measure => simp [intOf]; omega)
        · obtain rfl : k = D := by omega
          have hkk : (k : Int) ≤ k := Int.le_refl _
          obtain ⟨ga, gc, rfl, hrg⟩ := RowAt.of_owns HST.out.gaps
          obtain ⟨da, dc, rfl, hrd⟩ := RowAt.of_owns HST.out.twice
          have HRG := Lib.hid hrg; have HRD := Lib.hid hrd
          clear hrg hrd
          have hx := HST.out.x
          have hr := HST.out.res
          have s0 : wr.cell? ⟨w.heap.size + 1, 0, none⟩ = some (.int .u32 t) := by rw [cell_of_block hx]; rfl
          have s1 : wr.cell? ⟨w.heap.size + 1, 1, none⟩ = some (.int .u32 u) := by rw [cell_of_block hx]; rfl
          have s2 : wr.cell? ⟨w.heap.size + 1, 2, none⟩ = some (.slice ga j gc) := by rw [cell_of_block hx]; rfl
          have s3 : wr.cell? ⟨w.heap.size + 1, 3, none⟩ = some (.slice da k dc) := by rw [cell_of_block hx]; rfl
          clear hx
          go_wp2_with fail
          refine A14.out.mono ?_
          rintro e w1 ⟨rfl, rfl⟩
          clear A14
          have r0 : w1.cell? ⟨w.heap.size, 0, none⟩ = some (.int .u32 0) := by rw [cell_of_block hr]; rfl
          have z0 : w1.frozen? ⟨w.heap.size, 0, none⟩ = false := frozen_of_block hr
          have r1 : w1.cell? ⟨w.heap.size, 1, none⟩ = some (.int .u32 0) := by rw [cell_of_block hr]; rfl
          have z1 : w1.frozen? ⟨w.heap.size, 1, none⟩ = false := frozen_of_block hr
          have r2 : w1.cell? ⟨w.heap.size, 2, none⟩ = some (.slice none 0 0) := by rw [cell_of_block hr]; rfl
          have z2 : w1.frozen? ⟨w.heap.size, 2, none⟩ = false := frozen_of_block hr
          have r3 : w1.cell? ⟨w.heap.size, 3, none⟩ = some (.slice none 0 0) := by rw [cell_of_block hr]; rfl
          have z3 : w1.frozen? ⟨w.heap.size, 3, none⟩ = false := frozen_of_block hr
          have HR := Lib.hid hr
          clear hr
          go_wp2_with fail
          clear s0 s1 s2 s3 r0 z0 r1 z1 r2 z2 r3 z3
          generalize hW : World.setCell _ _ _ = w2
          have hch := (heap_setCell_same (i := 3) (heap_setCell_same (i := 2) (heap_setCell_same (i := 1) (heap_setCell_same (i := 0) HR.out (.int .u32 t)) (.int .u32 u)) (.slice ga j gc)) (.slice da k dc))
          simp only [imsk, List.setIfInBounds_toArray, List.set_cons_zero, List.set_cons_succ] at hch
          have hb : w2.heap[w.heap.size]? = some (.cells #[.int .u32 t, .int .u32 u, .slice ga j gc, .slice da k dc] 39 (0, 0)) := by rw [← hW]; exact hch
          have M : Mod (· = w.heap.size) w1 w2 := by rw [← hW]; exact (((((Mod.refl (· = w.heap.size) w1).set1 _).set1 _).set1 _).set1 _)
          clear hch hW
          have k0 : w2.cell? ⟨w.heap.size, 0, none⟩ = some (.int .u32 t) := by rw [cell_of_block hb]; rfl
          have k1 : w2.cell? ⟨w.heap.size, 1, none⟩ = some (.int .u32 u) := by rw [cell_of_block hb]; rfl
          have k2 : w2.cell? ⟨w.heap.size, 2, none⟩ = some (.slice ga j gc) := by rw [cell_of_block hb]; rfl
          have k3 : w2.cell? ⟨w.heap.size, 3, none⟩ = some (.slice da k dc) := by rw [cell_of_block hb]; rfl
          refine bodyPost_ret (v := .tuple #[.agg #[.int .u32 t, .int .u32 u, .slice ga j gc, .slice da k dc], .bool true]) (by simp [results, Tryd.results16, go_sem, k0, k1, k2, k3]) rfl ?_
          have hz : ∀ q : Nat, q = w.heap.size → q < w.heap.size + 2 ∨ w1.heap.size ≤ q := fun q e => .inl (by omega)
          rw [HT.out, HU.out]
          exact ⟨ga, gc, da, dc, j, k, rfl, HG.out, HD.out, (HRG.out.mod M hz).mono (by omega), (HRD.out.mod M hz).mono (by omega), HST.out.below.trans (M.below HST.out.below.size (fun q e => by omega))⟩

set_option maxHeartbeats 1000000 in
set_option maxRecDepth 20000 in
theorem specSack_no {w : World} {b off n c : Nat} {l : List Int} (h : ChunkAt w b off n c l) (hno : l.getD 0 0 ≠ 3 ∨ n < 16 ∨ (n : Int) ≠ 16 + 4 * be2 l 12 + 4 * be2 l 14) :
    Calls Tryd.prog 16 #[.slice (some ⟨b, off, none⟩) n c] w (SackNot w) := by
  obtain ⟨x, hx⟩ : ∃ x, x = l.getD 0 0 := ⟨_, rfl⟩
  have hb := h.lt
  have g0 : w.cell? ⟨b, off, none⟩ = some (.int .u8 x) := by rw [hx]; exact h.cell 0 (by have := h.ge; omega)
  have hn0 : (0 : Int) < n := by have := h.ge; omega
  have hn1 : 0 < n := by have := h.ge; omega
  have hs := h.small
  rw [← hx] at hno
  by_cases h0 : x = 3
  · subst h0
    by_cases h16 : n < 16
    · have hn : (n : Int) < 16 := by omega
      clear hno h hx
      go_enter Tryd.func16, Tryd.ntmps16
      go_wp2_with fail
      refine bodyPost_ret (v := .tuple #[.agg imsk, .bool false]) (by simp [results, Tryd.results16, go_sem, imsk]) rfl ?_
      exact ⟨rfl, (Below.refl _ w).alloc (Nat.le_refl _) _⟩
    · have hA := h.mod ((Mod.refl (fun _ => False) w).alloc (.cells #[.int .u32 0, .int .u32 0, .slice none 0 0, .slice none 0 0] 39)) (fun h => h)
      have A12 := Lib.hid (hA.at2 12 (by omega) 12 rfl)
      have A14 := Lib.hid (hA.at2 14 (by omega) 14 rfl)
      obtain ⟨G, hG⟩ : ∃ G, G = be2 l 12 := ⟨_, rfl⟩
      obtain ⟨D, hD⟩ : ∃ D, D = be2 l 14 := ⟨_, rfl⟩
      have q12 := be2_bound h.byte 12; have q14 := be2_bound h.byte 14
      rw [← hG] at A12 q12; rw [← hD] at A14 q14
      obtain ⟨q12l, q12r⟩ := q12; obtain ⟨q14l, q14r⟩ := q14
      have hne : (n : Int) ≠ 16 + 4 * G + 4 * D := by
        rcases hno with h0 | h0 | h0
        · exact absurd rfl h0
        · exact absurd h0 h16
        · rw [hG, hD]; exact h0
      have hnn : ¬ (n : Int) < 16 := by omega
      have wg := wraps_i64 (4 * G) (by omega) (by omega)
      have wd := wraps_i64 (4 * D) (by omega) (by omega)
      have ws := wraps_i64 (16 + 4 * G) (by omega) (by omega)
      have wt := wraps_i64 (16 + 4 * G + 4 * D) (by omega) (by omega)
      have hme : ((n : Int) == 16 + 4 * G + 4 * D) = false := by simpa using hne
      clear hno h hx hA hG hD hne
      go_enter Tryd.func16, Tryd.ntmps16
      go_wp2_with fail
      refine A12.out.mono ?_
      rintro e w1 ⟨rfl, rfl⟩
      go_wp2_with fail
      refine A14.out.mono ?_
      rintro e w1 ⟨rfl, rfl⟩
      go_wp2_with fail
      refine bodyPost_ret (v := .tuple #[.agg imsk, .bool false]) (by simp [results, Tryd.results16, go_sem, imsk]) rfl ?_
      exact ⟨rfl, (Below.refl _ w).alloc (Nat.le_refl _) _⟩
  · have hx0 : (x == 3) = false := by simpa using h0
    clear hno h hx
    go_enter Tryd.func16, Tryd.ntmps16
    go_wp2_with fail
    refine bodyPost_ret (v := .tuple #[.agg imsk, .bool false]) (by simp [results, Tryd.results16, go_sem, imsk]) rfl ?_
    exact ⟨rfl, (Below.refl _ w).alloc (Nat.le_refl _) _⟩
end Go.Proofs.YtnajpmdnadjipaaDoor
