/- Part of the proof of laws.FnSackAny: what zzGaps and impl.pairs return, for every row of pairs; conditions: the row is shorter than 2^16. -/
import Derived.Test.YtnajpmdnadjipaaDoorI3
namespace Go.Proofs.YtnajpmdnadjipaaDoor
open Go.RowKit
set_option linter.unusedVariables false

/-- A row of values behind a slice. -/
def RowAt (B : Nat) (w : World) (ao : Option Addr) (n c size : Nat) (f : Nat → Value) : Prop :=
  (ao = none ∧ n = 0 ∧ c = 0) ∨ ∃ g, ao = some ⟨g, 0, none⟩ ∧ B ≤ g ∧ g < w.heap.size ∧ n ≤ c ∧ ∀ k, k < n * size → w.cell? ⟨g, k, none⟩ = some (f k)

theorem RowAt.mod {S : Nat → Prop} {B : Nat} {w w' : World} {ao : Option Addr} {n c size : Nat} {f : Nat → Value} (h : RowAt B w ao n c size f) (hM : Mod S w w') (hS : ∀ k, S k → k < B ∨ w.heap.size ≤ k) : RowAt B w' ao n c size f := by
  rcases h with h | ⟨g, rfl, hb, hg, hc, hk⟩
  · exact .inl h
  · refine .inr ⟨g, rfl, hb, Nat.lt_of_lt_of_le hg hM.size, hc, fun k hkn => ?_⟩
    rw [hM.cell hg (fun e => by have := hS g e; omega)]
    exact hk k hkn
theorem RowAt.mono {B C : Nat} {w : World} {ao : Option Addr} {n c size : Nat} {f : Nat → Value} (h : RowAt B w ao n c size f) (hC : C ≤ B) : RowAt C w ao n c size f := by
  rcases h with h | ⟨g, rfl, hb, hr⟩
  · exact .inl h
  · exact .inr ⟨g, rfl, Nat.le_trans hC hb, hr⟩
theorem range_map_getElem {f : Nat → Value} {n k : Nat} (h : k < n) : ((List.range n).map f)[k]? = some (f k) := by simp [h]
theorem RowAt.of_owns {B : Nat} {w : World} {e : TypeId} {size n : Nat} {v : Value} {f : Nat → Value} (h : w.ownsRow B e size v n ((List.range (n * size)).map f)) : ∃ ao c, v = .slice ao n c ∧ RowAt B w ao n c size f := by
  rcases h.2 with ⟨rfl, rfl⟩ | ⟨g, cap, cur, rfl, hb, hg, hc, _⟩
  · exact ⟨none, 0, rfl, .inl ⟨rfl, rfl, rfl⟩⟩
  · refine ⟨_, cap, rfl, .inr ⟨g, rfl, hb, (Array.getElem?_eq_some_iff.1 hg).1, hc, fun k hk => ?_⟩⟩
    have := h.cells (g := g) rfl k (f k) (range_map_getElem hk)
    rwa [show (⟨g, 0, none⟩ : Addr).add k = ⟨g, k, none⟩ from by unfold Addr.add; split <;> simp_all] at this
theorem range_two (f : Nat → Value) (j : Nat) : (List.range ((j + 1) * 2)).map f = (List.range (j * 2)).map f ++ [f (j * 2), f (j * 2 + 1)] := by
  rw [show (j + 1) * 2 = j * 2 + 1 + 1 by omega, List.range_succ, List.range_succ]
  simp
theorem range_one (f : Nat → Value) (j : Nat) : (List.range ((j + 1) * 1)).map f = (List.range (j * 1)).map f ++ [f j] := by
  simp [List.range_succ]

theorem two_cells {w : World} {e : TypeId} {g : Nat} (x y : Value) (hg : g = w.heap.size) : ∀ j u, [x, y][j]? = some u → (w.alloc (.cells #[x, y] e)).cell? ((⟨g, 0, none⟩ : Addr).add j) = some u := by
  intro j u hu
  subst hg
  rw [show (⟨w.heap.size, 0, none⟩ : Addr).add j = ⟨w.heap.size, j, none⟩ from by unfold Addr.add; split <;> simp_all, cell_of_block (heap_new w (.cells #[x, y] e))]
  simpa using hu

theorem info97 : (Tryd.prog.info? 97).map (fun i => (i.zero, i.size, i.bytes)) = some (some (.agg #[.int .u16 0, .int .u16 0]), 2, 4) := by kernel_rfl
theorem info43 : (Tryd.prog.info? 43).map (fun i => (i.zero, i.size, i.bytes)) = some (some (.agg #[.int .i64 0, .int .i64 0]), 2, 16) := by kernel_rfl

def gap16 (l : List Int) (s : Nat) (k : Nat) : Value := .int .u16 (be2 l (s + 2 * k))
/-- The loop's relation. -/
def GapRel (B : Nat) (w : World) (G : Nat) (l : List Int) (v i : Value) (wr : World) : Prop :=
  ∃ j : Nat, j ≤ G ∧ i = .int .i64 j ∧ wr.ownsRow B 97 2 v j ((List.range (j * 2)).map (gap16 l 16)) ∧ Below B w wr

/-- A row of pairs handed back. -/
def RowBack (w : World) (n size : Nat) (f : Nat → Value) (e : Ending) (w' : World) : Prop :=
  ∃ ao c, e = .returned (.slice ao n c) ∧ RowAt w.heap.size w' ao n c size f ∧ Below w.heap.size w w'

set_option maxHeartbeats 1000000 in
set_option maxRecDepth 20000 in
theorem gaps_any {w : World} {gb G : Nat} {l : List Int} (h : GapsTo w gb G l (2 * G)) (hG : G < 65536) :
    Calls Tryd.prog 40 #[.slice (some ⟨gb, 0, none⟩) G G] w (RowBack w G 2 (gap16 l 16)) := by
  obtain ⟨i0, hi, hz0, hz1, hz2⟩ := info_parts info97
  have HG := Lib.hid h
  have hgl := h.lt
  have O0 := Lib.hid (World.ownsRow_nil w w.heap.size 97 2)
  clear h
  go_enter Tryd.func40, Tryd.ntmps40
  go_wp2_with fail
  go_loopw [3, 8] (fun v i wr => GapRel w.heap.size w G l v i wr) (fun _ i _ => G - (intOf i).toNat)
  case atStart => exact ⟨0, Nat.zero_le _, rfl, O0.out, Below.refl _ _⟩
  case round =>
    obtain ⟨j, hj, rfl, hown, hb⟩ := hrel
    by_cases hjk : j < G
    · have hjG : (j : Int) < G := by omega
      have c0 : wr.cell? ⟨gb, j * 2, none⟩ = some (.int .u16 (be2 l (16 + 2 * (j * 2)))) := by
        rw [hb.cell (by exact hgl), HG.out.cell (j * 2) (by omega), if_pos (by omega)]
      have c1 : wr.cell? ⟨gb, j * 2 + 1, none⟩ = some (.int .u16 (be2 l (16 + 2 * (j * 2 + 1)))) := by
        rw [hb.cell (by exact hgl), HG.out.cell (j * 2 + 1) (by omega), if_pos (by omega)]
      obtain ⟨x, hx⟩ : ∃ x, x = be2 l (16 + 2 * (j * 2)) := ⟨_, rfl⟩
      obtain ⟨y, hy⟩ : ∃ y, y = be2 l (16 + 2 * (j * 2 + 1)) := ⟨_, rfl⟩
      rw [← hx] at c0; rw [← hy] at c1
      have HX := Lib.hid hx; have HY := Lib.hid hy
      have HO := Lib.hid hown; have HB := Lib.hid hb
      have hsz : w.heap.size ≤ wr.heap.size := hb.size
      clear hx hy hown hb
      go_wp2_with (first | (at_builtin; refine wpList_append_own _ rfl _ _ 63 rfl w.heap.size 97 i0 (.agg #[.int .u16 0, .int .u16 0]) 2 4 Tryd.underlying63 hi hz0 hz1 hz2 rfl (by decide) _ _ _ rfl ((HO.out.alloc _).alloc _) ⟨wr.heap.size + 1, 0, none⟩ 1 1 [.int .u16 x, .int .u16 y] rfl ?c0 ?c1 ?c2 ?c3 ?c4 ?c5 ?_))
      case c0 => rfl
      case c1 => exact two_cells _ _ (by simp)
      case c2 => simp [Value.oneCell']
      case c3 => unfold maxLen; omega
      case c4 => omega
      case c5 => simp; omega
      intro v' w1 hown' hgrow _
      have hb' := ((HB.out.alloc hsz (.cells #[.int .u16 x, .int .u16 y] 110)).alloc (by simp; omega) (.cells #[.int .u16 x, .int .u16 y] 97)).grown hgrow (by simp; omega) (fun k hk => (HO.out.lt k hk).1)
      have hgx : [(.int .u16 x : Value), .int .u16 y] = [gap16 l 16 (j * 2), gap16 l 16 (j * 2 + 1)] := by rw [HX.out, HY.out]; rfl
      rw [hgx, ← range_two] at hown'
      have HO' := Lib.hid hown'; have HB' := Lib.hid hb'
      have w1j := wraps_i64 ((j : Int) + 1) (by omega) (by omega)
      clear hown' hgrow hb' hgx
      go_wp2_with fail
      go_roundw
      case rel => exact ⟨j + 1, hjk, by go_num, HO'.out, HB'.out⟩
      case measure => simp [intOf]; omega
    · obtain rfl : j = G := by omega
      have hjj : (j : Int) ≤ j := Int.le_refl _
      have HB := Lib.hid hb
      obtain ⟨ao, c, rfl, hr⟩ := RowAt.of_owns hown
      have HR := Lib.hid hr
      clear hown hb hr
      go_wp2_with fail
      go_ret
      exact ⟨ao, c, rfl, HR.out, HB.out⟩

/-- The loop's relation. -/
def PairRel (B : Nat) (w : World) (G : Nat) (f : Nat → Int) (v i : Value) (wr : World) : Prop :=
  ∃ j : Nat, j ≤ G ∧ i = .int .i64 j ∧ wr.ownsRow B 43 2 v j ((List.range (j * 2)).map (fun k => .int .i64 (f k))) ∧ Below B w wr

set_option maxHeartbeats 1000000 in
set_option maxRecDepth 20000 in
theorem pairs_any {w : World} {B : Nat} {ao : Option Addr} {G c : Nat} {f : Nat → Int} (h : RowAt B w ao G c 2 (fun k => .int .u16 (f k))) (hG : G < 65536) (hf : ∀ k, 0 ≤ f k ∧ f k < 65536) :
    Calls Tryd.prog 30 #[.slice ao G c] w (RowBack w G 2 (fun k => .int .i64 (f k))) := by
  obtain ⟨i0, hi, hz0, hz1, hz2⟩ := info_parts info43
  have HR := Lib.hid h
  have HF := Lib.hid hf
  have O0 := Lib.hid (World.ownsRow_nil w w.heap.size 43 2)
  clear h hf
  go_enter Tryd.func30, Tryd.ntmps30
  go_wp2_with fail
  go_loopw [3, 8] (fun v i wr => PairRel w.heap.size w G f v i wr) (fun _ i _ => G - (intOf i).toNat)
  case atStart => exact ⟨0, Nat.zero_le _, rfl, O0.out, Below.refl _ _⟩
  case round =>
    obtain ⟨j, hj, rfl, hown, hb⟩ := hrel
    by_cases hjk : j < G
    · have hjG : (j : Int) < G := by omega
      have hr := HR.out
      rcases hr with ⟨_, h0, _⟩ | ⟨g, rfl, hBg, hg, hc, hcell⟩
      · omega
      obtain ⟨x, hx⟩ : ∃ x, x = f (j * 2) := ⟨_, rfl⟩
      obtain ⟨y, hy⟩ : ∃ y, y = f (j * 2 + 1) := ⟨_, rfl⟩
      have c0 : wr.cell? ⟨g, j * 2, none⟩ = some (.int .u16 x) := by
        rw [hx, hb.cell (by exact hg)]; exact hcell (j * 2) (by omega)
      have c1 : wr.cell? ⟨g, j * 2 + 1, none⟩ = some (.int .u16 y) := by
        rw [hy, hb.cell (by exact hg)]; exact hcell (j * 2 + 1) (by omega)
      have bx : 0 ≤ x ∧ x < 65536 := by rw [hx]; exact HF.out _
      have by' : 0 ≤ y ∧ y < 65536 := by rw [hy]; exact HF.out _
      obtain ⟨bx0, bx1⟩ := bx
      obtain ⟨by0, by1⟩ := by'
      have wx := wraps_i64 x (by omega) (by omega)
      have wy := wraps_i64 y (by omega) (by omega)
      have HX := Lib.hid hx; have HY := Lib.hid hy
      have HO := Lib.hid hown; have HB := Lib.hid hb
      have hsz : w.heap.size ≤ wr.heap.size := hb.size
      clear hx hy hown hb hcell
      go_wp2_with (first | (at_builtin; refine wpList_append_own _ rfl _ _ 36 rfl w.heap.size 43 i0 (.agg #[.int .i64 0, .int .i64 0]) 2 16 Tryd.underlying36 hi hz0 hz1 hz2 rfl (by decide) _ _ _ rfl ((HO.out.alloc _).alloc _) ⟨wr.heap.size + 1, 0, none⟩ 1 1 [.int .i64 x, .int .i64 y] rfl ?c0 ?c1 ?c2 ?c3 ?c4 ?c5 ?_))
      case c0 => rfl
      case c1 => exact two_cells _ _ (by simp)
      case c2 => simp [Value.oneCell']
      case c3 => unfold maxLen; omega
      case c4 => omega
      case c5 => simp; omega
      intro v' w1 hown' hgrow _
      have hb' := ((HB.out.alloc hsz (.cells #[.int .u16 x, .int .u16 y] 97)).alloc (by simp; omega) (.cells #[.int .i64 x, .int .i64 y] 43)).grown hgrow (by simp; omega) (fun k hk => (HO.out.lt k hk).1)
      rw [HX.out, HY.out, show [(.int .i64 (f (j * 2)) : Value), .int .i64 (f (j * 2 + 1))] = [(fun k => (.int .i64 (f k) : Value)) (j * 2), (fun k => (.int .i64 (f k) : Value)) (j * 2 + 1)] from rfl, ← range_two] at hown'
      have HO' := Lib.hid hown'; have HB' := Lib.hid hb'
      have w1j := wraps_i64 ((j : Int) + 1) (by omega) (by omega)
      clear hown' hgrow hb'
      go_wp2_with fail
      go_roundw
      case rel => exact ⟨j + 1, hjk, by go_num, HO'.out, HB'.out⟩
      case measure => simp [intOf]; omega
    · obtain rfl : j = G := by omega
      have hjj : (j : Int) ≤ j := Int.le_refl _
      have HB := Lib.hid hb
      obtain ⟨ao, c, rfl, hr⟩ := RowAt.of_owns hown
      have HR := Lib.hid hr
      clear hown hb hr
      go_wp2_with fail
      go_ret
      exact ⟨ao, c, rfl, HR.out, HB.out⟩
end Go.Proofs.YtnajpmdnadjipaaDoor
