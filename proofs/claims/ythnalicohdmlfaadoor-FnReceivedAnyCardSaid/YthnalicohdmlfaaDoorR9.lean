/- Part of the proof of laws.FnReceivedAny: rows of pairs handed on, and a new queue; conditions: as each theorem states. -/
import Derived.Test.YthnalicohdmlfaaDoorR8
namespace Go.Proofs.YthnalicohdmlfaaDoor
open Go.RowKit
set_option linter.unusedVariables false

def gval (C : Nat) (gs : List (Nat × Nat)) (k : Nat) : Int := if k % 2 = 0 then ((gs.getD (k / 2) (C, C)).1 : Int) - C else ((gs.getD (k / 2) (C, C)).2 : Int) - C
theorem cells16_take (C : Nat) (gs : List (Nat × Nat)) : ∀ j, j ≤ gs.length → cells16 C (gs.take j) = (List.range (j * 2)).map (fun k => .int .u16 (gval C gs k))
  | 0, _ => by simp [cells16]
  | j + 1, h => by
    have hj : j < gs.length := h
    rw [List.take_succ_eq_append_getElem hj, show gs[j] = ((gs[j]).1, (gs[j]).2) from rfl, cells16_snoc, cells16_take C gs j (by omega), range_two]
    have e1 : gval C gs (j * 2) = ((gs[j]).1 : Int) - C := by
      unfold gval
      rw [if_pos (by omega), show j * 2 / 2 = j by omega, List.getD_eq_getElem?_getD, List.getElem?_eq_getElem hj]; rfl
    have e2 : gval C gs (j * 2 + 1) = ((gs[j]).2 : Int) - C := by
      unfold gval
      rw [if_neg (by omega), show (j * 2 + 1) / 2 = j by omega, List.getD_eq_getElem?_getD, List.getElem?_eq_getElem hj]; rfl
    rw [e1, e2]
theorem cells16_map (C : Nat) (gs : List (Nat × Nat)) : cells16 C gs = (List.range (gs.length * 2)).map (fun k => .int .u16 (gval C gs k)) := by
  have := cells16_take C gs gs.length (Nat.le_refl _)
  rwa [List.take_length] at this
theorem grow_mem {l : List (Nat × Nat)} {e : Nat} {p : Nat × Nat} (h : p ∈ grow l e) : ∃ a ∈ l, p = a ∨ p = (a.1, e) := by
  unfold grow at h
  cases hr : l.reverse with
  | nil => rw [hr] at h; cases h
  | cons a r =>
    rw [hr] at h
    have hl : l = r.reverse ++ [a] := by have := congrArg List.reverse hr; simpa using this
    subst hl
    simp only [List.mem_append, List.mem_reverse, List.mem_singleton] at h ⊢
    rcases h with h | h
    · exact ⟨p, .inl h, .inl rfl⟩
    · exact ⟨a, .inr rfl, .inr h⟩
theorem gl_mem {r : Nat → Bool} {C : Nat} (hr : ∀ k, r k = true → C < k) : ∀ n, ∀ p ∈ gl r n, C < p.1 ∧ C < p.2 ∧ p.1 ≤ n ∧ p.2 ≤ n
  | 0, p, h => by cases h
  | n + 1, p, h => by
    have ih := gl_mem hr n
    have h' : p ∈ (if r (n + 1) then (if r n then grow (gl r n) (n + 1) else gl r n ++ [(n + 1, n + 1)]) else gl r n) := h
    split at h'
    · rename_i h1
      have h2 := hr _ h1
      split at h'
      · obtain ⟨a, ha, hp⟩ := grow_mem h'
        have := ih a ha
        rcases hp with rfl | rfl
        · omega
        · exact ⟨this.1, h2, by omega, Nat.le_refl _⟩
      · rcases List.mem_append.1 h' with h3 | h3
        · have := ih p h3; omega
        · obtain rfl := List.mem_singleton.1 h3
          exact ⟨h2, h2, Nat.le_refl _, Nat.le_refl _⟩
    · have := ih p h'; omega
theorem gval_bound {C : Nat} {gs : List (Nat × Nat)} (h : ∀ p ∈ gs, C < p.1 ∧ C < p.2 ∧ p.1 ≤ 1000 ∧ p.2 ≤ 1000) (k : Nat) : 0 ≤ gval C gs k ∧ gval C gs k < 65536 := by
  have hp : ∃ p : Nat × Nat, gs.getD (k / 2) (C, C) = p ∧ C ≤ p.1 ∧ C ≤ p.2 ∧ (p.1 ≤ 1000 ∧ p.2 ≤ 1000 ∨ p = (C, C)) := by
    refine ⟨_, rfl, ?_⟩
    rw [List.getD_eq_getElem?_getD]
    cases hg : gs[k / 2]? with
    | none => simp
    | some p => have := h p (List.mem_of_getElem? hg); simp; omega
  obtain ⟨p, e, h1, h2, h3⟩ := hp
  unfold gval
  rw [e]
  rcases h3 with h3 | rfl
  · split <;> omega
  · split <;> simp

theorem info50 : (Tryd.prog.info? 50).map (fun i => (i.zero, i.size, i.bytes)) = some (some (.agg #[.int .u16 0, .int .u16 0]), 2, 4) := by kernel_rfl
theorem info32 : (Tryd.prog.info? 32).map (fun i => (i.zero, i.size, i.bytes)) = some (some (.agg #[.int .i64 0, .int .i64 0]), 2, 16) := by kernel_rfl
/-- A row of pairs handed back. -/
def RowBack (w : World) (n size : Nat) (f : Nat → Value) (e : Ending) (w' : World) : Prop :=
  ∃ ao c, e = .returned (.slice ao n c) ∧ RowAt w.heap.size w' ao n c size f ∧ Below w.heap.size w w'
/-- The loops' relation. -/
def PairRel (B : Nat) (w : World) (e : TypeId) (G : Nat) (f : Nat → Value) (v i : Value) (wr : World) : Prop :=
  ∃ j : Nat, j ≤ G ∧ i = .int .i64 j ∧ wr.ownsRow B e 2 v j ((List.range (j * 2)).map f) ∧ Below B w wr

set_option maxHeartbeats 1000000 in
set_option maxRecDepth 20000 in
theorem zzgaps_any {w : World} {B : Nat} {ao : Option Addr} {G c : Nat} {f : Nat → Int} (h : RowAt B w ao G c 2 (fun k => .int .u16 (f k))) (hG : G < 65536) (hf : ∀ k, 0 ≤ f k ∧ f k < 65536) :
    Calls Tryd.prog 15 #[.slice ao G c] w (RowBack w G 2 (fun k => .int .u16 (f k))) := by
  obtain ⟨i0, hi, hz0, hz1, hz2⟩ := info_parts info50
  have HR := Lib.hid h
  have HF := Lib.hid hf
  have O0 := Lib.hid (World.ownsRow_nil w w.heap.size 50 2)
  clear h hf
  go_enter Tryd.func15, Tryd.ntmps15
  go_wp2_with fail
  go_loopw [3, 8] (fun v i wr => PairRel w.heap.size w 50 G (fun k => .int .u16 (f k)) v i wr) (fun _ i _ => G - (intOf i).toNat)
  case atStart => exact ⟨0, Nat.zero_le _, rfl, O0.out, Below.refl _ _⟩
  case round =>
    obtain ⟨j, hj, rfl, hown, hb⟩ := hrel
    by_cases hjk : j < G
    · have hjG : (j : Int) < G := by omega
      have hr := HR.out
      rcases hr with ⟨_, h0, _⟩ | ⟨g, rfl, hBg, hg, hc, hcell⟩
      · omega
      obtain ⟨x, hx⟩ : ∃ x, x = f (j * 2) := ⟨_, rfl⟩
      obtain ⟨y, hy⟩ : ∃ y, y = f (j * 2 + 1) := ⟨_, rfl⟩
      have c0 : wr.cell? ⟨g, j * 2, none⟩ = some (.int .u16 x) := by
        rw [hx, hb.cell (by exact hg)]; exact hcell (j * 2) (by omega)
      have c1 : wr.cell? ⟨g, j * 2 + 1, none⟩ = some (.int .u16 y) := by
        rw [hy, hb.cell (by exact hg)]; exact hcell (j * 2 + 1) (by omega)
      have bx : 0 ≤ x ∧ x < 65536 := by rw [hx]; exact HF.out _
      have by' : 0 ≤ y ∧ y < 65536 := by rw [hy]; exact HF.out _
      obtain ⟨bx0, bx1⟩ := bx
      obtain ⟨by0, by1⟩ := by'
      have wx := wraps_i64 x (by omega) (by omega)
      have wy := wraps_i64 y (by omega) (by omega)
      have HX := Lib.hid hx; have HY := Lib.hid hy
      have HO := Lib.hid hown; have HB := Lib.hid hb
      have hsz : w.heap.size ≤ wr.heap.size := hb.size
      clear hx hy hown hb hcell
      go_wp2_with (first | (at_builtin; refine wpList_append_own _ rfl _ _ 35 rfl w.heap.size 50 i0 (.agg #[.int .u16 0, .int .u16 0]) 2 4 Tryd.underlying35 hi hz0 hz1 hz2 rfl (by decide) _ _ _ rfl ((HO.out.alloc _).alloc _) ⟨wr.heap.size + 1, 0, none⟩ 1 1 [.int .u16 x, .int .u16 y] rfl ?c0 ?c1 ?c2 ?c3 ?c4 ?c5 ?_))
      case c0 => rfl
      case c1 => exact two_cells _ _ (by simp)
      case c2 => simp [Value.oneCell']
      case c3 => unfold maxLen; omega
      case c4 => omega
      case c5 => simp; omega
      intro v' w1 hown' hgrow _
      have hb' := ((HB.out.alloc hsz (.cells #[.int .u16 x, .int .u16 y] 57)).alloc (by simp; omega) (.cells #[.int .u16 x, .int .u16 y] 50)).grown hgrow (by simp; omega) (fun k hk => (HO.out.lt k hk).1)
      rw [HX.out, HY.out, show [(.int .u16 (f (j * 2)) : Value), .int .u16 (f (j * 2 + 1))] = [(fun k => (.int .u16 (f k) : Value)) (j * 2), (fun k => (.int .u16 (f k) : Value)) (j * 2 + 1)] from rfl, ← range_two] at hown'
      have HO' := Lib.hid hown'; have HB' := Lib.hid hb'
      have w1j := wraps_i64 ((j : Int) + 1) (by omega) (by omega)
      clear hown' hgrow hb'
      go_wp2_with fail
      go_roundw
      case rel => exact ⟨j + 1, hjk, by go_num, HO'.out, HB'.out⟩
      case measure => simp [intOf]; omega
    · obtain rfl : j = G := by omega
      have hjj : (j : Int) ≤ j := Int.le_refl _
      have HB := Lib.hid hb
      obtain ⟨ao, c, rfl, hr⟩ := RowAt.of_owns hown
      have HR := Lib.hid hr
      clear hown hb hr
      go_wp2_with fail
      go_ret
      exact ⟨ao, c, rfl, HR.out, HB.out⟩

set_option maxHeartbeats 1000000 in
set_option maxRecDepth 20000 in
theorem pairs_any {w : World} {B : Nat} {ao : Option Addr} {G c : Nat} {f : Nat → Int} (h : RowAt B w ao G c 2 (fun k => .int .u16 (f k))) (hG : G < 65536) (hf : ∀ k, 0 ≤ f k ∧ f k < 65536) :
    Calls Tryd.prog 9 #[.slice ao G c] w (RowBack w G 2 (fun k => .int .i64 (f k))) := by
  obtain ⟨i0, hi, hz0, hz1, hz2⟩ := info_parts info32
  have HR := Lib.hid h
  have HF := Lib.hid hf
  have O0 := Lib.hid (World.ownsRow_nil w w.heap.size 32 2)
  clear h hf
  go_enter Tryd.func9, Tryd.ntmps9
  go_wp2_with fail
  go_loopw [3, 8] (fun v i wr => PairRel w.heap.size w 32 G (fun k => .int .i64 (f k)) v i wr) (fun _ i _ => G - (intOf i).toNat)
  case atStart => exact ⟨0, Nat.zero_le _, rfl, O0.out, Below.refl _ _⟩
  case round =>
    obtain ⟨j, hj, rfl, hown, hb⟩ := hrel
    by_cases hjk : j < G
    · have hjG : (j : Int) < G := by omega
      have hr := HR.out
      rcases hr with ⟨_, h0, _⟩ | ⟨g, rfl, hBg, hg, hc, hcell⟩
      · omega
      obtain ⟨x, hx⟩ : ∃ x, x = f (j * 2) := ⟨_, rfl⟩
      obtain ⟨y, hy⟩ : ∃ y, y = f (j * 2 + 1) := ⟨_, rfl⟩
      have c0 : wr.cell? ⟨g, j * 2, none⟩ = some (.int .u16 x) := by
        rw [hx, hb.cell (by exact hg)]; exact hcell (j * 2) (by omega)
      have c1 : wr.cell? ⟨g, j * 2 + 1, none⟩ = some (.int .u16 y) := by
        rw [hy, hb.cell (by exact hg)]; exact hcell (j * 2 + 1) (by omega)
      have bx : 0 ≤ x ∧ x < 65536 := by rw [hx]; exact HF.out _
      have by' : 0 ≤ y ∧ y < 65536 := by rw [hy]; exact HF.out _
      obtain ⟨bx0, bx1⟩ := bx
      obtain ⟨by0, by1⟩ := by'
      have wx := wraps_i64 x (by omega) (by omega)
      have wy := wraps_i64 y (by omega) (by omega)
      have HX := Lib.hid hx; have HY := Lib.hid hy
      have HO := Lib.hid hown; have HB := Lib.hid hb
      have hsz : w.heap.size ≤ wr.heap.size := hb.size
      clear hx hy hown hb hcell
      go_wp2_with (first | (at_builtin; refine wpList_append_own _ rfl _ _ 24 rfl w.heap.size 32 i0 (.agg #[.int .i64 0, .int .i64 0]) 2 16 Tryd.underlying24 hi hz0 hz1 hz2 rfl (by decide) _ _ _ rfl ((HO.out.alloc _).alloc _) ⟨wr.heap.size + 1, 0, none⟩ 1 1 [.int .i64 x, .int .i64 y] rfl ?c0 ?c1 ?c2 ?c3 ?c4 ?c5 ?_))
      case c0 => rfl
      case c1 => exact two_cells _ _ (by simp)
      case c2 => simp [Value.oneCell']
      case c3 => unfold maxLen; omega
      case c4 => omega
      case c5 => simp; omega
      intro v' w1 hown' hgrow _
      have hb' := ((HB.out.alloc hsz (.cells #[.int .u16 x, .int .u16 y] 50)).alloc (by simp; omega) (.cells #[.int .i64 x, .int .i64 y] 32)).grown hgrow (by simp; omega) (fun k hk => (HO.out.lt k hk).1)
      rw [HX.out, HY.out, show [(.int .i64 (f (j * 2)) : Value), .int .i64 (f (j * 2 + 1))] = [(fun k => (.int .i64 (f k) : Value)) (j * 2), (fun k => (.int .i64 (f k) : Value)) (j * 2 + 1)] from rfl, ← range_two] at hown'
      have HO' := Lib.hid hown'; have HB' := Lib.hid hb'
      have w1j := wraps_i64 ((j : Int) + 1) (by omega) (by omega)
      clear hown' hgrow hb'
      go_wp2_with fail
      go_roundw
      case rel => exact ⟨j + 1, hjk, by go_num, HO'.out, HB'.out⟩
      case measure => simp [intOf]; omega
    · obtain rfl : j = G := by omega
      have hjj : (j : Int) ≤ j := Int.le_refl _
      have HB := Lib.hid hb
      obtain ⟨ao, c, rfl, hr⟩ := RowAt.of_owns hown
      have HR := Lib.hid hr
      clear hown hb hr
      go_wp2_with fail
      go_ret
      exact ⟨ao, c, rfl, HR.out, HB.out⟩

end Go.Proofs.YthnalicohdmlfaaDoor
