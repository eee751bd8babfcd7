/- Part of the proof of laws.FnReceivedAny: what spec.Received returns of numbers that came once each; conditions: as the theorem states. -/
import Derived.Test.YthnalicohdmlfaaDoorR12
namespace Go.Proofs.YthnalicohdmlfaaDoor
open Go.RowKit
set_option linter.unusedVariables false

def z27 : Array Value := #[.int .u32 0, .int .u32 0, .slice none 0 0, .slice none 0 0]
def inB (bh : List Int) : Nat → Bool := fun k => decide ((k : Int) ∈ bh)
def cells64 (C : Nat) (gs : List (Nat × Nat)) : List Value := gs.flatMap fun p => [.int .i64 ((p.1 : Int) - C), .int .i64 ((p.2 : Int) - C)]

structure S1 (w wr : World) (bh : List Int) (j : Nat) (top : Int) : Prop where
  res : wr.heap[w.heap.size]? = some (.cells z27 27 (0, 0))
  map : CameAt wr (w.heap.size + 1) j (fun x => decide (x ∈ bh.take j))
  out : wr.heap[w.heap.size + 2]? = some (.cells z27 27 (0, 0))
  below : Below w.heap.size w wr
  top1 : ∀ y ∈ bh.take j, y ≤ top
  top2 : top = 0 ∨ top ∈ bh.take j
  top3 : 0 ≤ top ∧ top ≤ 1000

theorem S1.next {w wr w3 : World} {bh : List Int} {j : Nat} {top x : Int} (h : S1 w wr bh j top) (hj : j < bh.length) (hx : x = bh[j]) (hxb : 1 ≤ x ∧ x ≤ 1000) (hc : CameAt w3 (w.heap.size + 1) (j + 1) (fun y => decide (y = x) || decide (y ∈ bh.take j))) (hg : wr.grownBy w3 (some (w.heap.size + 1))) :
    S1 w w3 bh (j + 1) (if top < x then x else top) := by
  have ht : bh.take (j + 1) = bh.take j ++ [x] := by rw [List.take_succ_eq_append_getElem hj, hx]
  have hr := (Array.getElem?_eq_some_iff.1 h.res).1
  have ho := (Array.getElem?_eq_some_iff.1 h.out).1
  refine ⟨(hg.block _ hr (by simp)).trans h.res, ?_, (hg.block _ ho (by simp)).trans h.out, h.below.grown hg h.below.size (fun k hk => by cases hk; omega), fun y hy => ?_, ?_, ?_⟩
  · have : (fun y => decide (y = x) || decide (y ∈ bh.take j)) = (fun y => decide (y ∈ bh.take (j + 1))) := by
      funext y
      rw [ht, Bool.eq_iff_iff]
      simp only [Bool.or_eq_true, decide_eq_true_eq, List.mem_append, List.mem_singleton]
      exact Or.comm
    rw [← this]; exact hc
  · rw [ht] at hy
    rcases List.mem_append.1 hy with hy | hy
    · have := h.top1 y hy; split <;> omega
    · obtain rfl := List.mem_singleton.1 hy; split <;> omega
  · rw [ht]
    split
    · right; simp
    · rcases h.top2 with h0 | h0
      · exact .inl h0
      · right; exact List.mem_append.2 (.inl h0)
  · have := h.top3; split <;> omega

theorem cells64_snoc (C : Nat) (gs : List (Nat × Nat)) (a b : Nat) : cells64 C (gs ++ [(a, b)]) = cells64 C gs ++ [.int .i64 ((a : Int) - C), .int .i64 ((b : Int) - C)] := by simp [cells64]
theorem cells64_take (C : Nat) (gs : List (Nat × Nat)) : ∀ j, j ≤ gs.length → cells64 C (gs.take j) = (List.range (j * 2)).map (fun k => .int .i64 (gval C gs k))
  | 0, _ => by simp [cells64]
  | j + 1, h => by
    have hj : j < gs.length := h
    rw [List.take_succ_eq_append_getElem hj, show gs[j] = ((gs[j]).1, (gs[j]).2) from rfl, cells64_snoc, cells64_take C gs j (by omega), range_two]
    have e1 : gval C gs (j * 2) = ((gs[j]).1 : Int) - C := by
      unfold gval
      rw [if_pos (by omega), show j * 2 / 2 = j by omega, List.getD_eq_getElem?_getD, List.getElem?_eq_getElem hj]; rfl
    have e2 : gval C gs (j * 2 + 1) = ((gs[j]).2 : Int) - C := by
      unfold gval
      rw [if_neg (by omega), show (j * 2 + 1) / 2 = j by omega, List.getD_eq_getElem?_getD, List.getElem?_eq_getElem hj]; rfl
    rw [e1, e2]
theorem cells64_map (C : Nat) (gs : List (Nat × Nat)) : cells64 C gs = (List.range (gs.length * 2)).map (fun k => .int .i64 (gval C gs k)) := by
  have := cells64_take C gs gs.length (Nat.le_refl _)
  rwa [List.take_length] at this
theorem cells64_len (C : Nat) (gs : List (Nat × Nat)) : (cells64 C gs).length = gs.length * 2 := by rw [cells64_map]; simp
theorem cells64_grow (C : Nat) (gs : List (Nat × Nat)) (p : Nat × Nat) (e : Nat) : cells64 C (grow (gs ++ [p]) e) = (cells64 C (gs ++ [p])).set (gs.length * 2 + 1) (.int .i64 ((e : Int) - C)) := by
  obtain ⟨a, b⟩ := p
  rw [grow_snoc, cells64_snoc, cells64_snoc, List.set_append_right _ _ (by rw [cells64_len]; omega), cells64_len, show gs.length * 2 + 1 - gs.length * 2 = 1 by omega]
  rfl
/-- What the last loop leaves. -/
structure S3 (w wr : World) (bh : List Int) (C N : Nat) (t : Int) (gv : Value) (gs : List (Nat × Nat)) (nm : Nat) : Prop where
  res : wr.heap[w.heap.size]? = some (.cells z27 27 (0, 0))
  map : CameAt wr (w.heap.size + 1) nm (fun x => decide (x ∈ bh))
  out : wr.heap[w.heap.size + 2]? = some (.cells #[.int .u32 t, .int .u32 0, gv, .slice none 0 0] 27 (0, 0))
  row : wr.ownsRow (w.heap.size + 3) 32 2 gv gs.length (cells64 C gs)
  below : Below w.heap.size w wr

theorem S3.app {w wr w4 : World} {bh : List Int} {C N N' : Nat} {t : Int} {gv : Value} {gs : List (Nat × Nat)} {nm : Nat} (h : S3 w wr bh C N t gv gs nm) {o : Obj} {xa : Option Addr} {xc : Nat}
    (hown : w4.ownsRow (w.heap.size + 3) 32 2 (.slice xa (gs.length + 1) xc) (gs.length + 1) (cells64 C gs ++ [.int .i64 ((N : Int) - C), .int .i64 ((N : Int) - C)])) (hg : (wr.alloc o).grownBy w4 gv.ownBlock) :
    S3 w (w4.setCell ⟨w.heap.size + 1 + 1, 2, none⟩ (.slice xa (gs.length + 1) xc)) bh C N' t (.slice xa (gs.length + 1) xc) (gs ++ [(N, N)]) nm := by
  have hlt : ∀ g, gv.ownBlock = some g → w.heap.size + 3 ≤ g := fun g e => (h.row.lt g e).1
  have hm := h.map.lt
  have e1 : ∀ k, k < w.heap.size + 3 → k < wr.heap.size → w4.heap[k]? = wr.heap[k]? := fun k hk hk2 =>
    (hg.block k (by simp; omega) (fun e => by have := hlt _ e.symm; omega)).trans (heap_alloc_old wr o hk2)
  have hsr := (Array.getElem?_eq_some_iff.1 h.out).1
  refine ⟨(heap_setCell_other (by simp; omega) _).trans ((e1 _ (by omega) (by omega)).trans h.res), h.map.of ((heap_setCell_other (by simp) _).trans (e1 _ (by omega) (by omega))), ?_, ?_, ?_⟩
  · exact heap_setCell_same ((e1 _ (by omega) (by omega)).trans h.out) _
  · have := own_set (i := 2) (vn := .slice xa (gs.length + 1) xc) hown (show w.heap.size + 1 + 1 < w.heap.size + 3 by omega)
    rw [cells64_snoc, List.length_append]; exact this
  · have b3 : Below w.heap.size w w4 := (h.below.alloc h.below.size o).grown hg (by have := h.below.size; simp; omega) (fun k hk => by have := hlt k hk; omega)
    exact b3.trans (((Mod.refl (· = w.heap.size + 1 + 1) w4).set1 _).below b3.size (fun k hk => by omega))
theorem gl_last {r : Nat → Bool} (h0 : r 0 = false) : ∀ n, r n = true → ∃ gs p, gl r n = gs ++ [p]
  | 0, h => by rw [h0] at h; cases h
  | n + 1, h => by
    have e : gl r (n + 1) = if r (n + 1) then (if r n then grow (gl r n) (n + 1) else gl r n ++ [(n + 1, n + 1)]) else gl r n := rfl
    rw [e, h, if_pos rfl]
    cases hn : r n with
    | true =>
      obtain ⟨gs, p, hp⟩ := gl_last h0 n hn
      obtain ⟨a, b⟩ := p
      rw [if_pos rfl, hp, grow_snoc]
      exact ⟨_, _, rfl⟩
    | false => rw [if_neg (by decide)]; exact ⟨_, _, rfl⟩
theorem S3.grow {w wr : World} {bh : List Int} {C N N' e : Nat} {t : Int} {gs : List (Nat × Nat)} {p : Nat × Nat} {nm g cap : Nat} (h : S3 w wr bh C N t (.slice (some ⟨g, 0, none⟩) (gs ++ [p]).length cap) (gs ++ [p]) nm) :
    S3 w (wr.setCell ⟨g, gs.length * 2 + 1, none⟩ (.int .i64 ((e : Int) - C))) bh C N' t (.slice (some ⟨g, 0, none⟩) (gs ++ [p]).length cap) (Go.Proofs.YthnalicohdmlfaaDoor.grow (gs ++ [p]) e) nm := by
  have hg := (h.row.lt g rfl)
  have hl : (Go.Proofs.YthnalicohdmlfaaDoor.grow (gs ++ [p]) e).length = (gs ++ [p]).length := by obtain ⟨a, b⟩ := p; rw [grow_snoc]; simp
  refine ⟨(heap_setCell_other (by simp; omega) _).trans h.res, h.map.of (heap_setCell_other (by simp; omega) _), (heap_setCell_other (by simp; omega) _).trans h.out, ?_, h.below.trans (((Mod.refl (· = g) wr).set1 _).below h.below.size (fun k hk => by omega))⟩
  rw [hl, cells64_grow]
  exact (h.row.stored (gs.length * 2 + 1) _).1

/-- What spec.Received hands back. -/
def SpecBack (w : World) (f : Int) (R : Nat → Bool) (e : Ending) (w' : World) : Prop :=
  ∃ C M : Nat, Ends R C M ∧ ∃ ga gc, e = .returned (.agg #[.int .u32 (U f C), .int .u32 0, .slice ga (gl (above R C) M).length gc, .slice none 0 0]) ∧
    RowAt w.heap.size w' ga (gl (above R C) M).length gc 2 (fun k => .int .i64 (gval C (gl (above R C) M) k)) ∧ Below w.heap.size w w'

set_option maxHeartbeats 1000000 in
set_option maxRecDepth 20000 in
theorem specrecv_any {w : World} {B0 : Nat} {ao : Option Addr} {c : Nat} {f : Int} {bh : List Int} (hl : RowAt B0 w ao bh.length c 1 (fun k => .int .i64 (bh.getD k 0))) (hn : bh.length ≤ 1000) (hp : ∀ p ∈ bh, 1 ≤ p ∧ p ≤ 1000) (hnd : bh.Nodup) :
    Calls Tryd.prog 7 #[.int .u32 (U f 0), .slice ao bh.length c] w (SpecBack w f (inB bh)) := by
  have hmm := @run_makeMap Tryd.prog
  have HL := Lib.hid hl; have HP := Lib.hid hp; have HND := Lib.hid hnd
  obtain ⟨n, hnn⟩ : ∃ n, n = bh.length := ⟨_, rfl⟩
  have HNN := Lib.hid hnn
  rw [← hnn] at hn ⊢
  obtain ⟨t, ht⟩ : ∃ t, t = U f 0 := ⟨_, rfl⟩
  have HT := Lib.hid ht
  rw [← ht]
  have I0 : Hid (S1 w (((w.alloc (.cells z27 27)).alloc (.map #[] 0)).alloc (.cells z27 27)) bh 0 0) := Lib.hid (by
    refine ⟨?_, ?_, ?_, ?_, by simp, .inl rfl, by omega⟩
    · exact (heap_alloc_old _ _ (by simp; omega)).trans ((heap_alloc_old _ _ (by simp)).trans (heap_new w _))
    · have := CameAt.made (w.alloc (.cells z27 27))
      rw [show (w.alloc (.cells z27 27)).heap.size = w.heap.size + 1 by simp] at this
      have h2 := this.of (w' := ((w.alloc (.cells z27 27)).alloc (.map #[] 0)).alloc (.cells z27 27)) (heap_alloc_old _ _ (by simp))
      simpa using h2
    · have := heap_new ((w.alloc (.cells z27 27)).alloc (.map #[] 0)) (.cells z27 27)
      simpa using this
    · exact (((Below.refl _ w).alloc (Nat.le_refl _) _).alloc (by simp) _).alloc (by simp; omega) _)
  clear hl hp hnd hnn ht
  go_enter Tryd.func7, Tryd.ntmps7
  go_wp2_with fail
  go_loopw [7, 16] (fun v7 v16 wr => ∃ j : Nat, ∃ top : Int, j ≤ n ∧ v16 = .int .i64 j ∧ v7 = .int .i64 top ∧ S1 w wr bh j top) (fun _ i _ => n - (intOf i).toNat)
  case atStart => exact ⟨0, 0, Nat.zero_le _, rfl, rfl, I0.out⟩
  case round =>
    clear I0
    obtain ⟨j, top, hj, rfl, rfl, hst⟩ := hrel
    have HST := Lib.hid hst
    clear hst
    by_cases hjn : j < n
    · have hjI : (j : Int) < n := by omega
      have hjl : j < bh.length := by rw [← HNN.out]; exact hjn
      obtain ⟨x, hx⟩ : ∃ x, x = bh[j] := ⟨_, rfl⟩
      have hxb := HP.out bh[j] (List.getElem_mem hjl)
      rw [← hx] at hxb
      obtain ⟨g, rfl, hgc, hcell⟩ := (HL.out.mod (Mod.of_below (S := fun _ => False) HST.out.below) (fun _ h => h.elim)).at (by omega)
      have c0 : wr.cell? ⟨g, j, none⟩ = some (.int .i64 x) := by
        rw [hcell j (by omega), hx, List.getD_eq_getElem?_getD, List.getElem?_eq_getElem hjl]; rfl
      have hnew : x ∉ bh.take j := by
        intro hm
        obtain ⟨i, hi, he⟩ := List.getElem_of_mem hm
        rw [List.length_take] at hi
        rw [List.getElem_take] at he
        have := (List.getElem_inj HND.out (i := i) (j := j)).1 (he.trans hx)
        omega
      have hrun := HST.out.map.look x (by omega)
      rw [decide_eq_false hnew] at hrun
      have HX := Lib.hid hx
      clear hcell hx hnew
      obtain ⟨top3a, top3b⟩ := HST.out.top3
      have w1j := wraps_i64 ((j : Int) + 1) (by omega) (by omega)
      obtain ⟨hx1, hx2⟩ := hxb
      go_wp2_with (first | (at_mapUpdate; refine wpList_came rfl _ _ _ rfl _ j _ rfl HST.out.map (by omega) _ rfl rfl (by omega) ?_; intro w3 hcm hgr))
      have HN := Lib.hid (HST.out.next hjl HX.out ⟨hx1, hx2⟩ hcm hgr)
      clear hcm hgr
      go_roundw
      case rel => exact ⟨j + 1, _, hjn, by go_num, rfl, HN.out⟩
      case measure => simp [intOf]; omega
    · obtain rfl : j = n := by omega
      have hjj : (j : Int) ≤ j := Int.le_refl _
      have htk : bh.take j = bh := by rw [HNN.out]; exact List.take_length
      have hmap := HST.out.map
      have htop1 := HST.out.top1; have htop2 := HST.out.top2
      rw [htk] at hmap htop1 htop2
      obtain ⟨ht3a, ht3b⟩ := HST.out.top3
      obtain ⟨M, hM⟩ : ∃ M : Nat, top = (M : Int) := ⟨top.toNat, by omega⟩
      subst hM
      have HMAP := Lib.hid hmap; have HT1 := Lib.hid htop1; have HT2 := Lib.hid htop2
      clear hmap htop1 htop2 htk
      go_wp2_with fail
      go_loopw [10] (fun v10 wr' => ∃ C : Nat, v10 = .int .i64 C ∧ wr' = wr ∧ C ≤ M ∧ ∀ k : Nat, 1 ≤ k → k ≤ C → (k : Int) ∈ bh) (fun v _ => 2000 - (intOf v).toNat)
      case atStart => exact ⟨0, rfl, rfl, Nat.zero_le _, fun k h1 h2 => by omega⟩
      case round =>
        obtain ⟨C, rfl, rfl, hCM, hrun⟩ := hrel
        have HRUN := Lib.hid hrun
        clear hrun
        have w1c := wraps_i64 ((C : Int) + 1) (by omega) (by omega)
        have hlook := HMAP.out.look ((C : Int) + 1) (by omega)
        by_cases hin : (C : Int) + 1 ∈ bh
        · rw [decide_eq_true hin] at hlook
          have hCM1 := HT1.out _ hin
          have HIN := Lib.hid hin
          clear hin
          go_wp2_with fail
          go_roundw
          case rel =>
            refine ⟨C + 1, by go_num, trivial, by omega, fun k h1 h2 => ?_⟩
            by_cases hk : k = C + 1
            · subst hk; rw [Int.natCast_add]; exact HIN.out
            · exact HRUN.out k h1 (by omega)
          case measure => simp [intOf]; omega
        · rw [decide_eq_false hin] at hlook
          have HIN := Lib.hid hin
          have hE : Hid (Ends (inB bh) C M) := Lib.hid (by
            refine ⟨fun k h1 h2 => by unfold inB; exact decide_eq_true (HRUN.out k h1 h2), by show decide (((C + 1 : Nat) : Int) ∈ bh) = false; rw [Int.natCast_add]; exact decide_eq_false hin, fun k hk => ?_, ?_⟩
            · unfold inB at hk
              have hk := of_decide_eq_true hk
              have h1 := HP.out _ hk
              have h2 := HT1.out _ hk
              omega
            · rcases HT2.out with h0 | h0
              · left; omega
              · right; unfold inB; exact decide_eq_true h0)
          clear hin
          have ho := HST.out.out
          have g0 : wr.cell? ⟨w.heap.size + 1 + 1, 0, none⟩ = some (.int .u32 0) := by rw [cell_of_block ho]; rfl
          have z0 : wr.frozen? ⟨w.heap.size + 1 + 1, 0, none⟩ = false := frozen_of_block ho
          have hwU : (t + (C : Int)) % 4294967296 = U f C := by rw [HT.out]; unfold U; omega
          clear ho
          go_wp2_with fail
          have ST : Hid (S3 w (wr.setCell ⟨w.heap.size + 1 + 1, 0, none⟩ (.int .u32 (U f C))) bh C (C + 1) (U f C) (.slice none 0 0) (gl (above (inB bh) C) C) j) := Lib.hid (by
            have hg0 : gl (above (inB bh) C) C = [] := by
              rw [gl_zeros' (a := 0) (Nat.zero_le _) (fun k h1 h2 => by unfold above; rw [decide_eq_false (show ¬ C < k by omega), Bool.false_and])]; rfl
            rw [hg0]
            refine ⟨(heap_setCell_other (by simp; omega) _).trans HST.out.res, HMAP.out.of (heap_setCell_other (by simp) _), ?_, World.ownsRow_nil _ _ _ _, ?_⟩
            · have := heap_setCell_same (i := 0) HST.out.out (.int .u32 (U f C))
              simpa [z27] using this
            · exact HST.out.below.trans (((Mod.refl (· = w.heap.size + 1 + 1) wr).set1 _).below HST.out.below.size (fun k e => by omega)))
          have hsz : w.heap.size + 3 ≤ wr.heap.size := (Array.getElem?_eq_some_iff.1 HST.out.out).1
          clear g0 z0 hwU hlook
          obtain ⟨i0, hi, hz0, hzz1, hzz2⟩ := info_parts info32
          go_loopw [11] (fun v11 wr' => ∃ N : Nat, ∃ gv : Value, C + 1 ≤ N ∧ N ≤ M + 1 ∧ v11 = .int .i64 N ∧ S3 w wr' bh C N (U f C) gv (gl (above (inB bh) C) (N - 1)) j) (fun v _ => 2000 - (intOf v).toNat)
          case atStart => exact ⟨C + 1, _, Nat.le_refl _, by omega, by rw [Int.natCast_add]; rfl, ST.out⟩
          case round =>
            clear ST
            obtain ⟨N, gv, hN1, hN2, rfl, hst⟩ := hrel
            have HS := Lib.hid hst
            clear hst
            by_cases hNM : N ≤ M
            · have hNI : (N : Int) ≤ M := by omega
              have w1n := wraps_i64 ((N : Int) + 1) (by omega) (by omega)
              have wn1 : IntKind.i64.wrap ((N : Int) - 1) = (N : Int) - 1 := by rw [IntKind.wrap_i64]; omega
              have wnc : IntKind.i64.wrap ((N : Int) - C) = (N : Int) - C := by rw [IntKind.wrap_i64]; omega
              have hl1 := HS.out.map.look N (by omega)
              have hl2 := HS.out.map.look ((N : Int) - 1) (by omega)
              have ho := HS.out.out
              have g2 : wr.cell? ⟨w.heap.size + 1 + 1, 2, none⟩ = some gv := by rw [cell_of_block ho]; rfl
              have z2 : wr.frozen? ⟨w.heap.size + 1 + 1, 2, none⟩ = false := frozen_of_block ho
              have hr1 : above (inB bh) C N = decide ((N : Int) ∈ bh) := by unfold above inB; rw [decide_eq_true (show C < N by omega), Bool.true_and]
              have hgl : gl (above (inB bh) C) N = if above (inB bh) C N then (if above (inB bh) C (N - 1) then grow (gl (above (inB bh) C) (N - 1)) N else gl (above (inB bh) C) (N - 1) ++ [(N, N)]) else gl (above (inB bh) C) (N - 1) := by
                obtain ⟨d, rfl⟩ : ∃ d, N = d + 1 := ⟨N - 1, by omega⟩
                rfl
              have hsr : w.heap.size + 3 ≤ wr.heap.size := (Array.getElem?_eq_some_iff.1 ho).1
              have hlen := gl_len (above (inB bh) C) (N - 1)
              clear ho
              by_cases hin : (N : Int) ∈ bh
              · rw [decide_eq_true hin] at hl1 hr1
                have hNC : N ≠ C + 1 := by
                  rintro rfl
                  have := hE.out.stop
                  unfold inB at this
                  exact of_decide_eq_false this hin
                have hr2 : above (inB bh) C (N - 1) = decide (((N : Int) - 1) ∈ bh) := by
                  unfold above inB
                  rw [decide_eq_true (show C < N - 1 by omega), Bool.true_and, show ((N - 1 : Nat) : Int) = (N : Int) - 1 by omega]
                by_cases hin2 : (N : Int) - 1 ∈ bh
                · rw [decide_eq_true hin2] at hl2 hr2
                  rw [hr1, hr2, if_pos rfl, if_pos rfl] at hgl
                  have HGL := Lib.hid hgl
                  have HR2 := Lib.hid hr2
                  clear hgl hr1 hr2 hin hin2
                  have hr0 : above (inB bh) C 0 = false := by unfold above; rw [decide_eq_false (show ¬ C < 0 by omega), Bool.false_and]
                  obtain ⟨gs, p, hgs⟩ := gl_last hr0 (N - 1) HR2.out
                  rw [hgs] at HGL HS hlen
                  obtain ⟨ga, gc, hgv, hrow⟩ := RowAt.of_owns (by have := HS.out.row; rw [cells64_map] at this; exact this)
                  subst hgv
                  obtain ⟨g, rfl, hgcap, hcell⟩ := hrow.at (by simp)
                  have c0 : wr.cell? ⟨g, gs.length * 2 + 1, none⟩ = some (.int .i64 (gval C (gs ++ [p]) (gs.length * 2 + 1))) := hcell _ (by simp; omega)
                  have f0 : wr.frozen? ⟨g, gs.length * 2 + 1, none⟩ = false := HS.out.row.frozenAt _
                  have HN := Lib.hid (HS.out.grow (N' := N + 1) (e := N))
                  have hlg : (gs ++ [p]).length = gs.length + 1 := by simp
                  rw [hlg] at g2 HN hgcap
                  clear hrow hcell hgs hr0
                  go_wp2_with fail
                  go_roundw
                  case rel =>
                    refine ⟨N + 1, .slice (some ⟨g, 0, none⟩) (gs.length + 1) gc, by omega, by omega, by go_num, ?_⟩
                    rw [show N + 1 - 1 = N by omega, HGL.out]
                    exact HN.out
                  case measure => simp [intOf]; omega
                · rw [decide_eq_false hin2] at hl2 hr2
                  rw [hr1, hr2, if_pos rfl, if_neg (by decide)] at hgl
                  have HGL := Lib.hid hgl
                  obtain ⟨gs, hgs⟩ : ∃ gs, gs = gl (above (inB bh) C) (N - 1) := ⟨_, rfl⟩
                  rw [← hgs] at HGL HS hlen
                  clear hgl hr1 hr2 hin hin2 hgs
                  go_wp2_with (first | (at_builtin; refine wpList_append_any _ rfl _ _ 24 rfl (w.heap.size + 3) 32 i0 (.agg #[.int .i64 0, .int .i64 0]) 2 16 Tryd.underlying24 hi hz0 hzz1 hzz2 rfl (by decide) _ _ _ rfl (HS.out.row.alloc _) ⟨wr.heap.size, 0, none⟩ 1 1 [.int .i64 ((N : Int) - C), .int .i64 ((N : Int) - C)] rfl ?c0 ?c1 ?c2 ?c3 ?c4 ?c5 ?_))
                  case c0 => rfl
                  case c1 => exact two_cells _ _ rfl
                  case c2 => simp [Value.oneCell']
                  case c3 => unfold maxLen; omega
                  case c4 => omega
                  case c5 => simp; omega
                  intro xa xc w4 hown hgrow
                  have c3 := grown_cell (HS.out.row.alloc _) (p := ⟨w.heap.size + 1 + 1, 2, none⟩) (by simp) (cell_alloc g2 _) hgrow
                  have f3 := grown_frozen (HS.out.row.alloc _) (p := ⟨w.heap.size + 1 + 1, 2, none⟩) (by simp) (cell_alloc g2 _) ((frozen_alloc (lt_of_cell g2) _).trans z2) hgrow
                  have HN := Lib.hid (HS.out.app (N' := N + 1) hown hgrow)
                  clear hown hgrow
                  go_wp2_with fail
                  go_roundw
                  case rel =>
                    refine ⟨N + 1, .slice xa (gs.length + 1) xc, by omega, by omega, by go_num, ?_⟩
                    rw [show N + 1 - 1 = N by omega, HGL.out]
                    exact HN.out
                  case measure => simp [intOf]; omega
              · rw [decide_eq_false hin] at hl1 hr1
                rw [hr1, if_neg (by decide)] at hgl
                have HGL := Lib.hid hgl
                clear hgl hr1 hin
                go_wp2_with fail
                go_roundw
                case rel =>
                  refine ⟨N + 1, gv, by omega, by omega, by go_num, ?_⟩
                  rw [show N + 1 - 1 = N by omega, HGL.out]
                  exact ⟨HS.out.res, HS.out.map, HS.out.out, HS.out.row, HS.out.below⟩
                case measure => simp [intOf]; omega
            · obtain rfl : N = M + 1 := by omega
              have hNM' : ¬ ((M + 1 : Nat) : Int) ≤ M := by omega
              rw [show M + 1 - 1 = M by omega] at HS
              obtain ⟨ga, gc, hgv, hrow⟩ := RowAt.of_owns (by have := HS.out.row; rw [cells64_map] at this; exact this)
              subst hgv
              have HRW := Lib.hid hrow
              have ho := HS.out.out
              have hr := HS.out.res
              have s0 : wr.cell? ⟨w.heap.size + 1 + 1, 0, none⟩ = some (.int .u32 (U f C)) := by rw [cell_of_block ho]; rfl
              have s1 : wr.cell? ⟨w.heap.size + 1 + 1, 1, none⟩ = some (.int .u32 0) := by rw [cell_of_block ho]; rfl
              have s2 : wr.cell? ⟨w.heap.size + 1 + 1, 2, none⟩ = some (.slice ga (gl (above (inB bh) C) M).length gc) := by rw [cell_of_block ho]; rfl
              have s3 : wr.cell? ⟨w.heap.size + 1 + 1, 3, none⟩ = some (.slice none 0 0) := by rw [cell_of_block ho]; rfl
              have r0 : wr.cell? ⟨w.heap.size, 0, none⟩ = some (.int .u32 0) := by rw [cell_of_block hr]; rfl
              have y0 : wr.frozen? ⟨w.heap.size, 0, none⟩ = false := frozen_of_block hr
              have r1 : wr.cell? ⟨w.heap.size, 1, none⟩ = some (.int .u32 0) := by rw [cell_of_block hr]; rfl
              have y1 : wr.frozen? ⟨w.heap.size, 1, none⟩ = false := frozen_of_block hr
              have r2 : wr.cell? ⟨w.heap.size, 2, none⟩ = some (.slice none 0 0) := by rw [cell_of_block hr]; rfl
              have y2 : wr.frozen? ⟨w.heap.size, 2, none⟩ = false := frozen_of_block hr
              have r3 : wr.cell? ⟨w.heap.size, 3, none⟩ = some (.slice none 0 0) := by rw [cell_of_block hr]; rfl
              have y3 : wr.frozen? ⟨w.heap.size, 3, none⟩ = false := frozen_of_block hr
              have HR := Lib.hid hr
              clear hrow ho hr
              go_wp2_with fail
              clear s0 s1 s2 s3 r0 y0 r1 y1 r2 y2 r3 y3
              generalize hW : World.setCell _ _ _ = wF
              have hch := (heap_setCell_same (i := 3) (heap_setCell_same (i := 2) (heap_setCell_same (i := 1) (heap_setCell_same (i := 0) HR.out (.int .u32 (U f C))) (.int .u32 0)) (.slice ga (gl (above (inB bh) C) M).length gc)) (.slice none 0 0))
              simp only [z27, List.setIfInBounds_toArray, List.set_cons_zero, List.set_cons_succ] at hch
              have hb : wF.heap[w.heap.size]? = some (.cells #[.int .u32 (U f C), .int .u32 0, .slice ga (gl (above (inB bh) C) M).length gc, .slice none 0 0] 27 (0, 0)) := by rw [← hW]; exact hch
              have Mf : Mod (· = w.heap.size) wr wF := by rw [← hW]; exact (((((Mod.refl (· = w.heap.size) wr).set1 _).set1 _).set1 _).set1 _)
              clear hch hW
              have k0 : wF.cell? ⟨w.heap.size, 0, none⟩ = some (.int .u32 (U f C)) := by rw [cell_of_block hb]; rfl
              have k1 : wF.cell? ⟨w.heap.size, 1, none⟩ = some (.int .u32 0) := by rw [cell_of_block hb]; rfl
              have k2 : wF.cell? ⟨w.heap.size, 2, none⟩ = some (.slice ga (gl (above (inB bh) C) M).length gc) := by rw [cell_of_block hb]; rfl
              have k3 : wF.cell? ⟨w.heap.size, 3, none⟩ = some (.slice none 0 0) := by rw [cell_of_block hb]; rfl
              refine bodyPost_ret (v := .agg #[.int .u32 (U f C), .int .u32 0, .slice ga (gl (above (inB bh) C) M).length gc, .slice none 0 0]) (by simp [results, Tryd.results7, go_sem, k0, k1, k2, k3]) rfl ?_
              have hz : ∀ q : Nat, q = w.heap.size → q < w.heap.size + 3 ∨ wr.heap.size ≤ q := fun q e => .inl (by omega)
              exact ⟨C, M, hE.out, ga, gc, rfl, (HRW.out.mod Mf hz).mono (by omega), HS.out.below.trans (Mf.below HS.out.below.size (fun q e => by omega))⟩
end Go.Proofs.YthnalicohdmlfaaDoor
