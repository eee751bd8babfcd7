/- Part of the proof of laws.FnReceivedAny: a queue is made and laid; conditions: as each theorem states. -/
import Derived.Test.YthnalicohdmlfaaDoorR9
namespace Go.Proofs.YthnalicohdmlfaaDoor
open Go.RowKit
set_option linter.unusedVariables false

theorem info54 : (Tryd.prog.info? 54).map (fun i => (i.zero, i.size, i.bytes)) = some (some (.int .u64 0), 1, 8) := by kernel_rfl
theorem mk51 (w : World) : (Instr.makeSlice 51 (.int .u32 625) (.int .u32 625)).run Tryd.prog w = .ok (.slice (some ⟨w.heap.size, 0, none⟩) 625 625) (w.alloc (.cells (madeCells #[.int .u64 0] 625) 54)) := by
  obtain ⟨i, hi, hzz⟩ := Option.map_eq_some_iff.1 info54
  simp only [Prod.mk.injEq] at hzz
  obtain ⟨hz, hs, hb⟩ := hzz
  have := run_make (P := Tryd.prog) w 51 54 i _ (by kernel_rfl) hi hz .u32 .u32 625 625 (by omega) (Int.le_refl _) (by rw [hb]; omega) (by omega)
  rw [hs, Nat.mul_one] at this
  exact this

def newQ (w : World) : World := (w.alloc (.cells (madeCells #[.int .u64 0] 625) 54)).alloc (.cells #[.int .u32 0, .int .i64 0, .slice (some ⟨w.heap.size, 0, none⟩) 625 625, .slice none 0 0, .int .u32 40000, .int .u32 0] 53)
set_option maxHeartbeats 400000 in
set_option maxRecDepth 20000 in
theorem new_any (w : World) : Calls Tryd.prog 10 #[.int .u32 40000] w fun e w' => e = .returned (.pointer (some ⟨w.heap.size + 1, 0, none⟩)) ∧ w' = newQ w := by
  have hk := mk51
  go_enter Tryd.func10, Tryd.ntmps10
  go_wp2_with fail
  go_ret
  exact ⟨rfl, rfl⟩

/-- A queue whose words are nought. -/
structure InSt (w0 wr : World) (q mb : Nat) (t : Int) : Prop where
  blk : wr.heap[q]? = some (.cells #[.int .u32 t, .int .i64 0, .slice (some ⟨mb, 0, none⟩) 625 625, .slice none 0 0, .int .u32 40000, .int .u32 t] 53 (0, 0))
  mask : ∃ ms, wr.heap[mb]? = some (.cells ms 54 (0, 0)) ∧ ms.size = 625 ∧ ∀ i, i < 625 → ms[i]? = some (.int .u64 ((0 : Nat) : Int))
  below : Below w0.heap.size w0 wr
  size : w0.heap.size + 2 ≤ wr.heap.size
theorem mask_set0 {w : World} {mb : Nat} {m : Nat → Nat} (h : ∃ ms, w.heap[mb]? = some (.cells ms 54 (0, 0)) ∧ ms.size = 625 ∧ ∀ i, i < 625 → ms[i]? = some (.int .u64 (m i))) (i x : Nat) (hx : m i = x) :
    ∃ ms, (w.setCell ⟨mb, i, none⟩ (.int .u64 x)).heap[mb]? = some (.cells ms 54 (0, 0)) ∧ ms.size = 625 ∧ ∀ j, j < 625 → ms[j]? = some (.int .u64 (m j)) :=
  mask_set h i x m hx (fun _ _ => rfl)
theorem que_none (f : Int) : Que (fun _ => false) 0 0 f (fun _ => 0) :=
  ⟨fun k h => (by cases h), by omega, Nat.le_refl _, fun k h1 h2 => by omega, .inl rfl, fun k _ _ => by simp, fun i => by decide⟩
theorem cnt_none : cnt (fun _ => false) 0 = 0 := by
  unfold cnt
  rw [List.countP_eq_zero]
  intro a _; simp

set_option maxHeartbeats 1000000 in
set_option maxRecDepth 20000 in
theorem init_any (w : World) (f : Int) : Calls Tryd.prog 11 #[.pointer (some ⟨w.heap.size + 1, 0, none⟩), .int .u32 (U f 0)] (newQ w) fun e w' => e = .returned (.tuple #[]) ∧ QSt w w' (w.heap.size + 1) w.heap.size (w.heap.size + 2) f (fun _ => false) 0 0 (fun _ => 0) (.slice none 0 0) [] := by
  have hb : (newQ w).heap[w.heap.size + 1]? = some (.cells #[.int .u32 0, .int .i64 0, .slice (some ⟨w.heap.size, 0, none⟩) 625 625, .slice none 0 0, .int .u32 40000, .int .u32 0] 53 (0, 0)) := by
    have := heap_new (w.alloc (.cells (madeCells #[.int .u64 0] 625) 54)) (.cells #[.int .u32 0, .int .i64 0, .slice (some ⟨w.heap.size, 0, none⟩) 625 625, .slice none 0 0, .int .u32 40000, .int .u32 0] 53)
    simpa [newQ] using this
  have hm : ∃ ms, (newQ w).heap[w.heap.size]? = some (.cells ms 54 (0, 0)) ∧ ms.size = 625 ∧ ∀ i, i < 625 → ms[i]? = some (.int .u64 ((0 : Nat) : Int)) := by
    refine ⟨madeCells #[.int .u64 0] 625, ?_, by rw [size_madeCells], fun i hi => by simp [madeCells, hi, Nat.mod_one]⟩
    exact (heap_alloc_old _ _ (by simp)).trans (heap_new w _)
  have hl : Below w.heap.size w (newQ w) := ((Below.refl _ w).alloc (Nat.le_refl _) _).alloc (by simp) _
  have hs : (newQ w).heap.size = w.heap.size + 2 := by simp [newQ]
  obtain ⟨q, hq⟩ : ∃ q, q = w.heap.size + 1 := ⟨_, rfl⟩
  obtain ⟨mb, hmb⟩ : ∃ mb, mb = w.heap.size := ⟨_, rfl⟩
  have hne : mb ≠ q := by omega
  have hnq : q ≠ mb := by omega
  rw [← hq, ← hmb] at hb
  rw [← hmb] at hm
  have HQ := Lib.hid hq; have HMB := Lib.hid hmb
  have HB := Lib.hid hb; have HM := Lib.hid hm; have HL := Lib.hid hl; have HS := Lib.hid hs
  have g0 : (newQ w).cell? ⟨q, 0, none⟩ = some (.int .u32 0) := by rw [cell_of_block hb]; rfl
  have g1 : (newQ w).cell? ⟨q, 1, none⟩ = some (.int .i64 0) := by rw [cell_of_block hb]; rfl
  have g2 : (newQ w).cell? ⟨q, 2, none⟩ = some (.slice (some ⟨mb, 0, none⟩) 625 625) := by rw [cell_of_block hb]; rfl
  have g5 : (newQ w).cell? ⟨q, 5, none⟩ = some (.int .u32 0) := by rw [cell_of_block hb]; rfl
  have f0 : (newQ w).frozen? ⟨q, 0, none⟩ = false := frozen_of_block hb
  have f1 : (newQ w).frozen? ⟨q, 1, none⟩ = false := frozen_of_block hb
  have f5 : (newQ w).frozen? ⟨q, 5, none⟩ = false := frozen_of_block hb
  obtain ⟨t, ht⟩ : ∃ t, t = U f 0 := ⟨_, rfl⟩
  have HT := Lib.hid ht
  rw [← hq, ← ht, ← hmb]
  clear hb hm hl hs hq hmb ht
  generalize newQ w = wn at *
  go_enter Tryd.func11, Tryd.ntmps11
  go_wp2_with fail
  have HI : Hid (InSt w (((wn.setCell ⟨q, 5, none⟩ (.int .u32 t)).setCell ⟨q, 0, none⟩ (.int .u32 t)).setCell ⟨q, 1, none⟩ (.int .i64 0)) q mb t) := Lib.hid (by
    refine ⟨?_, ?_, ?_, ?_⟩
    · have := heap_setCell_same (i := 1) (heap_setCell_same (i := 0) (heap_setCell_same (i := 5) HB.out (.int .u32 t)) (.int .u32 t)) (.int .i64 0)
      simpa using this
    · obtain ⟨ms, hb, hr⟩ := HM.out
      exact ⟨ms, (heap_setCell_other hne _).trans ((heap_setCell_other hne _).trans ((heap_setCell_other hne _).trans hb)), hr⟩
    · exact HL.out.trans (((((Mod.refl (· = q) wn).set1 _).set1 _).set1 _).below HL.out.size (fun k e => by have := HQ.out; omega))
    · have := HS.out; simp [World.setCell]; omega)
  clear g0 g1 g2 g5 f0 f1 f5
  go_loopw [21] (fun i wr => ∃ j : Nat, j ≤ 625 ∧ i = .int .i64 j ∧ InSt w wr q mb t) (fun i _ => 625 - (intOf i).toNat)
  case atStart => exact ⟨0, Nat.zero_le _, rfl, HI.out⟩
  case round =>
    clear HI
    obtain ⟨j, hj, rfl, hst⟩ := hrel
    by_cases hj6 : j < 625
    · have hjI : (j : Int) < 625 := by omega
      have g2 : wr.cell? ⟨q, 2, none⟩ = some (.slice (some ⟨mb, 0, none⟩) 625 625) := by rw [cell_of_block hst.blk]; rfl
      obtain ⟨ms, hmb, hms, hmc⟩ := hst.mask
      have c0 : wr.cell? ⟨mb, j, none⟩ = some (.int .u64 0) := by rw [cell_of_block hmb]; exact hmc j hj6
      have f0 : wr.frozen? ⟨mb, j, none⟩ = false := frozen_of_block hmb
      have HST := Lib.hid hst
      have w1j := wraps_i64 ((j : Int) + 1) (by omega) (by omega)
      clear hst hmb hms hmc
      go_wp2_with fail
      go_roundw
      case rel =>
        refine ⟨j + 1, hj6, by go_num, ⟨(heap_setCell_other hnq _).trans HST.out.blk, mask_set0 (m := fun _ => 0) HST.out.mask j 0 rfl, ?_, ?_⟩⟩
        · exact HST.out.below.trans (((Mod.refl (· = mb) wr).set1 _).below HST.out.below.size (fun k e => by have := HMB.out; omega))
        · have := HST.out.size; simp [World.setCell]; omega
      case measure => simp [intOf]; omega
    · obtain rfl : j = 625 := by omega
      have g3 : wr.cell? ⟨q, 3, none⟩ = some (.slice none 0 0) := by rw [cell_of_block hst.blk]; rfl
      have f3 : wr.frozen? ⟨q, 3, none⟩ = false := frozen_of_block hst.blk
      have HST := Lib.hid hst
      clear hst
      go_wp2_with fail
      go_end0
      refine ⟨rfl, ⟨⟨?_, ?_, hnq, que_none f⟩, World.ownsRow_nil _ _ _ _, ?_, by have := HQ.out; omega, by have := HMB.out; omega, by have := HQ.out; have := HMB.out; omega, by omega, ?_⟩⟩
      · rw [cnt_none, show ((0 : Nat) : Int) = 0 from rfl, ← HT.out]
        have := heap_setCell_same (i := 3) HST.out.blk (.slice none 0 0)
        simpa using this
      · obtain ⟨ms, hb, hr⟩ := HST.out.mask
        exact ⟨ms, (heap_setCell_other hne _).trans hb, hr⟩
      · exact HST.out.below.trans (((Mod.refl (· = q) wr).set1 _).below HST.out.below.size (fun k e => by have := HQ.out; omega))
      · have := HST.out.size; have := HMB.out; simp [World.setCell]; omega
end Go.Proofs.YthnalicohdmlfaaDoor
