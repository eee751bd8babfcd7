/- Part of the proof of laws.FnDataAny: what ZZDataOf returns where there is no chunk of user data; conditions: the package's errors are there (GlobErr). -/
import Derived.Test.YtnajpmdnadjipaaDoorF1
namespace Go.Proofs.YtnajpmdnadjipaaDoor
open Go.RowKit
set_option linter.unusedVariables false

theorem cell_set_blk {w : World} {g i s j : Nat} {v : Value} (h : w.cell? ⟨g, i, none⟩ = some v) (hne : g ≠ s) (x : Value) : (w.setCell ⟨s, j, none⟩ x).cell? ⟨g, i, none⟩ = some v := by
  rw [← h]; exact World.cell?_of_block (heap_setCell_other (p := ⟨s, j, none⟩) hne x)
theorem cell_drew {w : World} {a : Addr} {v : Value} (h : w.cell? a = some v) : w.drew.cell? a = some v := h

/-- No chunk of user data, and an error. -/
def DataErr (w : World) (e : Ending) (w' : World) : Prop := ∃ u v, e = .returned (.tuple #[.agg #[.bool false, .bool false, .bool false, .bool false, .int .u32 0, .int .u16 0, .int .u16 0, .int .u32 0, .slice none 0 0], .iface u v]) ∧ Below w.heap.size w w'

set_option maxHeartbeats 1000000 in
set_option maxRecDepth 20000 in
theorem zzpd_err {w : World} {ao : Option Addr} {n c : Nat}
    (h : Calls Tryd.prog 37 #[.pointer (some ⟨w.heap.size + 1, 0, none⟩), .slice ao n c] (zzW w) (ErrPost (· = w.heap.size + 1) (zzW w))) :
    Calls Tryd.prog 27 #[.slice ao n c] w (DataErr w) := by
  have HC := Lib.hid h
  have HR := Lib.hid (zzW_r w)
  have HZ : Hid (w.heap.size < (zzW w).heap.size) := Lib.hid (by simp [zzW]; omega)
  clear h
  go_enter Tryd.func27, Tryd.ntmps27
  go_wp2_with fail
  refine HC.out.mono ?_
  rintro e w1 ⟨u, v, rfl, hM⟩
  have r1 : w1.heap[w.heap.size]? = some (.cells zz0 59 (0, 0)) := (hM.block _ HZ.out (by omega)).trans HR.out
  have HL := Lib.hid (Below.of_zz hM)
  have s0 : w1.cell? ⟨w.heap.size, 0, none⟩ = some (.bool false) := by rw [cell_of_block r1]; rfl
  have z0 : w1.frozen? ⟨w.heap.size, 0, none⟩ = false := frozen_of_block r1
  have s1 : w1.cell? ⟨w.heap.size, 1, none⟩ = some (.bool false) := by rw [cell_of_block r1]; rfl
  have z1 : w1.frozen? ⟨w.heap.size, 1, none⟩ = false := frozen_of_block r1
  have s2 : w1.cell? ⟨w.heap.size, 2, none⟩ = some (.bool false) := by rw [cell_of_block r1]; rfl
  have z2 : w1.frozen? ⟨w.heap.size, 2, none⟩ = false := frozen_of_block r1
  have s3 : w1.cell? ⟨w.heap.size, 3, none⟩ = some (.bool false) := by rw [cell_of_block r1]; rfl
  have z3 : w1.frozen? ⟨w.heap.size, 3, none⟩ = false := frozen_of_block r1
  have s4 : w1.cell? ⟨w.heap.size, 4, none⟩ = some (.int .u32 0) := by rw [cell_of_block r1]; rfl
  have z4 : w1.frozen? ⟨w.heap.size, 4, none⟩ = false := frozen_of_block r1
  have s5 : w1.cell? ⟨w.heap.size, 5, none⟩ = some (.int .u16 0) := by rw [cell_of_block r1]; rfl
  have z5 : w1.frozen? ⟨w.heap.size, 5, none⟩ = false := frozen_of_block r1
  have s6 : w1.cell? ⟨w.heap.size, 6, none⟩ = some (.int .u16 0) := by rw [cell_of_block r1]; rfl
  have z6 : w1.frozen? ⟨w.heap.size, 6, none⟩ = false := frozen_of_block r1
  have s7 : w1.cell? ⟨w.heap.size, 7, none⟩ = some (.int .u32 0) := by rw [cell_of_block r1]; rfl
  have z7 : w1.frozen? ⟨w.heap.size, 7, none⟩ = false := frozen_of_block r1
  have s8 : w1.cell? ⟨w.heap.size, 8, none⟩ = some (.slice none 0 0) := by rw [cell_of_block r1]; rfl
  have z8 : w1.frozen? ⟨w.heap.size, 8, none⟩ = false := frozen_of_block r1
  have R1 := Lib.hid r1
  clear hM r1
  go_wp2_with fail
  clear s0 z0 s1 z1 s2 z2 s3 z3 s4 z4 s5 z5 s6 z6 s7 z7 s8 z8
  generalize hW : World.setCell _ _ _ = w2
  have hch := (heap_setCell_same (i := 8) (heap_setCell_same (i := 7) (heap_setCell_same (i := 6) (heap_setCell_same (i := 5) (heap_setCell_same (i := 4) (heap_setCell_same (i := 3) (heap_setCell_same (i := 2) (heap_setCell_same (i := 1) (heap_setCell_same (i := 0) R1.out (.bool false)) (.bool false)) (.bool false)) (.bool false)) (.int .u32 0)) (.int .u16 0)) (.int .u16 0)) (.int .u32 0)) (.slice none 0 0))
  simp only [zz0, List.setIfInBounds_toArray, List.set_cons_zero, List.set_cons_succ] at hch
  have hb : w2.heap[w.heap.size]? = some (.cells #[.bool false, .bool false, .bool false, .bool false, .int .u32 0, .int .u16 0, .int .u16 0, .int .u32 0, .slice none 0 0] 59 (0, 0)) := by rw [← hW]; exact hch
  have M : Mod (· = w.heap.size) w1 w2 := by rw [← hW]; exact ((((((((((Mod.refl (· = w.heap.size) w1).set1 _).set1 _).set1 _).set1 _).set1 _).set1 _).set1 _).set1 _).set1 _)
  clear hch hW
  have k0 : w2.cell? ⟨w.heap.size, 0, none⟩ = some (.bool false) := by rw [cell_of_block hb]; rfl
  have k1 : w2.cell? ⟨w.heap.size, 1, none⟩ = some (.bool false) := by rw [cell_of_block hb]; rfl
  have k2 : w2.cell? ⟨w.heap.size, 2, none⟩ = some (.bool false) := by rw [cell_of_block hb]; rfl
  have k3 : w2.cell? ⟨w.heap.size, 3, none⟩ = some (.bool false) := by rw [cell_of_block hb]; rfl
  have k4 : w2.cell? ⟨w.heap.size, 4, none⟩ = some (.int .u32 0) := by rw [cell_of_block hb]; rfl
  have k5 : w2.cell? ⟨w.heap.size, 5, none⟩ = some (.int .u16 0) := by rw [cell_of_block hb]; rfl
  have k6 : w2.cell? ⟨w.heap.size, 6, none⟩ = some (.int .u16 0) := by rw [cell_of_block hb]; rfl
  have k7 : w2.cell? ⟨w.heap.size, 7, none⟩ = some (.int .u32 0) := by rw [cell_of_block hb]; rfl
  have k8 : w2.cell? ⟨w.heap.size, 8, none⟩ = some (.slice none 0 0) := by rw [cell_of_block hb]; rfl
  refine bodyPost_ret (v := .tuple #[.agg zz0, .iface u v]) (by simp [results, Tryd.results27, go_sem, zz0, k0, k1, k2, k3, k4, k5, k6, k7, k8]) rfl ?_
  exact ⟨u, v, rfl, HL.out.trans (M.below (by have := HL.out.size; exact this) (fun k hk => by omega))⟩

set_option maxHeartbeats 1000000 in
set_option maxRecDepth 20000 in
theorem zzpd_idata {w : World} {ao : Option Addr} {n c : Nat}
    (h : Calls Tryd.prog 37 #[.pointer (some ⟨w.heap.size + 1, 0, none⟩), .slice ao n c] (zzW w) (PdI (w.heap.size + 1) (zzW w))) (e0 : GlobErr w 0) :
    Calls Tryd.prog 27 #[.slice ao n c] w (DataErr w) := by
  have HC := Lib.hid h
  have HR := Lib.hid (zzW_r w)
  have HZ : Hid (w.heap.size < (zzW w).heap.size) := Lib.hid (by simp [zzW]; omega)
  have E := Lib.hid (e0.mod (zzW_mod w) (fun h => h))
  have hlt0 : 0 < w.heap.size := e0.lt
  have hne0 : 0 ≠ w.heap.size := by omega
  clear e0
  clear h
  go_enter Tryd.func27, Tryd.ntmps27
  go_wp2_with fail
  refine HC.out.mono ?_
  rintro e w1 ⟨rfl, hM, h15⟩
  have r1 : w1.heap[w.heap.size]? = some (.cells zz0 59 (0, 0)) := (hM.block _ HZ.out (by omega)).trans HR.out
  have HL := Lib.hid (Below.of_zz hM)
  obtain ⟨u, v, g0⟩ := E.out.mod hM (by omega)
  have s0 : w1.cell? ⟨w.heap.size, 0, none⟩ = some (.bool false) := by rw [cell_of_block r1]; rfl
  have z0 : w1.frozen? ⟨w.heap.size, 0, none⟩ = false := frozen_of_block r1
  have s1 : w1.cell? ⟨w.heap.size, 1, none⟩ = some (.bool false) := by rw [cell_of_block r1]; rfl
  have z1 : w1.frozen? ⟨w.heap.size, 1, none⟩ = false := frozen_of_block r1
  have s2 : w1.cell? ⟨w.heap.size, 2, none⟩ = some (.bool false) := by rw [cell_of_block r1]; rfl
  have z2 : w1.frozen? ⟨w.heap.size, 2, none⟩ = false := frozen_of_block r1
  have s3 : w1.cell? ⟨w.heap.size, 3, none⟩ = some (.bool false) := by rw [cell_of_block r1]; rfl
  have z3 : w1.frozen? ⟨w.heap.size, 3, none⟩ = false := frozen_of_block r1
  have s4 : w1.cell? ⟨w.heap.size, 4, none⟩ = some (.int .u32 0) := by rw [cell_of_block r1]; rfl
  have z4 : w1.frozen? ⟨w.heap.size, 4, none⟩ = false := frozen_of_block r1
  have s5 : w1.cell? ⟨w.heap.size, 5, none⟩ = some (.int .u16 0) := by rw [cell_of_block r1]; rfl
  have z5 : w1.frozen? ⟨w.heap.size, 5, none⟩ = false := frozen_of_block r1
  have s6 : w1.cell? ⟨w.heap.size, 6, none⟩ = some (.int .u16 0) := by rw [cell_of_block r1]; rfl
  have z6 : w1.frozen? ⟨w.heap.size, 6, none⟩ = false := frozen_of_block r1
  have s7 : w1.cell? ⟨w.heap.size, 7, none⟩ = some (.int .u32 0) := by rw [cell_of_block r1]; rfl
  have z7 : w1.frozen? ⟨w.heap.size, 7, none⟩ = false := frozen_of_block r1
  have s8 : w1.cell? ⟨w.heap.size, 8, none⟩ = some (.slice none 0 0) := by rw [cell_of_block r1]; rfl
  have z8 : w1.frozen? ⟨w.heap.size, 8, none⟩ = false := frozen_of_block r1
  have R1 := Lib.hid r1
  clear hM r1
  go_wp2_with fail
  have G0D : w1.drew.cell? ⟨0, 0, none⟩ = some (.iface u v) := g0
  go_region_held3 (fun w' => w'.cell? ⟨0, 0, none⟩ = some (.iface u v)) (first | with_reducible exact G0D | with_reducible exact cell_drew (cell_set_blk (cell_set_blk (cell_set_blk (cell_set_blk (cell_set_blk (cell_set_blk (cell_set_blk (cell_set_blk (cell_set_blk g0 hne0 _) hne0 _) hne0 _) hne0 _) hne0 _) hne0 _) hne0 _) hne0 _) hne0 _)) (fail)
  go_wp2_with fail
  clear s0 z0 s1 z1 s2 z2 s3 z3 s4 z4 s5 z5 s6 z6 s7 z7 s8 z8
  generalize hW : World.drew (World.setCell _ _ _) = w2
  have hch := (heap_setCell_same (i := 8) (heap_setCell_same (i := 7) (heap_setCell_same (i := 6) (heap_setCell_same (i := 5) (heap_setCell_same (i := 4) (heap_setCell_same (i := 3) (heap_setCell_same (i := 2) (heap_setCell_same (i := 1) (heap_setCell_same (i := 0) R1.out (.bool false)) (.bool false)) (.bool false)) (.bool false)) (.int .u32 0)) (.int .u16 0)) (.int .u16 0)) (.int .u32 0)) (.slice none 0 0))
  simp only [zz0, List.setIfInBounds_toArray, List.set_cons_zero, List.set_cons_succ] at hch
  have hb : w2.heap[w.heap.size]? = some (.cells #[.bool false, .bool false, .bool false, .bool false, .int .u32 0, .int .u16 0, .int .u16 0, .int .u32 0, .slice none 0 0] 59 (0, 0)) := by rw [← hW, show ∀ X : World, X.drew.heap = X.heap from fun _ => rfl]; exact hch
  have M : Mod (· = w.heap.size) w1 w2 := by rw [← hW]; exact ((((((((((Mod.refl (· = w.heap.size) w1).set1 _).set1 _).set1 _).set1 _).set1 _).set1 _).set1 _).set1 _).set1 _).drew
  clear hch hW
  have k0 : w2.cell? ⟨w.heap.size, 0, none⟩ = some (.bool false) := by rw [cell_of_block hb]; rfl
  have k1 : w2.cell? ⟨w.heap.size, 1, none⟩ = some (.bool false) := by rw [cell_of_block hb]; rfl
  have k2 : w2.cell? ⟨w.heap.size, 2, none⟩ = some (.bool false) := by rw [cell_of_block hb]; rfl
  have k3 : w2.cell? ⟨w.heap.size, 3, none⟩ = some (.bool false) := by rw [cell_of_block hb]; rfl
  have k4 : w2.cell? ⟨w.heap.size, 4, none⟩ = some (.int .u32 0) := by rw [cell_of_block hb]; rfl
  have k5 : w2.cell? ⟨w.heap.size, 5, none⟩ = some (.int .u16 0) := by rw [cell_of_block hb]; rfl
  have k6 : w2.cell? ⟨w.heap.size, 6, none⟩ = some (.int .u16 0) := by rw [cell_of_block hb]; rfl
  have k7 : w2.cell? ⟨w.heap.size, 7, none⟩ = some (.int .u32 0) := by rw [cell_of_block hb]; rfl
  have k8 : w2.cell? ⟨w.heap.size, 8, none⟩ = some (.slice none 0 0) := by rw [cell_of_block hb]; rfl
  refine bodyPost_ret (v := .tuple #[.agg zz0, .iface u v]) (by simp [results, Tryd.results27, go_sem, zz0, k0, k1, k2, k3, k4, k5, k6, k7, k8]) rfl ?_
  exact ⟨u, v, rfl, HL.out.trans (M.below (by have := HL.out.size; exact this) (fun k hk => by omega))⟩

end Go.Proofs.YtnajpmdnadjipaaDoor
