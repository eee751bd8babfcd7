/- Part of the proof of laws.FnDataAny: what ZZDataOf and impl.DataOf return, for every slice of bytes; conditions: the package's errors are there (PdGlobs). -/
import Derived.Test.YtnajpmdnadjipaaDoorE2
import Derived.Test.YtnajpmdnadjipaaDoorE3
namespace Go.Proofs.YtnajpmdnadjipaaDoor
open Go.RowKit
set_option linter.unusedVariables false

def zz0 : Array Value := #[.bool false, .bool false, .bool false, .bool false, .int .u32 0, .int .u16 0, .int .u16 0, .int .u32 0, .slice none 0 0]
def zzW (w : World) : World := (w.alloc (.cells zz0 59)).alloc (.cells data0 90)

theorem zzW_q (w : World) : (zzW w).heap[w.heap.size + 1]? = some (.cells data0 90 (0, 0)) := by
  have := heap_new (w.alloc (.cells zz0 59)) (.cells data0 90)
  simpa [zzW] using this
theorem zzW_mod (w : World) : Mod (fun _ => False) w (zzW w) := ((Mod.refl _ w).alloc _).alloc _
theorem zzW_r (w : World) : (zzW w).heap[w.heap.size]? = some (.cells zz0 59 (0, 0)) := by
  have h1 := heap_new w (.cells zz0 59)
  have := heap_alloc_old (w.alloc (.cells zz0 59)) (.cells data0 90) (r := w.heap.size) (by simp)
  exact this.trans h1
theorem Below.of_zz {w w' : World} (h : Mod (· = w.heap.size + 1) (zzW w) w') : Below w.heap.size w w' :=
  (((Below.refl w.heap.size w).alloc (Nat.le_refl _) _).alloc (by simp) _).trans (h.below (by simp [zzW]; omega) (fun k hk => by omega))

/-- A chunk of user data, no error. -/
def DataOk (w : World) (l : List Int) (e : Ending) (w' : World) : Prop :=
  ∃ ao n c, e = .returned (.tuple #[.agg #[.bool (bits .and .u8 (l.getD 1 0) 4 != 0), .bool (bits .and .u8 (l.getD 1 0) 2 != 0), .bool (bits .and .u8 (l.getD 1 0) 1 != 0), .bool (bits .and .u8 (l.getD 1 0) 8 != 0),
      .int .u32 (be4 l 4), .int .u16 (be2 l 8), .int .u16 (be2 l 10), .int .u32 (be4 l 12), .slice ao n c], .nilIface]) ∧ BytesAt w' ao n c (l.drop 16) ∧ Below w.heap.size w w'

set_option maxHeartbeats 1000000 in
set_option maxRecDepth 20000 in
theorem zzpd_yes {w : World} {b off n c : Nat} {l : List Int} (h : ChunkAt w b off n c l) (hw : be2 l 2 = n) (h0 : l.getD 0 0 = 0) (hn : 17 ≤ n) :
    Calls Tryd.prog 27 #[.slice (some ⟨b, off, none⟩) n c] w (DataOk w l) := by
  have hb := h.lt
  have HC := Lib.hid (pd_yes (h.mod (zzW_mod w) (fun h => h)) hw (w.heap.size + 1) (zzW_q w) (by omega) h0 hn)
  have HR := Lib.hid (zzW_r w)
  have HZ : Hid (w.heap.size < (zzW w).heap.size) := Lib.hid (by simp [zzW]; omega)
  clear h hw h0
  go_enter Tryd.func27, Tryd.ntmps27
  go_wp2_with fail
  refine HC.out.mono ?_
  rintro e w1 ⟨rfl, hM, raw, ao, c1, hB, hne, hb1⟩
  have r1 : w1.heap[w.heap.size]? = some (.cells zz0 59 (0, 0)) := (hM.block _ HZ.out (by omega)).trans HR.out
  have HB := Lib.hid hB
  have HN := Lib.hid hne
  have HL := Lib.hid (Below.of_zz hM)
  have R1 := Lib.hid r1
  have B1 := Lib.hid hb1
  obtain ⟨y0, e0⟩ : ∃ y, y = (bits .and .u8 (l.getD 1 0) 4 != 0) := ⟨_, rfl⟩
  obtain ⟨y1, e1⟩ : ∃ y, y = (bits .and .u8 (l.getD 1 0) 2 != 0) := ⟨_, rfl⟩
  obtain ⟨y2, e2⟩ : ∃ y, y = (bits .and .u8 (l.getD 1 0) 1 != 0) := ⟨_, rfl⟩
  obtain ⟨y3, e3⟩ : ∃ y, y = (bits .and .u8 (l.getD 1 0) 8 != 0) := ⟨_, rfl⟩
  obtain ⟨y4, e4⟩ : ∃ y, y = be4 l 4 := ⟨_, rfl⟩
  obtain ⟨y5, e5⟩ : ∃ y, y = be2 l 8 := ⟨_, rfl⟩
  obtain ⟨y6, e6⟩ : ∃ y, y = be2 l 10 := ⟨_, rfl⟩
  obtain ⟨y7, e7⟩ : ∃ y, y = be4 l 12 := ⟨_, rfl⟩
  have g4 : w1.cell? ⟨w.heap.size + 1, 4, none⟩ = some (.bool y0) := by rw [cell_of_block hb1, e0]; rfl
  have g5 : w1.cell? ⟨w.heap.size + 1, 5, none⟩ = some (.bool y1) := by rw [cell_of_block hb1, e1]; rfl
  have g6 : w1.cell? ⟨w.heap.size + 1, 6, none⟩ = some (.bool y2) := by rw [cell_of_block hb1, e2]; rfl
  have g7 : w1.cell? ⟨w.heap.size + 1, 7, none⟩ = some (.bool y3) := by rw [cell_of_block hb1, e3]; rfl
  have g8 : w1.cell? ⟨w.heap.size + 1, 8, none⟩ = some (.int .u32 y4) := by rw [cell_of_block hb1, e4]; rfl
  have g9 : w1.cell? ⟨w.heap.size + 1, 9, none⟩ = some (.int .u16 y5) := by rw [cell_of_block hb1, e5]; rfl
  have g10 : w1.cell? ⟨w.heap.size + 1, 10, none⟩ = some (.int .u16 y6) := by rw [cell_of_block hb1, e6]; rfl
  have g13 : w1.cell? ⟨w.heap.size + 1, 13, none⟩ = some (.int .u32 y7) := by rw [cell_of_block hb1, e7]; rfl
  have g14 : w1.cell? ⟨w.heap.size + 1, 14, none⟩ = some (.slice ao (l.length - 16) c1) := by rw [cell_of_block hb1]; rfl
  have g15 : w1.cell? ⟨w.heap.size + 1, 15, none⟩ = some (.bool false) := by rw [cell_of_block hb1]; rfl
  have EQ := Lib.hid (And.intro e0 (And.intro e1 (And.intro e2 (And.intro e3 (And.intro e4 (And.intro e5 (And.intro e6 e7)))))))
  clear hB hne hM hb1 r1 e0 e1 e2 e3 e4 e5 e6 e7
  have s0 : w1.cell? ⟨w.heap.size, 0, none⟩ = some (.bool false) := by rw [cell_of_block R1.out]; rfl
  have z0 : w1.frozen? ⟨w.heap.size, 0, none⟩ = false := frozen_of_block R1.out
  have s1 : w1.cell? ⟨w.heap.size, 1, none⟩ = some (.bool false) := by rw [cell_of_block R1.out]; rfl
  have z1 : w1.frozen? ⟨w.heap.size, 1, none⟩ = false := frozen_of_block R1.out
  have s2 : w1.cell? ⟨w.heap.size, 2, none⟩ = some (.bool false) := by rw [cell_of_block R1.out]; rfl
  have z2 : w1.frozen? ⟨w.heap.size, 2, none⟩ = false := frozen_of_block R1.out
  have s3 : w1.cell? ⟨w.heap.size, 3, none⟩ = some (.bool false) := by rw [cell_of_block R1.out]; rfl
  have z3 : w1.frozen? ⟨w.heap.size, 3, none⟩ = false := frozen_of_block R1.out
  have s4 : w1.cell? ⟨w.heap.size, 4, none⟩ = some (.int .u32 0) := by rw [cell_of_block R1.out]; rfl
  have z4 : w1.frozen? ⟨w.heap.size, 4, none⟩ = false := frozen_of_block R1.out
  have s5 : w1.cell? ⟨w.heap.size, 5, none⟩ = some (.int .u16 0) := by rw [cell_of_block R1.out]; rfl
  have z5 : w1.frozen? ⟨w.heap.size, 5, none⟩ = false := frozen_of_block R1.out
  have s6 : w1.cell? ⟨w.heap.size, 6, none⟩ = some (.int .u16 0) := by rw [cell_of_block R1.out]; rfl
  have z6 : w1.frozen? ⟨w.heap.size, 6, none⟩ = false := frozen_of_block R1.out
  have s7 : w1.cell? ⟨w.heap.size, 7, none⟩ = some (.int .u32 0) := by rw [cell_of_block R1.out]; rfl
  have z7 : w1.frozen? ⟨w.heap.size, 7, none⟩ = false := frozen_of_block R1.out
  have s8 : w1.cell? ⟨w.heap.size, 8, none⟩ = some (.slice none 0 0) := by rw [cell_of_block R1.out]; rfl
  have z8 : w1.frozen? ⟨w.heap.size, 8, none⟩ = false := frozen_of_block R1.out
  go_wp2_with fail
  go_region_held3 (fun w' => w'.cell? ⟨w.heap.size + 1, 4, none⟩ = some (.bool y0) ∧ w'.cell? ⟨w.heap.size + 1, 5, none⟩ = some (.bool y1) ∧ w'.cell? ⟨w.heap.size + 1, 6, none⟩ = some (.bool y2) ∧ w'.cell? ⟨w.heap.size + 1, 7, none⟩ = some (.bool y3) ∧ w'.cell? ⟨w.heap.size + 1, 8, none⟩ = some (.int .u32 y4) ∧ w'.cell? ⟨w.heap.size + 1, 9, none⟩ = some (.int .u16 y5) ∧ w'.cell? ⟨w.heap.size + 1, 10, none⟩ = some (.int .u16 y6) ∧ w'.cell? ⟨w.heap.size + 1, 13, none⟩ = some (.int .u32 y7) ∧ w'.cell? ⟨w.heap.size + 1, 14, none⟩ = some (.slice ao (l.length - 16) c1)) (go_keep) (fail)
  go_wp2_with fail
  clear g4 g5 g6 g7 g8 g9 g10 g13 g14 g15 s0 z0 s1 z1 s2 z2 s3 z3 s4 z4 s5 z5 s6 z6 s7 z7 s8 z8
  generalize hW : World.drew (World.setCell _ _ _) = w2
  have hch := (heap_setCell_same (i := 8) (heap_setCell_same (i := 7) (heap_setCell_same (i := 6) (heap_setCell_same (i := 5) (heap_setCell_same (i := 4) (heap_setCell_same (i := 3) (heap_setCell_same (i := 2) (heap_setCell_same (i := 1) (heap_setCell_same (i := 0) R1.out (.bool y0)) (.bool y1)) (.bool y2)) (.bool y3)) (.int .u32 y4)) (.int .u16 y5)) (.int .u16 y6)) (.int .u32 y7)) (.slice ao (l.length - 16) c1))
  simp only [zz0, List.setIfInBounds_toArray, List.set_cons_zero, List.set_cons_succ] at hch
  have hb2 : w2.heap[w.heap.size]? = some (.cells #[.bool y0, .bool y1, .bool y2, .bool y3, .int .u32 y4, .int .u16 y5, .int .u16 y6, .int .u32 y7, .slice ao (l.length - 16) c1] 59 (0, 0)) := by rw [← hW, show ∀ X : World, X.drew.heap = X.heap from fun _ => rfl]; exact hch
  clear hch
  have M2 : Mod (· = w.heap.size) w1 w2 := by rw [← hW]; exact ((((((((((Mod.refl (· = w.heap.size) w1).set1 _).set1 _).set1 _).set1 _).set1 _).set1 _).set1 _).set1 _).set1 _).drew
  have k0 : w2.cell? ⟨w.heap.size, 0, none⟩ = some (.bool y0) := by rw [cell_of_block hb2]; rfl
  have k1 : w2.cell? ⟨w.heap.size, 1, none⟩ = some (.bool y1) := by rw [cell_of_block hb2]; rfl
  have k2 : w2.cell? ⟨w.heap.size, 2, none⟩ = some (.bool y2) := by rw [cell_of_block hb2]; rfl
  have k3 : w2.cell? ⟨w.heap.size, 3, none⟩ = some (.bool y3) := by rw [cell_of_block hb2]; rfl
  have k4 : w2.cell? ⟨w.heap.size, 4, none⟩ = some (.int .u32 y4) := by rw [cell_of_block hb2]; rfl
  have k5 : w2.cell? ⟨w.heap.size, 5, none⟩ = some (.int .u16 y5) := by rw [cell_of_block hb2]; rfl
  have k6 : w2.cell? ⟨w.heap.size, 6, none⟩ = some (.int .u16 y6) := by rw [cell_of_block hb2]; rfl
  have k7 : w2.cell? ⟨w.heap.size, 7, none⟩ = some (.int .u32 y7) := by rw [cell_of_block hb2]; rfl
  have k8 : w2.cell? ⟨w.heap.size, 8, none⟩ = some (.slice ao (l.length - 16) c1) := by rw [cell_of_block hb2]; rfl
  refine bodyPost_ret (v := .tuple #[.agg #[.bool y0, .bool y1, .bool y2, .bool y3, .int .u32 y4, .int .u16 y5, .int .u16 y6, .int .u32 y7, .slice ao (l.length - 16) c1], .nilIface]) (by simp [results, Tryd.results27, go_sem, k0, k1, k2, k3, k4, k5, k6, k7, k8]) rfl ?_
  obtain ⟨rfl, rfl, rfl, rfl, rfl, rfl, rfl, rfl⟩ := EQ.out
  have hlt : ∀ a, ao = some a → ¬ (a.block = w.heap.size) := fun a ha => by rw [(HN.out a ha).2]; omega
  exact ⟨ao, _, c1, rfl, HB.out.mod M2 hlt, HL.out.trans (M2.below (by have := HL.out.size; exact this) (fun k hk => by omega))⟩
end Go.Proofs.YtnajpmdnadjipaaDoor
