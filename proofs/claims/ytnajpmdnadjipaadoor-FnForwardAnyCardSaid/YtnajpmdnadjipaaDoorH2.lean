/- Part of the proof of laws.FnForwardAny: the readers of a FORWARD TSN chunk where an error comes; conditions: as each theorem states. -/
import Derived.Test.YtnajpmdnadjipaaDoorF4
namespace Go.Proofs.YtnajpmdnadjipaaDoor
open Go.RowKit
set_option linter.unusedVariables false

def fw0 : Array Value := #[.int .u8 0, .int .u8 0, .slice none 0 0, .int .u32 0, .slice none 0 0]
def zzfw : Array Value := #[.int .u32 0, .slice none 0 0]
def imfw : Array Value := #[.int .u32 0, .slice none 0 0]
def zzfwW (w : World) : World := (w.alloc (.cells zzfw 73)).alloc (.cells fw0 102)
theorem zzfwW_q (w : World) : (zzfwW w).heap[w.heap.size + 1]? = some (.cells fw0 102 (0, 0)) := by
  have := heap_new (w.alloc (.cells zzfw 73)) (.cells fw0 102)
  simpa [zzfwW] using this
theorem zzfwW_mod (w : World) : Mod (fun _ => False) w (zzfwW w) := ((Mod.refl _ w).alloc _).alloc _
theorem zzfwW_r (w : World) : (zzfwW w).heap[w.heap.size]? = some (.cells zzfw 73 (0, 0)) := by
  have h1 := heap_new w (.cells zzfw 73)
  have := heap_alloc_old (w.alloc (.cells zzfw 73)) (.cells fw0 102) (r := w.heap.size) (by simp)
  exact this.trans h1
theorem Below.of_zzfw {w w' : World} (h : Mod (· = w.heap.size + 1) (zzfwW w) w') : Below w.heap.size w w' :=
  (((Below.refl w.heap.size w).alloc (Nat.le_refl _) _).alloc (by simp) _).trans (h.below (by simp [zzfwW]; omega) (fun k hk => by omega))

def FwdErr (w : World) (e : Ending) (w' : World) : Prop := ∃ u v, e = .returned (.tuple #[.agg #[.int .u32 0, .slice none 0 0], .iface u v]) ∧ Below w.heap.size w w'
def FwdNot (w : World) (e : Ending) (w' : World) : Prop := e = .returned (.tuple #[.agg imfw, .bool false]) ∧ Below w.heap.size w w'

set_option maxHeartbeats 400000 in
set_option maxRecDepth 20000 in
theorem fw_err {w : World} (q : Nat) (ao : Option Addr) (n c : Nat)
    (h : Calls Tryd.prog 42 #[.pointer (some ⟨q, 0, none⟩), .slice ao n c] w (ErrPost (· = q) w)) :
    Calls Tryd.prog 41 #[.pointer (some ⟨q, 0, none⟩), .slice ao n c] w (ErrPost (· = q) w) := by
  have HC := Lib.hid h
  clear h
  go_enter Tryd.func41, Tryd.ntmps41
  go_wp2_with fail
  refine HC.out.mono ?_
  rintro e w1 ⟨u, v, rfl, hM⟩
  go_wp2_with fail
  go_ret
  exact ⟨u, v, rfl, hM⟩

set_option maxHeartbeats 1000000 in
set_option maxRecDepth 20000 in
theorem zzfw_err {w : World} {ao : Option Addr} {n c : Nat}
    (h : Calls Tryd.prog 41 #[.pointer (some ⟨w.heap.size + 1, 0, none⟩), .slice ao n c] (zzfwW w) (ErrPost (· = w.heap.size + 1) (zzfwW w))) :
    Calls Tryd.prog 34 #[.slice ao n c] w (FwdErr w) := by
  have HC := Lib.hid h
  have HR := Lib.hid (zzfwW_r w)
  have HZ : Hid (w.heap.size < (zzfwW w).heap.size) := Lib.hid (by simp [zzfwW]; omega)
  clear h
  go_enter Tryd.func34, Tryd.ntmps34
  go_wp2_with fail
  refine HC.out.mono ?_
  rintro e w1 ⟨u, v, rfl, hM⟩
  have r1 : w1.heap[w.heap.size]? = some (.cells zzfw 73 (0, 0)) := (hM.block _ HZ.out (by omega)).trans HR.out
  have HL := Lib.hid (Below.of_zzfw hM)
  have s0 : w1.cell? ⟨w.heap.size, 0, none⟩ = some (.int .u32 0) := by rw [cell_of_block r1]; rfl
  have z0 : w1.frozen? ⟨w.heap.size, 0, none⟩ = false := frozen_of_block r1
  have s1 : w1.cell? ⟨w.heap.size, 1, none⟩ = some (.slice none 0 0) := by rw [cell_of_block r1]; rfl
  have z1 : w1.frozen? ⟨w.heap.size, 1, none⟩ = false := frozen_of_block r1
  have R1 := Lib.hid r1
  clear hM r1
  go_wp2_with fail
  clear s0 z0 s1 z1
  generalize hW : World.setCell _ _ _ = w2
  have hch := (heap_setCell_same (i := 1) (heap_setCell_same (i := 0) R1.out (.int .u32 0)) (.slice none 0 0))
  simp only [zzfw, List.setIfInBounds_toArray, List.set_cons_zero, List.set_cons_succ] at hch
  have hb : w2.heap[w.heap.size]? = some (.cells #[.int .u32 0, .slice none 0 0] 73 (0, 0)) := by rw [← hW]; exact hch
  have M : Mod (· = w.heap.size) w1 w2 := by rw [← hW]; exact (((Mod.refl (· = w.heap.size) w1).set1 _).set1 _)
  clear hch hW
  have k0 : w2.cell? ⟨w.heap.size, 0, none⟩ = some (.int .u32 0) := by rw [cell_of_block hb]; rfl
  have k1 : w2.cell? ⟨w.heap.size, 1, none⟩ = some (.slice none 0 0) := by rw [cell_of_block hb]; rfl
  refine bodyPost_ret (v := .tuple #[.agg zzfw, .iface u v]) (by simp [results, Tryd.results34, go_sem, zzfw, k0, k1]) rfl ?_
  exact ⟨u, v, rfl, HL.out.trans (M.below (by have := HL.out.size; exact this) (fun k hk => by omega))⟩

set_option maxHeartbeats 1000000 in
set_option maxRecDepth 20000 in
theorem forwardOf_no {w : World} {ao : Option Addr} {n c : Nat} {l : List Int} (h : BytesAt w ao n c l) (hs : n ≤ 2147483647)
    (hz : ∀ (w1 : World) (a1 : Option Addr) (c1 : Nat), BytesAt w1 a1 n c1 l → c1 ≤ 9223372036854775807 → Below w.heap.size w w1 → Calls Tryd.prog 34 #[.slice a1 n c1] w1 (FwdErr w1)) :
    Calls Tryd.prog 20 #[.slice ao n c] w (FwdNot w) := by
  have hA : Mod (fun _ => False) w (w.alloc (.cells imfw 45)) := (Mod.refl _ w).alloc _
  have HC := Lib.hid (copied_any ao n c l _ (h.mod hA (fun _ _ h => h)) hs)
  have HZ := Lib.hid hz
  have HbA := Lib.hid (heap_new w (.cells imfw 45))
  clear h hA hz
  go_enter Tryd.func20, Tryd.ntmps20
  go_wp2_with fail
  refine HC.out.mono ?_
  rintro e w1 ⟨a1, c1, rfl, hB, hf, hc1, hL1⟩
  have hLw := ((Below.refl w.heap.size w).alloc (Nat.le_refl _) (.cells imfw 45)).trans (hL1.mono (by simp))
  have HC2 := Lib.hid (HZ.out w1 a1 c1 hB hc1 hLw)
  have HbA1 : Hid (w1.heap[w.heap.size]? = some (.cells imfw 45 (0, 0))) := Lib.hid ((hL1.block _ (by simp)).trans HbA.out)
  have hz1 : w.heap.size < w1.heap.size := by have := hL1.size; simp at this; omega
  have HL1 := Lib.hid hLw
  clear hB hf hL1 hLw
  go_wp2_with fail
  refine HC2.out.mono ?_
  rintro e w2 ⟨u, v, rfl, hL2⟩
  have HL2 := Lib.hid (HL1.out.trans (hL2.mono (by omega)))
  have hbA2 := (hL2.block _ hz1).trans HbA1.out
  have hz2 : w.heap.size < w2.heap.size := by have := hL2.size; omega
  clear hL2
  have s0 : w2.cell? ⟨w.heap.size, 0, none⟩ = some (.int .u32 0) := by rw [cell_of_block hbA2]; rfl
  have z0 : w2.frozen? ⟨w.heap.size, 0, none⟩ = false := frozen_of_block hbA2
  have s1 : w2.cell? ⟨w.heap.size, 1, none⟩ = some (.slice none 0 0) := by rw [cell_of_block hbA2]; rfl
  have z1 : w2.frozen? ⟨w.heap.size, 1, none⟩ = false := frozen_of_block hbA2
  have A2 := Lib.hid hbA2
  clear hbA2
  go_wp2_with fail
  clear s0 z0 s1 z1
  generalize hW : World.setCell _ _ _ = w5
  have hch := (heap_setCell_same (i := 1) (heap_setCell_same (i := 0) A2.out (.int .u32 0)) (.slice none 0 0))
  simp only [imfw, List.setIfInBounds_toArray, List.set_cons_zero, List.set_cons_succ] at hch
  have hb : w5.heap[w.heap.size]? = some (.cells #[.int .u32 0, .slice none 0 0] 45 (0, 0)) := by rw [← hW]; exact hch
  have M : Mod (· = w.heap.size) w2 w5 := by rw [← hW]; exact (((Mod.refl (· = w.heap.size) w2).set1 _).set1 _)
  clear hch hW
  have k0 : w5.cell? ⟨w.heap.size, 0, none⟩ = some (.int .u32 0) := by rw [cell_of_block hb]; rfl
  have k1 : w5.cell? ⟨w.heap.size, 1, none⟩ = some (.slice none 0 0) := by rw [cell_of_block hb]; rfl
  have hz5 : w.heap.size < w5.heap.size := by have := M.size; omega
  refine bodyPost_ret (v := .tuple #[.agg imfw, .bool false]) (by simp [results, Tryd.results20, go_sem, imfw, k0, k1, hz5]) rfl ?_
  exact ⟨rfl, (HL2.out.trans (M.below (by have := HL2.out.size; exact this) (fun k hk => by omega))).alloc (by omega) _⟩
end Go.Proofs.YtnajpmdnadjipaaDoor
