/- Proved here: what ZZCookieOf returns; conditions: as each theorem states. -/
import Derived.Test.YtnajpmdnadjipaaDoorA6
namespace Go.Proofs.YtnajpmdnadjipaaDoor
open Go.RowKit
set_option linter.unusedVariables false

theorem Below.of_mod_new {w w' : World} {o : Obj} (h : Mod (· = w.heap.size) (w.alloc o) w') : Below w.heap.size w w' :=
  ((Below.refl w.heap.size w).alloc (Nat.le_refl _) o).trans (h.below (by simp) (fun k hk => by omega))

theorem heap_new (w : World) (o : Obj) : (w.alloc o).heap[w.heap.size]? = some o := heap_alloc_new w o

/-- Bytes and no error. -/
def BytesOk (w : World) (l : List Int) (e : Ending) (w' : World) : Prop :=
  ∃ ao n c, e = .returned (.tuple #[.slice ao n c, .nilIface]) ∧ BytesAt w' ao n c l ∧ Below w.heap.size w w'

def cookie0 : Array Value := #[.int .u8 0, .int .u8 0, .slice none 0 0, .slice none 0 0]

set_option maxHeartbeats 400000 in
theorem zzck_yes {w : World} {b off n c : Nat} {l : List Int} (h : ChunkAt w b off n c l) (hw : be2 l 2 = n) (h10 : l.getD 0 0 = 10) :
    Calls Tryd.prog 23 #[.slice (some ⟨b, off, none⟩) n c] w (BytesOk w (l.drop 4)) := by
  have hb := h.lt
  have HC := Lib.hid (ck_yes (h.mod ((Mod.refl (fun _ => False) w).alloc (.cells cookie0 81)) (fun h => h)) hw w.heap.size _ _ _ _ 81 (heap_new w _) (by omega) h10)
  clear h hw h10
  go_enter Tryd.func23, Tryd.ntmps23
  go_wp2_with fail
  refine HC.out.mono ?_
  rintro e w1 ⟨rfl, hM, ao, c1, hB, hne, g3⟩
  have HB := Lib.hid hB
  have HL := Lib.hid (Below.of_mod_new hM)
  clear hB hM hne
  go_wp2_with fail
  go_ret2
  exact ⟨ao, _, c1, rfl, HB.out, HL.out⟩

/-- Nothing, and an error. -/
def NilErr (w : World) (e : Ending) (w' : World) : Prop :=
  ∃ u v, e = .returned (.tuple #[.slice none 0 0, .iface u v]) ∧ Below w.heap.size w w'

set_option maxHeartbeats 400000 in
theorem zzck_err {w : World} {ao : Option Addr} {n c : Nat}
    (h : Calls Tryd.prog 35 #[.pointer (some ⟨w.heap.size, 0, none⟩), .slice ao n c] (w.alloc (.cells cookie0 81)) (ErrPost (· = w.heap.size) (w.alloc (.cells cookie0 81)))) :
    Calls Tryd.prog 23 #[.slice ao n c] w (NilErr w) := by
  have HC := Lib.hid h
  clear h
  go_enter Tryd.func23, Tryd.ntmps23
  go_wp2_with fail
  refine HC.out.mono ?_
  rintro e w1 ⟨u, v, rfl, hM⟩
  have HL := Lib.hid (Below.of_mod_new hM)
  clear hM
  go_wp2_with fail
  go_ret2
  exact ⟨u, v, rfl, HL.out⟩
end Go.Proofs.YtnajpmdnadjipaaDoor
