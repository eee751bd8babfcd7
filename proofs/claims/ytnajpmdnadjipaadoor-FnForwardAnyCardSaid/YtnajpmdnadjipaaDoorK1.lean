/- Part of the proof of laws.FnForwardAny: what the reader of one stream of a FORWARD TSN chunk does; conditions: as the theorem states. -/
import Derived.Test.YtnajpmdnadjipaaDoorJ5
import Derived.Test.YtnajpmdnadjipaaDoorH2
namespace Go.Proofs.YtnajpmdnadjipaaDoor
open Go.RowKit
set_option linter.unusedVariables false

/-- A stream that was read. -/
def StreamRead (q : Nat) (l : List Int) (w : World) (e : Ending) (w' : World) : Prop :=
  e = .returned .nilIface ∧ Mod (· = q) w w' ∧ w'.heap[q]? = some (.cells #[.int .u16 (be2 l 0), .int .u16 (be2 l 2)] 104 (0, 0))

set_option maxHeartbeats 1000000 in
set_option maxRecDepth 20000 in
theorem stream_any {w : World} {b off m c q : Nat} {l : List Int} (hB : BytesAt w (some ⟨b, off, none⟩) m c l) (hm : 4 ≤ m) (hms : m ≤ 2147483647) (hq : w.heap[q]? = some (.cells #[.int .u16 0, .int .u16 0] 104 (0, 0))) (hqb : q ≠ b) :
    Calls Tryd.prog 45 #[.pointer (some ⟨q, 0, none⟩), .slice (some ⟨b, off, none⟩) m c] w (StreamRead q l w) := by
  have hc1 := hB.cap
  have d0 : ¬ c = 0 := by omega
  have d2 : ¬ c = 2 := by omega
  have i0 : (0 : Int) ≤ m := by omega
  have i2 : (2 : Int) ≤ m := by omega
  have i4 : (4 : Int) ≤ m := by omega
  have HB := Lib.hid hB
  have HQ := Lib.hid hq
  have g0 : w.cell? ⟨q, 0, none⟩ = some (.int .u16 0) := by rw [cell_of_block hq]; rfl
  have f0 : w.frozen? ⟨q, 0, none⟩ = false := frozen_of_block hq
  have hq1 : q < w.heap.size := (Array.getElem?_eq_some_iff.1 hq).1
  clear hB hq
  go_enter Tryd.func45, Tryd.ntmps45
  go_wp2_with fail
  go_region_held3 (fun _ => True) (trivial) (first | (go_at_call 44; refine (u16_at HB.out.drewN 0 (m - 0) (c - 0) (by omega) (by omega)).mono ?_; rintro e x2 ⟨rfl, hx⟩; have k3 := (hx.cell (p := ⟨q, 0, none⟩) hq1).trans g0; have j3 := (hx.frozen (p := ⟨q, 0, none⟩) hq1).trans f0))
  have MX : Mod (· = q) w x2 := (Mod.refl (· = q) w).drew.trans (Mod.of_below hx)
  have BX : x2.heap[q]? = w.heap[q]? := hx.block q hq1
  clear k3 j3 g0 f0 hx
  generalize hW : x2.setCell ⟨q, 0, none⟩ _ = w3
  have hb : w3.heap[q]? = some (.cells #[.int .u16 (be2 l 0), .int .u16 0] 104 (0, 0)) := by rw [← hW]; exact heap_setCell_same (BX.trans HQ.out) _
  have MN : Mod (· = q) w w3 := by rw [← hW]; exact MX.set1 _
  have B3 := Lib.hid hb
  have HM3 := Lib.hid MN
  have HB3 := Lib.hid (HB.out.mod MN (fun a ha => by obtain rfl := Option.some.inj ha; exact fun e => hqb e.symm))
  clear hW hb MX BX MN HQ HB hq1
  have g0 : w3.cell? ⟨q, 1, none⟩ = some (.int .u16 0) := by rw [cell_of_block B3.out]; rfl
  have f0 : w3.frozen? ⟨q, 1, none⟩ = false := frozen_of_block B3.out
  have hq3 : q < w3.heap.size := lt_of_cell g0
  go_wp2_with fail
  go_region_held3 (fun _ => True) (trivial) (first | (go_at_call 44; refine (u16_at HB3.out.drewN 2 (m - 2) (c - 2) (by omega) (by omega)).mono ?_; rintro e x3 ⟨rfl, hx⟩; have k3 := (hx.cell (p := ⟨q, 1, none⟩) hq3).trans g0; have j3 := (hx.frozen (p := ⟨q, 1, none⟩) hq3).trans f0))
  have MX : Mod (· = q) w3 x3 := (Mod.refl (· = q) w3).drew.trans (Mod.of_below hx)
  have BX : x3.heap[q]? = w3.heap[q]? := hx.block q hq3
  clear k3 j3 g0 f0 hx
  generalize hW : x3.setCell ⟨q, 1, none⟩ _ = w4
  have hb : w4.heap[q]? = some (.cells #[.int .u16 (be2 l 0), .int .u16 (be2 l 2)] 104 (0, 0)) := by rw [← hW]; exact heap_setCell_same (BX.trans B3.out) _
  have MN : Mod (· = q) w3 w4 := by rw [← hW]; exact MX.set1 _
  have B4 := Lib.hid hb
  have HM4 := Lib.hid (HM3.out.trans MN)
  clear hW hb MX BX MN
  go_wp2_with fail
  go_ret
  exact ⟨rfl, HM4.out, B4.out⟩

set_option maxHeartbeats 400000 in
theorem streamLen (w : World) (q : Nat) : Calls Tryd.prog 46 #[.pointer (some ⟨q, 0, none⟩)] w fun e w' => e = .returned (.int .i64 4) ∧ w' = w := by
  go_enter Tryd.func46, Tryd.ntmps46
  go_wp2_with fail
  go_ret
  exact ⟨rfl, rfl⟩
end Go.Proofs.YtnajpmdnadjipaaDoor
