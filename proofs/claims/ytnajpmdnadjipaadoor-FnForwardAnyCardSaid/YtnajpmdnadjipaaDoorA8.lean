/- Proved here: what impl.CookieOf returns; conditions: as each theorem states. -/
import Derived.Test.YtnajpmdnadjipaaDoorA7
namespace Go.Proofs.YtnajpmdnadjipaaDoor
open Go.RowKit
set_option linter.unusedVariables false

/-- What is in the bytes: whole, and of this type; else none. -/
inductive Sort3 (l : List Int) : Prop where
  | small (h : l.length < 4) : Sort3 l
  | more (h : 4 ≤ l.length) (h' : (l.length : Int) < be2 l 2) : Sort3 l
  | whole (h : 4 ≤ l.length) (h' : be2 l 2 = l.length) : Sort3 l

theorem BytesAt.chunk {w : World} {ao : Option Addr} {n c : Nat} {l : List Int} (h : BytesAt w ao n c l) (hn : 4 ≤ n) (hs : n ≤ 2147483647) (hc : c ≤ 9223372036854775807) :
    ∃ b off, ao = some ⟨b, off, none⟩ ∧ ChunkAt w b off n c l := by
  obtain ⟨b, off, e, _, hcell⟩ := h.open (by omega)
  exact ⟨b, off, e, h.len, hn, h.cap, hc, hs, hcell, h.byte⟩

/-- Bytes, and whether there are any. -/
def BytesIs (w : World) (l : List Int) (t : Bool) (e : Ending) (w' : World) : Prop :=
  ∃ ao n c, e = .returned (.tuple #[.slice ao n c, .bool t]) ∧ BytesAt w' ao n c l ∧ Below w.heap.size w w'

theorem bytes_nil (w : World) : BytesAt w none 0 0 [] := ⟨rfl, Nat.le_refl _, fun _ => rfl, fun _ h => by simp at h, fun i => by simp⟩

set_option maxHeartbeats 400000 in
theorem cookieOf_yes {w : World} {ao : Option Addr} {n c : Nat} {l : List Int} (h : BytesAt w ao n c l) (hs : n ≤ 2147483647) (hn : 4 ≤ n) (hw : be2 l 2 = n) (h10 : l.getD 0 0 = 10) :
    Calls Tryd.prog 10 #[.slice ao n c] w (BytesIs w (l.drop 4) true) := by
  have HC := Lib.hid (copied_any ao n c l w h hs)
  have HW := Lib.hid hw; have H10 := Lib.hid h10; have HL := Lib.hid h.len
  clear h hw h10
  go_enter Tryd.func10, Tryd.ntmps10
  go_wp2_with fail
  refine HC.out.mono ?_
  rintro e w1 ⟨a1, c1, rfl, hB, hf, hc1, hL1⟩
  obtain ⟨b, off, rfl, hCh⟩ := hB.chunk hn hs hc1
  have HC2 := Lib.hid (zzck_yes hCh HW.out H10.out)
  clear hB hCh hf
  go_wp2_with fail
  refine HC2.out.mono ?_
  rintro e w2 ⟨a2, n2, c2, rfl, hB2, hL2⟩
  have hn2 : n2 ≤ 2147483647 := by have := hB2.len; simp [HL.out] at this; omega
  have HL2 := Lib.hid (hL1.trans (hL2.mono hL1.size))
  have HB2 := Lib.hid hB2
  clear hB2 hL2 hL1
  go_wp2_with fail
  go_region_held3 (fun _ => True) (trivial) (first | (go_at_call 24; refine (copied_any a2 n2 c2 (l.drop 4) _ (HB2.out.mod ((Mod.refl (fun _ => False) w2).drew) (fun _ _ h => h)) hn2).mono ?_; rintro e w3 ⟨a3, c3, rfl, hB3, hf3, hc3, hL3⟩))
  have HB3 := Lib.hid hB3
  have HL3 := Lib.hid hL3
  clear hB3 hf3 hL3
  go_wp2_with fail
  go_ret2
  exact ⟨a3, n2, c3, rfl, HB3.out, HL2.out.drew.trans (HL3.out.mono (by have := HL2.out.size; exact this))⟩

set_option maxHeartbeats 400000 in
theorem cookieOf_no {w : World} {ao : Option Addr} {n c : Nat} {l : List Int} (h : BytesAt w ao n c l) (hs : n ≤ 2147483647)
    (hz : ∀ (w1 : World) (a1 : Option Addr) (c1 : Nat), BytesAt w1 a1 n c1 l → c1 ≤ 9223372036854775807 → Below w.heap.size w w1 → Calls Tryd.prog 23 #[.slice a1 n c1] w1 (NilErr w1)) :
    Calls Tryd.prog 10 #[.slice ao n c] w (BytesIs w [] false) := by
  have HC := Lib.hid (copied_any ao n c l w h hs)
  have HZ := Lib.hid hz
  clear h hz
  go_enter Tryd.func10, Tryd.ntmps10
  go_wp2_with fail
  refine HC.out.mono ?_
  rintro e w1 ⟨a1, c1, rfl, hB, hf, hc1, hL1⟩
  have HC2 := Lib.hid (HZ.out w1 a1 c1 hB hc1 hL1)
  clear hB hf
  go_wp2_with fail
  refine HC2.out.mono ?_
  rintro e w2 ⟨u, v, rfl, hL2⟩
  have HL2 := Lib.hid (hL1.trans (hL2.mono hL1.size))
  clear hL2 hL1
  go_wp2_with fail
  go_region_held3 (fun _ => True) (trivial) (first | (go_at_call 24; refine (copied_any none 0 0 [] _ (bytes_nil _) (by omega)).mono ?_; rintro e w3 ⟨a3, c3, rfl, hB3, hf3, hc3, hL3⟩))
  have HB3 := Lib.hid hB3
  have HL3 := Lib.hid hL3
  clear hB3 hf3 hL3
  go_wp2_with fail
  go_ret2
  exact ⟨a3, 0, c3, rfl, HB3.out, HL2.out.drew.trans (HL3.out.mono (by have := HL2.out.size; exact this))⟩

/-- The errors that the cookie's reader may hand back are there. -/
structure CkGlobs (w : World) : Prop where
  e1 : GlobErr w 1
  e11 : GlobErr w 11
  e12 : GlobErr w 12

theorem cookieOf_sort {w : World} {ao : Option Addr} {n c : Nat} {l : List Int} (h : BytesAt w ao n c l) (hs : n ≤ 2147483647) (hg : CkGlobs w) (hl : Sort3 l) (h10 : 4 ≤ n → be2 l 2 = n → l.getD 0 0 ≠ 10) :
    Calls Tryd.prog 10 #[.slice ao n c] w (BytesIs w [] false) := by
  refine cookieOf_no h hs fun w1 a1 c1 hB hc1 hL => zzck_err ?_
  have hM : Mod (fun _ => False) w (w1.alloc (.cells cookie0 81)) := (Mod.of_below hL).alloc _
  have l1 := lt_of_cell hg.e1.choose_spec.choose_spec
  have l11 := lt_of_cell hg.e11.choose_spec.choose_spec
  have l12 := lt_of_cell hg.e12.choose_spec.choose_spec
  simp only at l1 l11 l12
  have hz := hL.size
  cases hl with
  | small h4 =>
    refine ck_err _ _ _ _ (hdr_small _ _ _ _ _ (by rw [← hB.len]; exact h4) (hg.e11.mod hM (fun h => h)))
  | more h4 hw =>
    obtain ⟨b, off, rfl, hCh⟩ := hB.chunk (by rw [← hB.len]; exact h4) hs hc1
    have hb := hCh.lt
    refine ck_err _ _ _ _ (hdr_m (hCh.mod ((Mod.refl (fun _ => False) w1).alloc _) (fun h => h)) (by rw [← hB.len]; exact hw) _ _ 81 (heap_new w1 _) (by simp [cookie0]) (by omega) (by omega) (hg.e12.mod hM (fun h => h)))
  | whole h4 hw =>
    obtain ⟨b, off, rfl, hCh⟩ := hB.chunk (by rw [← hB.len]; exact h4) hs hc1
    have hb := hCh.lt
    rw [hB.len] at hw
    exact ck_no (hCh.mod ((Mod.refl (fun _ => False) w1).alloc _) (fun h => h)) hw _ _ _ _ _ 81 (heap_new w1 _) (by omega) (h10 (by rw [← hB.len]; exact h4) hw) (hg.e1.mod hM (fun h => h)) (by omega)
end Go.Proofs.YtnajpmdnadjipaaDoor
