/- Part of the proof of laws.FnShutdownAny: what the reader of a SHUTDOWN chunk returns, for every slice of bytes; conditions: the package's errors are there (GlobErr). -/
import Derived.Test.YtnajpmdnadjipaaDoorA9
namespace Go.Proofs.YtnajpmdnadjipaaDoor
open Go.RowKit
set_option linter.unusedVariables false

theorem u32_hi (x y : Int) (hx₀ : 0 ≤ x) (hx₁ : x < 4294967296) (hy₀ : 0 ≤ y) :
    (x % 16777216 = 0 → y < 16777216 → bits .or .u32 x y = x + y) ∧ (x % 65536 = 0 → y < 65536 → bits .or .u32 x y = x + y) ∧ (x % 256 = 0 → y < 256 → bits .or .u32 x y = x + y) :=
  ⟨fun h h' => bits_join .u32 32 (by decide) wraps_u32 24 x y hx₀ h hx₁ hy₀ h' (by omega), fun h h' => bits_join .u32 32 (by decide) wraps_u32 16 x y hx₀ h hx₁ hy₀ h' (by omega), fun h h' => bits_join .u32 32 (by decide) wraps_u32 8 x y hx₀ h hx₁ hy₀ h' (by omega)⟩

theorem be4_bound {l : List Int} (hb : ∀ i, 0 ≤ l.getD i 0 ∧ l.getD i 0 < 256) (p : Nat) : 0 ≤ be4 l p ∧ be4 l p < 4294967296 := by
  unfold be4
  have h0 := hb p; have h1 := hb (p + 1); have h2 := hb (p + 2); have h3 := hb (p + 3)
  constructor <;> omega
theorem be2_bound {l : List Int} (hb : ∀ i, 0 ≤ l.getD i 0 ∧ l.getD i 0 < 256) (p : Nat) : 0 ≤ be2 l p ∧ be2 l p < 65536 := by
  unfold be2
  have h0 := hb p; have h1 := hb (p + 1)
  constructor <;> omega

/-- BigEndian.Uint32 of bytes, at a place. -/
theorem u32_at {w : World} {b off n c : Nat} {l : List Int} (h : BytesAt w (some ⟨b, off, none⟩) n c l) (p : Nat) (m k : Nat) (hm : 4 ≤ m) (hp : p + m ≤ n) :
    Calls Tryd.prog 43 #[.agg #[], .slice (some ⟨b, off + p, none⟩) m k] w fun e w' => e = .returned (.int .u32 (be4 l p)) ∧ Below w.heap.size w w' := by
  have hc : ∀ i, i < 4 → w.cell? ⟨b, off + p + i, none⟩ = some (.int .u8 (l.getD (p + i) 0)) := by
    intro i hi
    have := h.cell _ rfl (p + i) (by omega)
    rwa [show (⟨b, off, none⟩ : Addr).add (p + i) = ⟨b, off + p + i, none⟩ from by unfold Addr.add; split <;> simp_all <;> omega] at this
  have h0 := h.byte p; have h1 := h.byte (p + 1); have h2 := h.byte (p + 2); have h3 := h.byte (p + 3)
  exact be32 b (off + p) m k _ _ _ _ w hm h0.1 h0.2 h1.1 h1.2 h2.1 h2.2 h3.1 h3.2 (hc 0 (by omega)) (hc 1 (by omega)) (hc 2 (by omega)) (hc 3 (by omega))
theorem u16_at {w : World} {b off n c : Nat} {l : List Int} (h : BytesAt w (some ⟨b, off, none⟩) n c l) (p : Nat) (m k : Nat) (hm : 2 ≤ m) (hp : p + m ≤ n) :
    Calls Tryd.prog 44 #[.agg #[], .slice (some ⟨b, off + p, none⟩) m k] w fun e w' => e = .returned (.int .u16 (be2 l p)) ∧ Below w.heap.size w w' := by
  have hc : ∀ i, i < 2 → w.cell? ⟨b, off + p + i, none⟩ = some (.int .u8 (l.getD (p + i) 0)) := by
    intro i hi
    have := h.cell _ rfl (p + i) (by omega)
    rwa [show (⟨b, off, none⟩ : Addr).add (p + i) = ⟨b, off + p + i, none⟩ from by unfold Addr.add; split <;> simp_all <;> omega] at this
  have h0 := h.byte p; have h1 := h.byte (p + 1)
  exact be16 b (off + p) m k _ _ w hm h0.1 h0.2 h1.1 h1.2 (hc 0 (by omega)) (hc 1 (by omega))

theorem BytesAt.drewN {w : World} {ao : Option Addr} {n c : Nat} {l : List Int} (h : BytesAt w ao n c l) : BytesAt w.drew ao n c l := ⟨h.len, h.cap, h.nil, h.cell, h.byte⟩

theorem cell_set_ne {w : World} {q i j : Nat} {v : Value} (h : w.cell? ⟨q, i, none⟩ = some v) (hij : i ≠ j) (x : Value) : (w.setCell ⟨q, j, none⟩ x).cell? ⟨q, i, none⟩ = some v := by
  unfold World.cell? at h ⊢
  simp only at h ⊢
  cases hb : w.heap[q]? with
  | none => rw [hb] at h; cases h
  | some o =>
    rw [hb] at h
    cases o <;> simp only at h <;> first | cases h | skip
    rename_i cs T fr
    rw [heap_setCell_same hb]
    simpa [Array.getElem?_setIfInBounds, Ne.symm hij] using h

theorem cell?_set_same {w : World} {a : Addr} {v : Value} (h : w.cell? a = some v) (x : Value) : (w.setCell a x).cell? a = some x := World.cell?_setCell_same _ _ _ h
theorem getD_drop (l : List Int) (k i : Nat) : (l.drop k).getD i 0 = l.getD (k + i) 0 := by simp
theorem be4_drop (l : List Int) (k p : Nat) : be4 (l.drop k) p = be4 l (k + p) := by
  unfold be4; simp only [getD_drop, Nat.add_assoc]
theorem be2_drop (l : List Int) (k p : Nat) : be2 (l.drop k) p = be2 l (k + p) := by
  unfold be2; simp only [getD_drop, Nat.add_assoc]

/-- SHUTDOWN, where it is one. -/
def SdYes (q : Nat) (v : Int) (w : World) (e : Ending) (w' : World) : Prop :=
  e = .returned .nilIface ∧ Mod (· = q) w w' ∧ w'.cell? ⟨q, 3, none⟩ = some (.int .u32 v)

set_option maxHeartbeats 400000 in
theorem sd_yes {w : World} {b off c : Nat} {l : List Int} (h : ChunkAt w b off 8 c l) (hw : be2 l 2 = (8 : Nat)) (q : Nat) (v0 v1 v2 v3 : Value) (T : TypeId)
    (hq : w.heap[q]? = some (.cells #[v0, v1, v2, v3] T (0, 0))) (hqb : q ≠ b) (h7 : l.getD 0 0 = 7) :
    Calls Tryd.prog 36 #[.pointer (some ⟨q, 0, none⟩), .slice (some ⟨b, off, none⟩) 8 c] w (SdYes q (be4 l 4) w) := by
  have HC := Lib.hid (hdr_w h hw q #[v0, v1, v2, v3] T hq (by simp) hqb)
  have H7 := Lib.hid h7
  have HL := Lib.hid h.len
  clear h hw hq h7
  go_enter Tryd.func36, Tryd.ntmps36
  go_wp2_with fail
  refine HC.out.mono ?_
  rintro e w1 ⟨rfl, hM, ao, c1, hB, hne, hb1⟩
  rw [H7.out, HL.out] at hb1
  simp at hb1
  rw [HL.out] at hB
  obtain ⟨b2, off2, rfl, hb2, _⟩ := hB.open (by omega)
  have hq1 : q < w1.heap.size := (Array.getElem?_eq_some_iff.1 hb1).1
  have g0 : w1.cell? ⟨q, 0, none⟩ = some (.int .u8 7) := by rw [cell_of_block hb1]; rfl
  have g2 : w1.cell? ⟨q, 2, none⟩ = some (.slice (some ⟨b2, off2, none⟩) 4 c1) := by rw [cell_of_block hb1]; rfl
  have g3 : w1.cell? ⟨q, 3, none⟩ = some v3 := by rw [cell_of_block hb1]; rfl
  have f3 : w1.frozen? ⟨q, 3, none⟩ = false := frozen_of_block hb1
  have hc1 : ¬ c1 = 0 := by have := hB.cap; omega
  have HB := Lib.hid hB; have H1 := Lib.hid hb1
  have n4 : (0 : Int) ≤ ((4 : Nat) : Int) := by omega
  clear hB hne hb1
  go_wp2_with fail
  go_region_held3 (fun w' => w'.cell? ⟨q, 2, none⟩ = some (.slice (some ⟨b2, off2, none⟩) 4 c1)) (first | exact g2 | exact k2 | exact cell_set_ne k2 (by decide) _) (first | (go_at_call 43; refine (u32_at HB.out.drewN 0 4 c1 (by omega) (by omega)).mono ?_; rintro e w2 ⟨rfl, hb2⟩; have k2 := (hb2.cell (p := ⟨q, 2, none⟩) hq1).trans g2; have k3 := (hb2.cell (p := ⟨q, 3, none⟩) hq1).trans g3; have j3 := (hb2.frozen (p := ⟨q, 3, none⟩) hq1).trans f3))
  have hM2 : Mod (· = q) w w2 := hM.drew.trans (Mod.of_below hb2)
  have K3 := Lib.hid k3
  clear k2 hb2
  go_wp2_with fail
  go_ret
  exact ⟨rfl, hM2.set1 _, by rw [be4_drop]; exact cell?_set_same K3.out _⟩

set_option maxHeartbeats 400000 in
theorem sd_err {w : World} (q : Nat) (ao : Option Addr) (n c : Nat)
    (h : Calls Tryd.prog 42 #[.pointer (some ⟨q, 0, none⟩), .slice ao n c] w (ErrPost (· = q) w)) :
    Calls Tryd.prog 36 #[.pointer (some ⟨q, 0, none⟩), .slice ao n c] w (ErrPost (· = q) w) := by
  have HC := Lib.hid h
  clear h
  go_enter Tryd.func36, Tryd.ntmps36
  go_wp2_with fail
  refine HC.out.mono ?_
  rintro e w1 ⟨u, v, rfl, hM⟩
  go_wp2_with fail
  go_ret
  exact ⟨u, v, rfl, hM⟩

set_option maxHeartbeats 400000 in
theorem sd_no {w : World} {b off n c : Nat} {l : List Int} (h : ChunkAt w b off n c l) (hw : be2 l 2 = n) (q : Nat) (v0 v1 v2 v3 : Value) (T : TypeId)
    (hq : w.heap[q]? = some (.cells #[v0, v1, v2, v3] T (0, 0))) (hqb : q ≠ b) (h7 : l.getD 0 0 ≠ 7) (e2 : GlobErr w 2) (hqg : q ≠ 2) :
    Calls Tryd.prog 36 #[.pointer (some ⟨q, 0, none⟩), .slice (some ⟨b, off, none⟩) n c] w (ErrPost (· = q) w) := by
  have HC := Lib.hid (hdr_w h hw q #[v0, v1, v2, v3] T hq (by simp) hqb)
  have H7 : (l.getD 0 0 == 7) = false := by simpa using h7
  obtain ⟨x, hx⟩ : ∃ x, x = l.getD 0 0 := ⟨_, rfl⟩
  rw [← hx] at H7
  have HX := Lib.hid hx
  have E := Lib.hid e2
  clear h hw hq h7 hx e2
  go_enter Tryd.func36, Tryd.ntmps36
  go_wp2_with fail
  refine HC.out.mono ?_
  rintro e w1 ⟨rfl, hM, ao, c1, hB, hne, hb1⟩
  rw [← HX.out] at hb1
  obtain ⟨u, v, g2⟩ := E.out.mod hM (fun h => hqg h.symm)
  simp at hb1
  have g0 : w1.cell? ⟨q, 0, none⟩ = some (.int .u8 x) := by rw [cell_of_block hb1]; rfl
  clear hB hne hb1
  go_wp2_with fail
  go_ret
  exact ⟨u, v, rfl, hM⟩

set_option maxHeartbeats 400000 in
theorem sd_size {w : World} {b off n c : Nat} {l : List Int} (h : ChunkAt w b off n c l) (hw : be2 l 2 = n) (q : Nat) (v0 v1 v2 v3 : Value) (T : TypeId)
    (hq : w.heap[q]? = some (.cells #[v0, v1, v2, v3] T (0, 0))) (hqb : q ≠ b) (h7 : l.getD 0 0 = 7) (hn8 : n ≠ 8) (e3 : GlobErr w 3) (hqg : q ≠ 3) :
    Calls Tryd.prog 36 #[.pointer (some ⟨q, 0, none⟩), .slice (some ⟨b, off, none⟩) n c] w (ErrPost (· = q) w) := by
  have HC := Lib.hid (hdr_w h hw q #[v0, v1, v2, v3] T hq (by simp) hqb)
  have H7 := Lib.hid h7
  have HL := Lib.hid h.len
  have E := Lib.hid e3
  have hn4 := h.ge
  have hs := h.small
  clear h hw hq h7 e3
  go_enter Tryd.func36, Tryd.ntmps36
  go_wp2_with fail
  refine HC.out.mono ?_
  rintro e w1 ⟨rfl, hM, ao, c1, hB, hne, hb1⟩
  rw [H7.out, HL.out] at hb1
  obtain ⟨u, v, g3⟩ := E.out.mod hM (fun h => hqg h.symm)
  simp at hb1
  obtain ⟨m, hm⟩ : ∃ m, m = n - 4 := ⟨_, rfl⟩
  rw [← hm] at hb1
  have hm4 : ((m : Int) == 4) = false := by simp; omega
  have g0 : w1.cell? ⟨q, 0, none⟩ = some (.int .u8 7) := by rw [cell_of_block hb1]; rfl
  have g2 : w1.cell? ⟨q, 2, none⟩ = some (.slice ao m c1) := by rw [cell_of_block hb1]; rfl
  clear hB hne hb1 hm
  go_wp2_with fail
  go_ret
  exact ⟨u, v, rfl, hM⟩

def shut0 : Array Value := #[.int .u8 0, .int .u8 0, .slice none 0 0, .int .u32 0]

def NumOk (w : World) (v : Int) (e : Ending) (w' : World) : Prop := e = .returned (.tuple #[.int .u32 v, .nilIface]) ∧ Below w.heap.size w w'
def NumErr (w : World) (e : Ending) (w' : World) : Prop := ∃ u v, e = .returned (.tuple #[.int .u32 0, .iface u v]) ∧ Below w.heap.size w w'
def NumIs (w : World) (v : Int) (t : Bool) (e : Ending) (w' : World) : Prop := e = .returned (.tuple #[.int .u32 v, .bool t]) ∧ Below w.heap.size w w'

set_option maxHeartbeats 400000 in
theorem zzsd_yes {w : World} {b off c : Nat} {l : List Int} (h : ChunkAt w b off 8 c l) (hw : be2 l 2 = (8 : Nat)) (h7 : l.getD 0 0 = 7) :
    Calls Tryd.prog 25 #[.slice (some ⟨b, off, none⟩) 8 c] w (NumOk w (be4 l 4)) := by
  have hb := h.lt
  have HC := Lib.hid (sd_yes (h.mod ((Mod.refl (fun _ => False) w).alloc (.cells shut0 85)) (fun h => h)) hw w.heap.size _ _ _ _ 85 (heap_new w _) (by omega) h7)
  clear h hw h7
  go_enter Tryd.func25, Tryd.ntmps25
  go_wp2_with fail
  refine HC.out.mono ?_
  rintro e w1 ⟨rfl, hM, g3⟩
  have HL := Lib.hid (Below.of_mod_new hM)
  clear hM
  go_wp2_with fail
  go_ret2
  exact ⟨rfl, HL.out⟩

set_option maxHeartbeats 400000 in
theorem zzsd_err {w : World} {ao : Option Addr} {n c : Nat}
    (h : Calls Tryd.prog 36 #[.pointer (some ⟨w.heap.size, 0, none⟩), .slice ao n c] (w.alloc (.cells shut0 85)) (ErrPost (· = w.heap.size) (w.alloc (.cells shut0 85)))) :
    Calls Tryd.prog 25 #[.slice ao n c] w (NumErr w) := by
  have HC := Lib.hid h
  clear h
  go_enter Tryd.func25, Tryd.ntmps25
  go_wp2_with fail
  refine HC.out.mono ?_
  rintro e w1 ⟨u, v, rfl, hM⟩
  have HL := Lib.hid (Below.of_mod_new hM)
  clear hM
  go_wp2_with fail
  go_ret2
  exact ⟨u, v, rfl, HL.out⟩

set_option maxHeartbeats 400000 in
theorem shutdownOf_yes {w : World} {ao : Option Addr} {c : Nat} {l : List Int} (h : BytesAt w ao 8 c l) (hw : be2 l 2 = (8 : Nat)) (h7 : l.getD 0 0 = 7) :
    Calls Tryd.prog 12 #[.slice ao 8 c] w (NumIs w (be4 l 4) true) := by
  have HC := Lib.hid (copied_any ao 8 c l w h (by omega))
  have HW := Lib.hid hw; have H7 := Lib.hid h7
  clear h hw h7
  go_enter Tryd.func12, Tryd.ntmps12
  go_wp2_with fail
  refine HC.out.mono ?_
  rintro e w1 ⟨a1, c1, rfl, hB, hf, hc1, hL1⟩
  obtain ⟨b, off, rfl, hCh⟩ := hB.chunk (by omega) (by omega) hc1
  have HC2 := Lib.hid (zzsd_yes hCh HW.out H7.out)
  clear hB hCh hf
  go_wp2_with fail
  refine HC2.out.mono ?_
  rintro e w2 ⟨rfl, hL2⟩
  have HL2 := Lib.hid (hL1.trans (hL2.mono hL1.size))
  clear hL2 hL1
  go_wp2_with fail
  go_quiet (fail)
  go_wp2_with fail
  go_ret2
  exact ⟨rfl, below_drewN HL2.out _⟩

set_option maxHeartbeats 400000 in
theorem shutdownOf_no {w : World} {ao : Option Addr} {n c : Nat} {l : List Int} (h : BytesAt w ao n c l) (hs : n ≤ 2147483647)
    (hz : ∀ (w1 : World) (a1 : Option Addr) (c1 : Nat), BytesAt w1 a1 n c1 l → c1 ≤ 9223372036854775807 → Below w.heap.size w w1 → Calls Tryd.prog 25 #[.slice a1 n c1] w1 (NumErr w1)) :
    Calls Tryd.prog 12 #[.slice ao n c] w (NumIs w 0 false) := by
  have HC := Lib.hid (copied_any ao n c l w h hs)
  have HZ := Lib.hid hz
  clear h hz
  go_enter Tryd.func12, Tryd.ntmps12
  go_wp2_with fail
  refine HC.out.mono ?_
  rintro e w1 ⟨a1, c1, rfl, hB, hf, hc1, hL1⟩
  have HC2 := Lib.hid (HZ.out w1 a1 c1 hB hc1 hL1)
  clear hB hf
  go_wp2_with fail
  refine HC2.out.mono ?_
  rintro e w2 ⟨u, v, rfl, hL2⟩
  have HL2 := Lib.hid (hL1.trans (hL2.mono hL1.size))
  clear hL2 hL1
  go_wp2_with fail
  go_quiet (fail)
  go_wp2_with fail
  go_ret2
  exact ⟨rfl, below_drewN HL2.out _⟩

structure SdGlobs (w : World) : Prop where
  e2 : GlobErr w 2
  e3 : GlobErr w 3
  e11 : GlobErr w 11
  e12 : GlobErr w 12

theorem GlobErr.lt {w : World} {g : Nat} (h : GlobErr w g) : g < w.heap.size := by
  obtain ⟨u, v, h⟩ := h; exact lt_of_cell h

theorem shutdownOf_sort {w : World} {ao : Option Addr} {n c : Nat} {l : List Int} (h : BytesAt w ao n c l) (hs : n ≤ 2147483647) (hg : SdGlobs w) (hl : Sort3 l) (h7 : 4 ≤ n → be2 l 2 = n → l.getD 0 0 ≠ 7 ∨ n ≠ 8) :
    Calls Tryd.prog 12 #[.slice ao n c] w (NumIs w 0 false) := by
  refine shutdownOf_no h hs fun w1 a1 c1 hB hc1 hL => zzsd_err ?_
  have hM : Mod (fun _ => False) w (w1.alloc (.cells shut0 85)) := (Mod.of_below hL).alloc _
  have l2 := hg.e2.lt; have l3 := hg.e3.lt; have l11 := hg.e11.lt; have l12 := hg.e12.lt
  have hz := hL.size
  cases hl with
  | small h4 =>
    exact sd_err _ _ _ _ (hdr_small _ _ _ _ _ (by rw [← hB.len]; exact h4) (hg.e11.mod hM (fun h => h)))
  | more h4 hw =>
    obtain ⟨b, off, rfl, hCh⟩ := hB.chunk (by rw [← hB.len]; exact h4) hs hc1
    have hb := hCh.lt
    exact sd_err _ _ _ _ (hdr_m (hCh.mod ((Mod.refl (fun _ => False) w1).alloc _) (fun h => h)) (by rw [← hB.len]; exact hw) _ _ 85 (heap_new w1 _) (by simp [shut0]) (by omega) (by omega) (hg.e12.mod hM (fun h => h)))
  | whole h4 hw =>
    obtain ⟨b, off, rfl, hCh⟩ := hB.chunk (by rw [← hB.len]; exact h4) hs hc1
    have hb := hCh.lt
    rw [hB.len] at hw
    by_cases h77 : l.getD 0 0 = 7
    · rcases h7 (by rw [← hB.len]; exact h4) hw with h | h
      · exact absurd h77 h
      · exact sd_size (hCh.mod ((Mod.refl (fun _ => False) w1).alloc _) (fun h => h)) hw _ _ _ _ _ 85 (heap_new w1 _) (by omega) h77 h (hg.e3.mod hM (fun h => h)) (by omega)
    · exact sd_no (hCh.mod ((Mod.refl (fun _ => False) w1).alloc _) (fun h => h)) hw _ _ _ _ _ 85 (heap_new w1 _) (by omega) h77 (hg.e2.mod hM (fun h => h)) (by omega)
end Go.Proofs.YtnajpmdnadjipaaDoor
