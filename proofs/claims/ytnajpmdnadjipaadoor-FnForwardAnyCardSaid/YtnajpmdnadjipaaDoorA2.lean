/- Proved here: what the unmarshal of a chunk header does where the length in the header is the length of the bytes; conditions: as each theorem states. -/
import Derived.Test.YtnajpmdnadjipaaDoorA1
import Derived.Deep.RegionHeld3
namespace Go.Proofs.YtnajpmdnadjipaaDoor
open Go.RowKit
set_option linter.unusedVariables false
/-- What the header's unmarshal does where the length in the header is the whole. -/
def HdrWhole (q b : Nat) (cs : Array Value) (T : TypeId) (l : List Int) (w : World) (e : Ending) (w' : World) : Prop :=
  e = .returned .nilIface ∧ Mod (· = q) w w' ∧ ∃ ao c, BytesAt w' ao (l.length - 4) c (l.drop 4) ∧ (∀ a, ao = some a → a.block ≠ q ∧ a.block = b) ∧
    w'.heap[q]? = some (.cells (((cs.setIfInBounds 0 (.int .u8 (l.getD 0 0))).setIfInBounds 1 (.int .u8 (l.getD 1 0))).setIfInBounds 2 (.slice ao (l.length - 4) c)) T (0, 0))

theorem hdr_end (q : Nat) (cs : Array Value) (T : TypeId) (b off n c : Nat) (l : List Int) (w w1 : World) (x0 x1 : Int) (ao : Option Addr) (m k : Nat)
    (hq' : q < w.heap.size) (hqb : q ≠ b) (hq : w.heap[q]? = some (.cells cs T (0, 0)))
    (hb1 : Below ((w.setCell ⟨q, 0, none⟩ (.int .u8 x0)).setCell ⟨q, 1, none⟩ (.int .u8 x1)).drew.heap.size ((w.setCell ⟨q, 0, none⟩ (.int .u8 x0)).setCell ⟨q, 1, none⟩ (.int .u8 x1)).drew w1)
    (e1 : w1.heap[q]? = some (.cells ((cs.setIfInBounds 0 (.int .u8 x0)).setIfInBounds 1 (.int .u8 x1)) T (0, 0)))
    (h0 : x0 = l.getD 0 0) (h1 : x1 = l.getD 1 0) (hl : l.length = n) (hn : 4 ≤ n) (hc : n ≤ c)
    (hcell : ∀ i, i < n → w.cell? ⟨b, off + i, none⟩ = some (.int .u8 (l.getD i 0))) (hbyte : ∀ i, 0 ≤ l.getD i 0 ∧ l.getD i 0 < 256)
    (hm : m = n - 4) (hk : k = c - 4) (hao : (ao = some ⟨b, off, none⟩ ∧ n = 4) ∨ ao = some ⟨b, off + 4, none⟩) :
    HdrWhole q b cs T l w (.returned .nilIface) (w1.setCell ⟨q, 2, none⟩ (.slice ao m k)) := by
  subst hl hm hk
  have hM : Mod (· = q) w w1 := ((((Mod.refl _ w).set1 _).set1 _).drew).trans (Mod.of_below hb1)
  refine ⟨rfl, hM.set1 _, ao, c - 4, ⟨by simp, by omega, ?_, ?_, ?_⟩, ?_, ?_⟩
  · intro h; rcases hao with ⟨h', _⟩ | h' <;> rw [h'] at h <;> cases h
  · intro a ha i hi
    rcases hao with ⟨h', h4⟩ | h'
    · omega
    · rw [h'] at ha
      obtain rfl := Option.some.inj ha
      have hb : b < w.heap.size := lt_of_cell (hcell 0 (by omega))
      have e := hcell (4 + i) (by omega)
      have ea : (⟨b, off + 4, none⟩ : Addr).add i = ⟨b, off + (4 + i), none⟩ := by unfold Addr.add; split <;> simp_all; omega
      rw [ea, show (l.drop 4).getD i 0 = l.getD (4 + i) 0 from by simp, ← e]
      refine World.cell?_of_block ?_
      show (w1.setCell _ _).heap[b]? = _
      rw [heap_setCell_other (Ne.symm hqb)]
      exact hM.block b hb (fun h => hqb h.symm)
  · intro i
    rw [show (l.drop 4).getD i 0 = l.getD (4 + i) 0 from by simp]
    exact hbyte _
  · intro a ha
    rcases hao with ⟨h', _⟩ | h' <;> (rw [h'] at ha; obtain rfl := Option.some.inj ha; exact ⟨Ne.symm hqb, rfl⟩)
  · rw [← h0, ← h1]; exact heap_setCell_same e1 _

set_option maxHeartbeats 400000 in
set_option maxRecDepth 20000 in
theorem hdr_whole (q : Nat) (cs : Array Value) (T : TypeId) (b off n c : Nat) (l : List Int) (w : World)
    (hq : w.heap[q]? = some (.cells cs T (0, 0))) (hcs : 3 ≤ cs.size) (hqb : q ≠ b)
    (hl : l.length = n) (hn : 4 ≤ n) (hc : n ≤ c) (hc' : c ≤ 9223372036854775807)
    (hcell : ∀ i, i < n → w.cell? ⟨b, off + i, none⟩ = some (.int .u8 (l.getD i 0))) (hbyte : ∀ i, 0 ≤ l.getD i 0 ∧ l.getD i 0 < 256)
    (hw : l.getD 2 0 * 256 + l.getD 3 0 = n) :
    Calls Tryd.prog 42 #[.pointer (some ⟨q, 0, none⟩), .slice (some ⟨b, off, none⟩) n c] w (HdrWhole q b cs T l w) := by
  obtain ⟨x0, h0⟩ : ∃ x, x = l.getD 0 0 := ⟨_, rfl⟩
  obtain ⟨x1, h1⟩ : ∃ x, x = l.getD 1 0 := ⟨_, rfl⟩
  obtain ⟨x2, h2⟩ : ∃ x, x = l.getD 2 0 := ⟨_, rfl⟩
  obtain ⟨x3, h3⟩ : ∃ x, x = l.getD 3 0 := ⟨_, rfl⟩
  have c0 : w.cell? ⟨b, off, none⟩ = some (.int .u8 x0) := by rw [h0]; exact hcell 0 (by omega)
  have c1 : w.cell? ⟨b, off + 1, none⟩ = some (.int .u8 x1) := by rw [h1]; exact hcell 1 (by omega)
  have c2 : w.cell? ⟨b, off + 2, none⟩ = some (.int .u8 x2) := by rw [h2]; exact hcell 2 (by omega)
  have c3 : w.cell? ⟨b, off + 3, none⟩ = some (.int .u8 x3) := by rw [h3]; exact hcell 3 (by omega)
  have b0 := hbyte 0; have b1 := hbyte 1; have b2 := hbyte 2; have b3 := hbyte 3
  rw [← h0] at b0; rw [← h1] at b1; rw [← h2, ] at b2; rw [← h3] at b3; rw [← h2, ← h3] at hw
  have hb : b < w.heap.size := lt_of_cell c0
  have hq' : q < w.heap.size := (Array.getElem?_eq_some_iff.1 hq).1
  obtain ⟨b0l, b0r⟩ := b0
  obtain ⟨b1l, b1r⟩ := b1
  obtain ⟨b2l, b2r⟩ := b2
  obtain ⟨b3l, b3r⟩ := b3
  have g0 : w.cell? ⟨q, 0, none⟩ = some (cs[0]'(by omega)) := by rw [cell_of_block hq]; simp
  have g1 : w.cell? ⟨q, 1, none⟩ = some (cs[1]'(by omega)) := by rw [cell_of_block hq]; simp
  have g2 : w.cell? ⟨q, 2, none⟩ = some (cs[2]'(by omega)) := by rw [cell_of_block hq]; simp
  have f0 : w.frozen? ⟨q, 0, none⟩ = false := frozen_of_block hq
  have f1 : w.frozen? ⟨q, 1, none⟩ = false := frozen_of_block hq
  have f2 : w.frozen? ⟨q, 2, none⟩ = false := frozen_of_block hq
  have H0 := Lib.hid h0; have H1 := Lib.hid h1; have H2 := Lib.hid h2; have H3 := Lib.hid h3
  have HL := Lib.hid hl; have HW := Lib.hid hw; have HC := Lib.hid hcell; have HB := Lib.hid hbyte; have HQ := Lib.hid hq
  have q1 : (1 : Int) < n := by omega
  have q2 : (2 : Int) ≤ n := by omega
  have qc : ¬ c = 2 := by omega
  have q3 : (0 : Int) < n := by omega
  clear h0 h1 h2 h3 hl hw hcell hbyte hq
  have d2 : ((w.setCell ⟨q, 0, none⟩ (.int .u8 x0)).setCell ⟨q, 1, none⟩ (.int .u8 x1)).drew.cell? ⟨b, off + 2, none⟩ = some (.int .u8 x2) := by
    rw [← c2]; exact World.cell?_of_block (by show ((w.setCell _ _).setCell _ _).heap[b]? = _; rw [heap_setCell_other (Ne.symm hqb), heap_setCell_other (Ne.symm hqb)])
  have d3 : ((w.setCell ⟨q, 0, none⟩ (.int .u8 x0)).setCell ⟨q, 1, none⟩ (.int .u8 x1)).drew.cell? ⟨b, off + 2 + 1, none⟩ = some (.int .u8 x3) := by
    rw [← c3]; exact World.cell?_of_block (by show ((w.setCell _ _).setCell _ _).heap[b]? = _; rw [heap_setCell_other (Ne.symm hqb), heap_setCell_other (Ne.symm hqb)])
  have D2 := Lib.hid d2; have D3 := Lib.hid d3; clear d2 d3
  go_enter Tryd.func42, Tryd.ntmps42
  go_wp2_with fail
  go_region_held3 (fun _ => True) (trivial) (first | (go_at_call 44; refine (be16 b (off + 2) (n - 2) (c - 2) x2 x3 _ (by omega) b2l b2r b3l b3r D2.out D3.out).mono ?_; rintro e w1 ⟨rfl, hb1⟩))
  have e1 : w1.heap[q]? = some (.cells ((cs.setIfInBounds 0 (.int .u8 x0)).setIfInBounds 1 (.int .u8 x1)) T (0, 0)) := by
    rw [hb1.block q (by simpa using hq')]; exact heap_setCell_same (heap_setCell_same HQ.out _) _
  have g2 : w1.cell? ⟨q, 2, none⟩ = some (cs[2]'(by omega)) := by rw [cell_of_block e1]; simp
  have f2 : w1.frozen? ⟨q, 2, none⟩ = false := frozen_of_block e1
  have E1 := Lib.hid e1; clear e1
  have v1 : x2 * 256 + x3 ≤ n := by have := HW.out; omega
  have v2 : n ≤ x2 * 256 + x3 := by have := HW.out; omega
  go_wp2_with fail
  refine wp_loop_rounds 1 ?_
  rw [rounds_succ]
  go_wp2_with fail
  all_goals go_ret
  · obtain rfl : c = 4 := by assumption
    exact hdr_end q cs T b off n 4 l w w1 x0 x1 _ _ _ hq' hqb HQ.out hb1 E1.out H0.out H1.out HL.out hn hc HC.out HB.out (by omega) (by omega) (.inl ⟨rfl, by omega⟩)
  · exact hdr_end q cs T b off n c l w w1 x0 x1 _ _ _ hq' hqb HQ.out hb1 E1.out H0.out H1.out HL.out hn hc HC.out HB.out (by omega) (by omega) (.inr rfl)
end Go.Proofs.YtnajpmdnadjipaaDoor
