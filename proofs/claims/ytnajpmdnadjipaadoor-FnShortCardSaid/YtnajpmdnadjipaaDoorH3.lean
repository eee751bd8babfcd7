/- laws.FnShort returns true for every slice of bytes and leaves the memory that was there as it was; conditions: the package's errors are there (ShGlobs). -/
import Derived.Test.YtnajpmdnadjipaaDoorG3
import Derived.Test.YtnajpmdnadjipaaDoorH1
import Derived.Test.YtnajpmdnadjipaaDoorH2
namespace Go.Proofs.YtnajpmdnadjipaaDoor
open Go.RowKit
set_option linter.unusedVariables false

set_option maxHeartbeats 400000 in
theorem short_great (w : World) (ao : Option Addr) (n c : Nat) (hs : ¬ (n : Int) ≤ 2147483647) : Calls Tryd.prog 8 #[.slice ao n c] w (IsTrue w) := by
  go_enter Tryd.func8, Tryd.ntmps8
  go_wp2_with fail
  go_ret
  exact ⟨rfl, Below.refl _ _⟩

set_option maxHeartbeats 400000 in
theorem short_big (w : World) (ao : Option Addr) (n c : Nat) (hs : (n : Int) ≤ 2147483647) (hb : ¬ (n : Int) ≤ 4096) : Calls Tryd.prog 8 #[.slice ao n c] w (IsTrue w) := by
  go_enter Tryd.func8, Tryd.ntmps8
  go_wp2_with fail
  go_quiet (fail)
  go_wp2_with fail
  go_ret
  exact ⟨rfl, below_drewN (Below.refl _ _) _⟩

set_option maxHeartbeats 1000000 in
set_option maxRecDepth 20000 in
theorem short_not {w : World} {b off n c : Nat} {l : List Int} (h : BytesAt w (some ⟨b, off, none⟩) n c l) (hs : n ≤ 4096) (h4 : 4 ≤ n) (hw : be2 l 2 ≤ n) :
    Calls Tryd.prog 8 #[.slice (some ⟨b, off, none⟩) n c] w (IsTrue w) := by
  obtain ⟨x2, e2⟩ : ∃ x, x = l.getD 2 0 := ⟨_, rfl⟩
  obtain ⟨x3, e3⟩ : ∃ x, x = l.getD 3 0 := ⟨_, rfl⟩
  have b2 := h.byte 2; have b3 := h.byte 3
  have g2 : w.cell? ⟨b, off + 2, none⟩ = some (.int .u8 x2) := by rw [e2]; exact h.cell _ rfl 2 (by omega)
  have g3 : w.cell? ⟨b, off + 3, none⟩ = some (.int .u8 x3) := by rw [e3]; exact h.cell _ rfl 3 (by omega)
  rw [← e2] at b2; rw [← e3] at b3
  have hle : 256 * x2 + x3 ≤ n := by unfold be2 at hw; rw [← e2, ← e3] at hw; omega
  obtain ⟨b2l, b2r⟩ := b2; obtain ⟨b3l, b3r⟩ := b3
  have n4 : (4 : Int) ≤ n := by omega
  have n2 : (2 : Int) < n := by omega
  have n3 : (3 : Int) < n := by omega
  have nb : (n : Int) ≤ 4096 := by omega
  have ns : (n : Int) ≤ 2147483647 := by omega
  have w2 := wraps_i64 x2 (by omega) (by omega)
  have w3 := wraps_i64 x3 (by omega) (by omega)
  have w4 := wraps_i64 (256 * x2) (by omega) (by omega)
  have w5 := wraps_i64 (256 * x2 + x3) (by omega) (by omega)
  clear h hw e2 e3
  go_enter Tryd.func8, Tryd.ntmps8
  go_wp2_with fail
  go_quiet (fail)
  go_wp2_with fail
  go_ret
  exact ⟨rfl, below_drewN (Below.refl _ _) _⟩

/-- Fewer bytes than a header has, or than its length tells. -/
def Fewer (l : List Int) : Prop := l.length < 4 ∨ (4 ≤ l.length ∧ (l.length : Int) < be2 l 2)

theorem Fewer.sort {l : List Int} (h : Fewer l) : Sort3 l := by
  rcases h with h | ⟨h, h'⟩
  · exact .small h
  · exact .more h h'

theorem hdr_fewer {w : World} {ao : Option Addr} {n c : Nat} {l : List Int} (hB : BytesAt w ao n c l) (hs : n ≤ 2147483647) (hc1 : c ≤ 9223372036854775807) (hl : Fewer l) (w' : World) (hM : Mod (fun _ => False) w w')
    (e11 : GlobErr w' 11) (e12 : GlobErr w' 12) (q : Nat) (cs : Array Value) (T : TypeId) (hq : w'.heap[q]? = some (.cells cs T (0, 0))) (hcs : 3 ≤ cs.size) (hqw : w.heap.size ≤ q) (hq12 : q ≠ 12) :
    Calls Tryd.prog 42 #[.pointer (some ⟨q, 0, none⟩), .slice ao n c] w' (ErrPost (· = q) w') := by
  rcases hl with h4 | ⟨h4, hw⟩
  · exact hdr_small _ _ _ _ _ (by rw [← hB.len]; exact h4) e11
  · obtain ⟨b, off, rfl, hCh⟩ := hB.chunk (by rw [← hB.len]; exact h4) hs hc1
    have hb := hCh.lt
    exact hdr_m (hCh.mod hM (fun h => h)) (by rw [← hB.len]; exact hw) _ _ T hq hcs (by omega) hq12 e12

theorem sackOf_fewer {w : World} {ao : Option Addr} {n c : Nat} {l : List Int} (h : BytesAt w ao n c l) (hs : n ≤ 2147483647) (e11 : GlobErr w 11) (e12 : GlobErr w 12) (hl : Fewer l) :
    Calls Tryd.prog 17 #[.slice ao n c] w (SackNot w) := by
  refine sackOf_no h hs fun w1 a1 c1 hB hc1 hL => ?_
  have hM : Mod (fun _ => False) w (zzskW w1) := (Mod.of_below (S := fun _ => False) hL).trans (zzskW_mod w1)
  have l12 := e12.lt
  have hz := hL.size
  exact zzsk_err (sk_err _ _ _ _ (hdr_fewer hB hs hc1 hl _ (zzskW_mod w1) (e11.mod hM (fun h => h)) (e12.mod hM (fun h => h)) _ _ 95 (zzskW_q w1) (by simp [sk0]) (by omega) (by omega)))

theorem forwardOf_fewer {w : World} {ao : Option Addr} {n c : Nat} {l : List Int} (h : BytesAt w ao n c l) (hs : n ≤ 2147483647) (e11 : GlobErr w 11) (e12 : GlobErr w 12) (hl : Fewer l) :
    Calls Tryd.prog 20 #[.slice ao n c] w (FwdNot w) := by
  refine forwardOf_no h hs fun w1 a1 c1 hB hc1 hL => ?_
  have hM : Mod (fun _ => False) w (zzfwW w1) := (Mod.of_below (S := fun _ => False) hL).trans (zzfwW_mod w1)
  have l12 := e12.lt
  have hz := hL.size
  exact zzfw_err (fw_err _ _ _ _ (hdr_fewer hB hs hc1 hl _ (zzfwW_mod w1) (e11.mod hM (fun h => h)) (e12.mod hM (fun h => h)) _ _ 102 (zzfwW_q w1) (by simp [fw0]) (by omega) (by omega)))

structure ShGlobs (w : World) : Prop where
  e0 : GlobErr w 0
  e1 : GlobErr w 1
  e2 : GlobErr w 2
  e3 : GlobErr w 3
  e5 : GlobErr w 5
  e11 : GlobErr w 11
  e12 : GlobErr w 12

/-- What the five readers say of such bytes, in every later world. -/
structure Five (w : World) (ao : Option Addr) (n c : Nat) : Prop where
  data : ∀ w', Below w.heap.size w w' → Calls Tryd.prog 14 #[.slice ao n c] w' (DataNot w')
  sack : ∀ w', Below w.heap.size w w' → Calls Tryd.prog 17 #[.slice ao n c] w' (SackNot w')
  fwd : ∀ w', Below w.heap.size w w' → Calls Tryd.prog 20 #[.slice ao n c] w' (FwdNot w')
  shut : ∀ w', Below w.heap.size w w' → Calls Tryd.prog 12 #[.slice ao n c] w' (NumIs w' 0 false)
  ck : ∀ w', Below w.heap.size w w' → Calls Tryd.prog 10 #[.slice ao n c] w' (BytesIs w' [] false)

theorem five {w : World} {ao : Option Addr} {n c : Nat} {l : List Int} (h : BytesAt w ao n c l) (hs : n ≤ 4096) (hg : ShGlobs w) (hl : Fewer l) : Five w ao n c := by
  have hn : 4 ≤ n → be2 l 2 = n → False := by
    intro h4 he
    have hlen := h.len
    rcases hl with h' | ⟨_, h'⟩ <;> omega
  have M : ∀ w', Below w.heap.size w w' → Mod (fun _ => False) w w' := fun w' hb => Mod.of_below (S := fun _ => False) hb
  have hB : ∀ w', Below w.heap.size w w' → BytesAt w' ao n c l := fun w' hb => h.mod (M w' hb) (fun _ _ h => h)
  have hE : ∀ w' k, Below w.heap.size w w' → GlobErr w k → GlobErr w' k := fun w' k hb e => e.mod (M w' hb) (fun h => h)
  refine ⟨fun w' hb => ?_, fun w' hb => ?_, fun w' hb => ?_, fun w' hb => ?_, fun w' hb => ?_⟩
  · exact dataOf_sort (hB w' hb) (by omega) ⟨hE _ _ hb hg.e0, hE _ _ hb hg.e5, hE _ _ hb hg.e11, hE _ _ hb hg.e12⟩ hl.sort (fun h4 he => (hn h4 he).elim)
  · exact sackOf_fewer (hB w' hb) (by omega) (hE _ _ hb hg.e11) (hE _ _ hb hg.e12) hl
  · exact forwardOf_fewer (hB w' hb) (by omega) (hE _ _ hb hg.e11) (hE _ _ hb hg.e12) hl
  · exact shutdownOf_sort (hB w' hb) (by omega) ⟨hE _ _ hb hg.e2, hE _ _ hb hg.e3, hE _ _ hb hg.e11, hE _ _ hb hg.e12⟩ hl.sort (fun h4 he => (hn h4 he).elim)
  · exact cookieOf_sort (hB w' hb) (by omega) ⟨hE _ _ hb hg.e1, hE _ _ hb hg.e11, hE _ _ hb hg.e12⟩ hl.sort (fun h4 he => (hn h4 he).elim)

set_option maxHeartbeats 1000000 in
set_option maxRecDepth 20000 in
theorem short_small0 {w : World} {ao : Option Addr} {c : Nat} (hF : Five w ao 0 c) :
    Calls Tryd.prog 8 #[.slice ao 0 c] w (IsTrue w) := by
  have HF := Lib.hid hF
  clear hF
  go_enter Tryd.func8, Tryd.ntmps8
  go_wp2_with fail
  go_quiet (fail)
  go_wp2_with fail
  have HL0 := Lib.hid (below_drewN (Below.refl w.heap.size w) nq)
  refine (HF.out.data _ HL0.out).mono ?_
  rintro e w1 ⟨rfl, hL1⟩
  have HL1 := Lib.hid (HL0.out.trans (hL1.mono HL0.out.size))
  clear hL1 HL0
  simp only [im0]
  go_wp2_with fail
  generalize hW2 : World.alloc w1 _ = w2
  have HL2 : Hid (Below w.heap.size w w2) := Lib.hid (by rw [← hW2]; exact HL1.out.alloc HL1.out.size _)
  clear hW2 HL1
  refine (HF.out.sack _ HL2.out).mono ?_
  rintro e w3 ⟨rfl, hL3⟩
  have HL3 := Lib.hid (HL2.out.trans (hL3.mono HL2.out.size))
  clear hL3 HL2
  simp only [imsk]
  go_wp2_with fail
  generalize hW4 : World.alloc w3 _ = w4
  have HL4 : Hid (Below w.heap.size w w4) := Lib.hid (by rw [← hW4]; exact HL3.out.alloc HL3.out.size _)
  clear hW4 HL3
  refine (HF.out.fwd _ HL4.out).mono ?_
  rintro e w5 ⟨rfl, hL5⟩
  have HL5 := Lib.hid (HL4.out.trans (hL5.mono HL4.out.size))
  clear hL5 HL4
  simp only [imfw]
  go_wp2_with fail
  generalize hW6 : World.alloc w5 _ = w6
  have HL6 : Hid (Below w.heap.size w w6) := Lib.hid (by rw [← hW6]; exact HL5.out.alloc HL5.out.size _)
  clear hW6 HL5
  refine (HF.out.shut _ HL6.out).mono ?_
  rintro e w7 ⟨rfl, hL7⟩
  have HL7 := Lib.hid (HL6.out.trans (hL7.mono HL6.out.size))
  clear hL7 HL6
  go_wp2_with fail
  refine (HF.out.ck _ HL7.out).mono ?_
  rintro e w8 ⟨a8, n8, c8, rfl, _, hL8⟩
  have HL8 := Lib.hid (HL7.out.trans (hL8.mono HL7.out.size))
  clear hL8 HL7
  go_wp2_with fail
  refine (one_any w8).mono ?_
  rintro e w9 ⟨a9, c9, rfl, hB9, hf9, hc9, hL9⟩
  have HE := Lib.hid (dataOf_one hB9)
  have HL9 := Lib.hid (HL8.out.trans (hL9.mono HL8.out.size))
  clear hB9 hf9 hL9 HL8
  go_wp2_with fail
  refine HE.out.mono ?_
  rintro e w10 ⟨a10, n10, c10, rfl, hB10, hL10⟩
  simp only [dataV]
  have HL10 := Lib.hid (HL9.out.trans (hL10.mono HL9.out.size))
  clear hB10 hL10 HL9
  go_wp2_with fail
  go_ret
  exact ⟨by simp, HL10.out.alloc HL10.out.size _⟩

set_option maxHeartbeats 1000000 in
set_option maxRecDepth 20000 in
theorem short_small1 {w : World} {ao : Option Addr} {c : Nat} (hF : Five w ao 1 c) :
    Calls Tryd.prog 8 #[.slice ao 1 c] w (IsTrue w) := by
  have HF := Lib.hid hF
  clear hF
  go_enter Tryd.func8, Tryd.ntmps8
  go_wp2_with fail
  go_quiet (fail)
  go_wp2_with fail
  have HL0 := Lib.hid (below_drewN (Below.refl w.heap.size w) nq)
  refine (HF.out.data _ HL0.out).mono ?_
  rintro e w1 ⟨rfl, hL1⟩
  have HL1 := Lib.hid (HL0.out.trans (hL1.mono HL0.out.size))
  clear hL1 HL0
  simp only [im0]
  go_wp2_with fail
  generalize hW2 : World.alloc w1 _ = w2
  have HL2 : Hid (Below w.heap.size w w2) := Lib.hid (by rw [← hW2]; exact HL1.out.alloc HL1.out.size _)
  clear hW2 HL1
  refine (HF.out.sack _ HL2.out).mono ?_
  rintro e w3 ⟨rfl, hL3⟩
  have HL3 := Lib.hid (HL2.out.trans (hL3.mono HL2.out.size))
  clear hL3 HL2
  simp only [imsk]
  go_wp2_with fail
  generalize hW4 : World.alloc w3 _ = w4
  have HL4 : Hid (Below w.heap.size w w4) := Lib.hid (by rw [← hW4]; exact HL3.out.alloc HL3.out.size _)
  clear hW4 HL3
  refine (HF.out.fwd _ HL4.out).mono ?_
  rintro e w5 ⟨rfl, hL5⟩
  have HL5 := Lib.hid (HL4.out.trans (hL5.mono HL4.out.size))
  clear hL5 HL4
  simp only [imfw]
  go_wp2_with fail
  generalize hW6 : World.alloc w5 _ = w6
  have HL6 : Hid (Below w.heap.size w w6) := Lib.hid (by rw [← hW6]; exact HL5.out.alloc HL5.out.size _)
  clear hW6 HL5
  refine (HF.out.shut _ HL6.out).mono ?_
  rintro e w7 ⟨rfl, hL7⟩
  have HL7 := Lib.hid (HL6.out.trans (hL7.mono HL6.out.size))
  clear hL7 HL6
  go_wp2_with fail
  refine (HF.out.ck _ HL7.out).mono ?_
  rintro e w8 ⟨a8, n8, c8, rfl, _, hL8⟩
  have HL8 := Lib.hid (HL7.out.trans (hL8.mono HL7.out.size))
  clear hL8 HL7
  go_wp2_with fail
  refine (one_any w8).mono ?_
  rintro e w9 ⟨a9, c9, rfl, hB9, hf9, hc9, hL9⟩
  have HE := Lib.hid (dataOf_one hB9)
  have HL9 := Lib.hid (HL8.out.trans (hL9.mono HL8.out.size))
  clear hB9 hf9 hL9 HL8
  go_wp2_with fail
  refine HE.out.mono ?_
  rintro e w10 ⟨a10, n10, c10, rfl, hB10, hL10⟩
  simp only [dataV]
  have HL10 := Lib.hid (HL9.out.trans (hL10.mono HL9.out.size))
  clear hB10 hL10 HL9
  go_wp2_with fail
  go_ret
  exact ⟨by simp, HL10.out.alloc HL10.out.size _⟩

set_option maxHeartbeats 1000000 in
set_option maxRecDepth 20000 in
theorem short_small2 {w : World} {ao : Option Addr} {c : Nat} (hF : Five w ao 2 c) :
    Calls Tryd.prog 8 #[.slice ao 2 c] w (IsTrue w) := by
  have HF := Lib.hid hF
  clear hF
  go_enter Tryd.func8, Tryd.ntmps8
  go_wp2_with fail
  go_quiet (fail)
  go_wp2_with fail
  have HL0 := Lib.hid (below_drewN (Below.refl w.heap.size w) nq)
  refine (HF.out.data _ HL0.out).mono ?_
  rintro e w1 ⟨rfl, hL1⟩
  have HL1 := Lib.hid (HL0.out.trans (hL1.mono HL0.out.size))
  clear hL1 HL0
  simp only [im0]
  go_wp2_with fail
  generalize hW2 : World.alloc w1 _ = w2
  have HL2 : Hid (Below w.heap.size w w2) := Lib.hid (by rw [← hW2]; exact HL1.out.alloc HL1.out.size _)
  clear hW2 HL1
  refine (HF.out.sack _ HL2.out).mono ?_
  rintro e w3 ⟨rfl, hL3⟩
  have HL3 := Lib.hid (HL2.out.trans (hL3.mono HL2.out.size))
  clear hL3 HL2
  simp only [imsk]
  go_wp2_with fail
  generalize hW4 : World.alloc w3 _ = w4
  have HL4 : Hid (Below w.heap.size w w4) := Lib.hid (by rw [← hW4]; exact HL3.out.alloc HL3.out.size _)
  clear hW4 HL3
  refine (HF.out.fwd _ HL4.out).mono ?_
  rintro e w5 ⟨rfl, hL5⟩
  have HL5 := Lib.hid (HL4.out.trans (hL5.mono HL4.out.size))
  clear hL5 HL4
  simp only [imfw]
  go_wp2_with fail
  generalize hW6 : World.alloc w5 _ = w6
  have HL6 : Hid (Below w.heap.size w w6) := Lib.hid (by rw [← hW6]; exact HL5.out.alloc HL5.out.size _)
  clear hW6 HL5
  refine (HF.out.shut _ HL6.out).mono ?_
  rintro e w7 ⟨rfl, hL7⟩
  have HL7 := Lib.hid (HL6.out.trans (hL7.mono HL6.out.size))
  clear hL7 HL6
  go_wp2_with fail
  refine (HF.out.ck _ HL7.out).mono ?_
  rintro e w8 ⟨a8, n8, c8, rfl, _, hL8⟩
  have HL8 := Lib.hid (HL7.out.trans (hL8.mono HL7.out.size))
  clear hL8 HL7
  go_wp2_with fail
  refine (one_any w8).mono ?_
  rintro e w9 ⟨a9, c9, rfl, hB9, hf9, hc9, hL9⟩
  have HE := Lib.hid (dataOf_one hB9)
  have HL9 := Lib.hid (HL8.out.trans (hL9.mono HL8.out.size))
  clear hB9 hf9 hL9 HL8
  go_wp2_with fail
  refine HE.out.mono ?_
  rintro e w10 ⟨a10, n10, c10, rfl, hB10, hL10⟩
  simp only [dataV]
  have HL10 := Lib.hid (HL9.out.trans (hL10.mono HL9.out.size))
  clear hB10 hL10 HL9
  go_wp2_with fail
  go_ret
  exact ⟨by simp, HL10.out.alloc HL10.out.size _⟩

set_option maxHeartbeats 1000000 in
set_option maxRecDepth 20000 in
theorem short_small3 {w : World} {ao : Option Addr} {c : Nat} (hF : Five w ao 3 c) :
    Calls Tryd.prog 8 #[.slice ao 3 c] w (IsTrue w) := by
  have HF := Lib.hid hF
  clear hF
  go_enter Tryd.func8, Tryd.ntmps8
  go_wp2_with fail
  go_quiet (fail)
  go_wp2_with fail
  have HL0 := Lib.hid (below_drewN (Below.refl w.heap.size w) nq)
  refine (HF.out.data _ HL0.out).mono ?_
  rintro e w1 ⟨rfl, hL1⟩
  have HL1 := Lib.hid (HL0.out.trans (hL1.mono HL0.out.size))
  clear hL1 HL0
  simp only [im0]
  go_wp2_with fail
  generalize hW2 : World.alloc w1 _ = w2
  have HL2 : Hid (Below w.heap.size w w2) := Lib.hid (by rw [← hW2]; exact HL1.out.alloc HL1.out.size _)
  clear hW2 HL1
  refine (HF.out.sack _ HL2.out).mono ?_
  rintro e w3 ⟨rfl, hL3⟩
  have HL3 := Lib.hid (HL2.out.trans (hL3.mono HL2.out.size))
  clear hL3 HL2
  simp only [imsk]
  go_wp2_with fail
  generalize hW4 : World.alloc w3 _ = w4
  have HL4 : Hid (Below w.heap.size w w4) := Lib.hid (by rw [← hW4]; exact HL3.out.alloc HL3.out.size _)
  clear hW4 HL3
  refine (HF.out.fwd _ HL4.out).mono ?_
  rintro e w5 ⟨rfl, hL5⟩
  have HL5 := Lib.hid (HL4.out.trans (hL5.mono HL4.out.size))
  clear hL5 HL4
  simp only [imfw]
  go_wp2_with fail
  generalize hW6 : World.alloc w5 _ = w6
  have HL6 : Hid (Below w.heap.size w w6) := Lib.hid (by rw [← hW6]; exact HL5.out.alloc HL5.out.size _)
  clear hW6 HL5
  refine (HF.out.shut _ HL6.out).mono ?_
  rintro e w7 ⟨rfl, hL7⟩
  have HL7 := Lib.hid (HL6.out.trans (hL7.mono HL6.out.size))
  clear hL7 HL6
  go_wp2_with fail
  refine (HF.out.ck _ HL7.out).mono ?_
  rintro e w8 ⟨a8, n8, c8, rfl, _, hL8⟩
  have HL8 := Lib.hid (HL7.out.trans (hL8.mono HL7.out.size))
  clear hL8 HL7
  go_wp2_with fail
  refine (one_any w8).mono ?_
  rintro e w9 ⟨a9, c9, rfl, hB9, hf9, hc9, hL9⟩
  have HE := Lib.hid (dataOf_one hB9)
  have HL9 := Lib.hid (HL8.out.trans (hL9.mono HL8.out.size))
  clear hB9 hf9 hL9 HL8
  go_wp2_with fail
  refine HE.out.mono ?_
  rintro e w10 ⟨a10, n10, c10, rfl, hB10, hL10⟩
  simp only [dataV]
  have HL10 := Lib.hid (HL9.out.trans (hL10.mono HL9.out.size))
  clear hB10 hL10 HL9
  go_wp2_with fail
  go_ret
  exact ⟨by simp, HL10.out.alloc HL10.out.size _⟩

set_option maxHeartbeats 1000000 in
set_option maxRecDepth 20000 in
theorem short_more {w : World} {b off n c : Nat} {l : List Int} (h : BytesAt w (some ⟨b, off, none⟩) n c l) (hs : n ≤ 4096) (h4 : 4 ≤ n) (hw : (n : Int) < be2 l 2) (hF : Five w (some ⟨b, off, none⟩) n c) :
    Calls Tryd.prog 8 #[.slice (some ⟨b, off, none⟩) n c] w (IsTrue w) := by
  obtain ⟨x2, e2⟩ : ∃ x, x = l.getD 2 0 := ⟨_, rfl⟩
  obtain ⟨x3, e3⟩ : ∃ x, x = l.getD 3 0 := ⟨_, rfl⟩
  have b2 := h.byte 2; have b3 := h.byte 3
  have g2 : w.cell? ⟨b, off + 2, none⟩ = some (.int .u8 x2) := by rw [e2]; exact h.cell _ rfl 2 (by omega)
  have g3 : w.cell? ⟨b, off + 3, none⟩ = some (.int .u8 x3) := by rw [e3]; exact h.cell _ rfl 3 (by omega)
  rw [← e2] at b2; rw [← e3] at b3
  have hle : ¬ 256 * x2 + x3 ≤ n := by unfold be2 at hw; rw [← e2, ← e3] at hw; omega
  obtain ⟨b2l, b2r⟩ := b2; obtain ⟨b3l, b3r⟩ := b3
  have n4 : (4 : Int) ≤ n := by omega
  have n2 : (2 : Int) < n := by omega
  have n3 : (3 : Int) < n := by omega
  have nb : (n : Int) ≤ 4096 := by omega
  have ns : (n : Int) ≤ 2147483647 := by omega
  have w2 := wraps_i64 x2 (by omega) (by omega)
  have w3 := wraps_i64 x3 (by omega) (by omega)
  have w4 := wraps_i64 (256 * x2) (by omega) (by omega)
  have w5 := wraps_i64 (256 * x2 + x3) (by omega) (by omega)
  have HF := Lib.hid hF
  clear h hw e2 e3 hF
  go_enter Tryd.func8, Tryd.ntmps8
  go_wp2_with fail
  have hle' : ¬ 256 * x2 + x3 ≤ n := by omega
  go_quiet (fail)
  go_wp2_with fail
  have HL0 := Lib.hid (below_drewN (Below.refl w.heap.size w) nq)
  clear g2 g3
  refine (HF.out.data _ HL0.out).mono ?_
  rintro e w1 ⟨rfl, hL1⟩
  have HL1 := Lib.hid (HL0.out.trans (hL1.mono HL0.out.size))
  clear hL1 HL0
  simp only [im0]
  go_wp2_with fail
  generalize hW2 : World.alloc w1 _ = w2
  have HL2 : Hid (Below w.heap.size w w2) := Lib.hid (by rw [← hW2]; exact HL1.out.alloc HL1.out.size _)
  clear hW2 HL1
  refine (HF.out.sack _ HL2.out).mono ?_
  rintro e w3 ⟨rfl, hL3⟩
  have HL3 := Lib.hid (HL2.out.trans (hL3.mono HL2.out.size))
  clear hL3 HL2
  simp only [imsk]
  go_wp2_with fail
  generalize hW4 : World.alloc w3 _ = w4
  have HL4 : Hid (Below w.heap.size w w4) := Lib.hid (by rw [← hW4]; exact HL3.out.alloc HL3.out.size _)
  clear hW4 HL3
  refine (HF.out.fwd _ HL4.out).mono ?_
  rintro e w5 ⟨rfl, hL5⟩
  have HL5 := Lib.hid (HL4.out.trans (hL5.mono HL4.out.size))
  clear hL5 HL4
  simp only [imfw]
  go_wp2_with fail
  generalize hW6 : World.alloc w5 _ = w6
  have HL6 : Hid (Below w.heap.size w w6) := Lib.hid (by rw [← hW6]; exact HL5.out.alloc HL5.out.size _)
  clear hW6 HL5
  refine (HF.out.shut _ HL6.out).mono ?_
  rintro e w7 ⟨rfl, hL7⟩
  have HL7 := Lib.hid (HL6.out.trans (hL7.mono HL6.out.size))
  clear hL7 HL6
  go_wp2_with fail
  refine (HF.out.ck _ HL7.out).mono ?_
  rintro e w8 ⟨a8, n8, c8, rfl, _, hL8⟩
  have HL8 := Lib.hid (HL7.out.trans (hL8.mono HL7.out.size))
  clear hL8 HL7
  go_wp2_with fail
  refine (one_any w8).mono ?_
  rintro e w9 ⟨a9, c9, rfl, hB9, hf9, hc9, hL9⟩
  have HE := Lib.hid (dataOf_one hB9)
  have HL9 := Lib.hid (HL8.out.trans (hL9.mono HL8.out.size))
  clear hB9 hf9 hL9 HL8
  go_wp2_with fail
  refine HE.out.mono ?_
  rintro e w10 ⟨a10, n10, c10, rfl, hB10, hL10⟩
  simp only [dataV]
  have HL10 := Lib.hid (HL9.out.trans (hL10.mono HL9.out.size))
  clear hB10 hL10 HL9
  go_wp2_with fail
  go_ret
  exact ⟨by simp, HL10.out.alloc HL10.out.size _⟩

/-- FnShort, for every input. -/
theorem short_all {w : World} {ao : Option Addr} {n c : Nat} {l : List Int} (h : BytesAt w ao n c l) (hc : c ≤ 9223372036854775807) (hg : ShGlobs w) :
    Calls Tryd.prog 8 #[.slice ao n c] w (IsTrue w) := by
  by_cases hs : n ≤ 2147483647
  · by_cases hb : n ≤ 4096
    · by_cases h4 : n < 4
      · have hF := five h hb hg (.inl (by rw [h.len]; exact h4))
        obtain rfl | rfl | rfl | rfl : n = 0 ∨ n = 1 ∨ n = 2 ∨ n = 3 := by omega
        · exact short_small0 hF
        · exact short_small1 hF
        · exact short_small2 hF
        · exact short_small3 hF
      · obtain ⟨b, off, rfl, _, _⟩ := h.open (by omega)
        by_cases hw : be2 l 2 ≤ n
        · exact short_not h hb (by omega) hw
        · exact short_more h hb (by omega) (by omega) (five h hb hg (.inr ⟨by rw [h.len]; omega, by rw [h.len]; omega⟩))
    · exact short_big w ao n c (by omega) (by omega)
  · exact short_great w ao n c (by omega)
end Go.Proofs.YtnajpmdnadjipaaDoor
