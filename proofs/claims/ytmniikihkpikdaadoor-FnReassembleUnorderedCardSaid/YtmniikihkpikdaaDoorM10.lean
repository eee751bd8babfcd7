/- Part of the proofs of the three laws on reassembly: reads from a queue; conditions: as each theorem states. -/
import Derived.Test.YtmniikihkpikdaaDoorM9
import Derived.Laws.CopyOwn
namespace Go.Proofs.YtmniikihkpikdaaDoor
open Go.RowKit
set_option linter.unusedVariables false

/-- The count of bytes goes down. -/
def SubBack (w : World) (q : Nat) (e : Ending) (w' : World) : Prop := e = .returned (.tuple #[]) ∧ ∃ nb : Int, 0 ≤ nb ∧ nb ≤ 100000000 ∧ w' = w.setCell ⟨q, 11, none⟩ (.int .u64 nb)
set_option maxHeartbeats 1000000 in
theorem sub_any {w : World} {q : Nat} {nb n : Int} (h : w.cell? ⟨q, 11, none⟩ = some (.int .u64 nb)) (hz : w.frozen? ⟨q, 11, none⟩ = false) (hnb : 0 ≤ nb ∧ nb ≤ 100000000) (hn : 0 ≤ n ∧ n ≤ 100000000) :
    Calls Tryd.prog 22 #[ptr q, .int .i64 n] w (SubBack w q) := by
  obtain ⟨hnb0, hnb1⟩ := hnb
  obtain ⟨hn0, hn1⟩ := hn
  have hload := run_call_load (P := Tryd.prog) (f := 40) Tryd.func40 (by kernel_rfl) (by kernel_rfl) (by kernel_rfl) .u64 (by kernel_rfl) (a := ⟨q, 11, none⟩) (w := w) h
  have wnb : IntKind.i64.wrap nb = nb := wraps_i64 _ hnb0 (by omega)
  have wnu : IntKind.u64.wrap n = n := by rw [IntKind.wrap_u64]; omega
  unfold ptr
  by_cases hle : n ≤ nb
  · have wneg : IntKind.u64.wrap (-n) = (18446744073709551616 - n) % 18446744073709551616 := by rw [IntKind.wrap_u64]; omega
    obtain ⟨m, hm⟩ : ∃ m, m = (18446744073709551616 - n) % 18446744073709551616 := ⟨_, rfl⟩
    rw [← hm] at wneg
    have hadd := run_call_add (P := Tryd.prog) (f := 30) Tryd.func30 (by kernel_rfl) (by kernel_rfl) (by kernel_rfl) .u64 (by kernel_rfl) (y := m) (s := nb - n) (a := ⟨q, 11, none⟩) (w := w) h hz (by
      have : IntKind.u64.wrap (nb + m) = nb - n := by rw [IntKind.wrap_u64, hm]; omega
      simp [go_sem, this])
    clear hm
    go_enter Tryd.func22, Tryd.ntmps22
    go_wp2_with fail
    go_end0
    exact ⟨rfl, _, by omega, by omega, rfl⟩
  · have hstore := run_call_store (P := Tryd.prog) (f := 41) Tryd.func41 (by kernel_rfl) (by kernel_rfl) (by kernel_rfl) (by kernel_rfl) (a := ⟨q, 11, none⟩) (k := .u64) (y := 0) (w := w) h hz
    have hle' : nb < n := by omega
    go_enter Tryd.func22, Tryd.ntmps22
    go_wp2_with fail
    go_end0
    exact ⟨rfl, 0, by omega, by omega, rfl⟩

def GlobErr (w : World) (g : Nat) : Prop := ∃ u v, w.cell? ⟨g, 0, none⟩ = some (.iface u v)
theorem GlobErr.mod {S : Nat → Prop} {w w' : World} {g : Nat} (h : GlobErr w g) (hM : Mod S w w') (hS : ¬ S g) : GlobErr w' g := by
  obtain ⟨u, v, h⟩ := h
  exact ⟨u, v, by rw [← h]; exact hM.cell (lt_of_cell h) hS⟩
/-- A queue from which is read. -/
structure RSt where
  q : Nat
  ao : Option Addr
  go : Nat
  o : Nat
  c : Nat
  ord : List SetSt
  nssn : Int
  v4 : Value
  v5 : Value
  v6 : Value
  v7 : Value
  v8 : Value
  v9 : Value
  nb : Int
def rCells (si : Int) (x : RSt) : Array Value := #[.int .u16 si, .int .u16 x.nssn, .int .u32 0, .slice x.ao x.ord.length x.c, x.v4, x.v5, x.v6, x.v7, x.v8, x.v9, .bool false, .int .u64 x.nb, .int .u32 0]
structure RAt (w : World) (B : Nat) (f si : Int) (x : RSt) : Prop where
  blk : w.heap[x.q]? = some (.cells (rCells si x) 64 (0, 0))
  row : ∀ i t, x.ord[i]? = some t → x.ao = some ⟨x.go, x.o, none⟩ ∧ w.cell? ⟨x.go, x.o + i, none⟩ = some (ptr t.s)
  rty : ∃ cs, w.heap[x.go]? = some (.cells cs 72 (0, 0))
  sets : ∀ t ∈ x.ord, SetAt w B f si t
  cap : x.ord.length ≤ x.c
  len : x.ord.length ≤ 1000
  nb : 0 ≤ x.nb ∧ x.nb ≤ 100000000
  ns : 0 ≤ x.nssn ∧ x.nssn < 2000
theorem RAt.cell {w : World} {B : Nat} {f si : Int} {x : RSt} (h : RAt w B f si x) (i : Nat) : w.cell? ⟨x.q, i, none⟩ = (rCells si x)[i]? := cell_of_block h.blk
theorem RAt.frozen {w : World} {B : Nat} {f si : Int} {x : RSt} (h : RAt w B f si x) (i : Nat) : w.frozen? ⟨x.q, i, none⟩ = false := frozen_of_block h.blk
theorem RAt.of_q {w : World} {B : Nat} {f si : Int} {x : QSt} (h : QAt w B f si x) (hn : 0 ≤ x.nssn ∧ x.nssn < 2000) : RAt w B f si ⟨x.q, some ⟨x.go, 0, none⟩, x.go, 0, x.co, x.ord, x.nssn, x.v4, x.v5, x.v6, x.v7, x.v8, x.v9, x.nb⟩ := by
  obtain ⟨_, cs, hg, hnc, _⟩ := own_row h.row
  refine ⟨h.blk, fun i t ht => ⟨rfl, ?_⟩, ⟨cs, hg⟩, h.sets, hnc, h.len, h.nb, hn⟩
  show w.cell? ⟨x.go, 0 + i, none⟩ = _
  rw [Nat.zero_add]
  exact own_cell h.row (by rw [List.getElem?_map, ht]; rfl)
theorem CkAt.mod2 {S : Nat → Prop} {w w' : World} {f si : Int} {c : Ck} (h : CkAt w f si c) (hM : Mod S w w') (hb : ¬ S c.b) (hu : ¬ S c.ug) : CkAt w' f si c := by
  obtain ⟨cur, hc, ht⟩ := h.usr
  exact ⟨(hM.block _ h.lt hb).trans h.blk, ⟨cur, (hM.block _ (Array.getElem?_eq_some_iff.1 hc).1 hu).trans hc, ht⟩, h.cap, h.small, h.pb, h.kb⟩
theorem RAt.same {w w' : World} {B : Nat} {f si : Int} {x : RSt} (h : RAt w B f si x) (hM : Mod (fun _ => False) w w') : RAt w' B f si x := by
  obtain ⟨cs, hc⟩ := h.rty
  refine ⟨(hM.block _ (Array.getElem?_eq_some_iff.1 h.blk).1 (fun h => h)).trans h.blk, fun i t ht => ⟨(h.row i t ht).1, ?_⟩, ⟨cs, (hM.block _ (Array.getElem?_eq_some_iff.1 hc).1 (fun h => h)).trans hc⟩,
    sets_mod h.sets hM (Kp.same B hM) (fun _ _ => ⟨fun h => h, fun h => h⟩), h.cap, h.len, h.nb, h.ns⟩
  have := (h.row i t ht).2
  rw [← this]; exact hM.cell (lt_of_cell this) (fun h => h)

/-- Nothing is read. -/
def NoRead (w : World) (e : Ending) (w' : World) : Prop := (∃ u v, e = .returned (.tuple #[.int .i64 0, .int .u32 0, .iface u v])) ∧ Same w w'
set_option maxHeartbeats 2000000 in
set_option maxRecDepth 20000 in
theorem read_none {w : World} {B : Nat} {f si : Int} {x : RSt} {buf : Value} {a4 : Option Addr} {c4 : Nat} (h : RAt w B f si x) (hg : GlobErr w 0) (h4 : x.v4 = .slice a4 0 c4) (hx : x.ord = [] ∨ ∃ t r, x.ord = t :: r ∧ (¬ Compl t.l ∨ (x.nssn < t.k ∧ Compl t.l))) :
    Calls Tryd.prog 18 #[ptr x.q, buf] w (NoRead w) := by
  obtain ⟨u, v, g0⟩ := hg
  have q10 : w.cell? ⟨x.q, 10, none⟩ = some (.bool false) := h.cell 10
  have q4 : w.cell? ⟨x.q, 4, none⟩ = some (.slice a4 0 c4) := by rw [h.cell 4, ← h4]; rfl
  have q3 : w.cell? ⟨x.q, 3, none⟩ = some (.slice x.ao x.ord.length x.c) := h.cell 3
  have q1 : w.cell? ⟨x.q, 1, none⟩ = some (.int .u16 x.nssn) := h.cell 1
  obtain ⟨q, hq⟩ : ∃ q, q = x.q := ⟨_, rfl⟩
  rw [← hq] at q10 q4 q3 q1 ⊢
  unfold ptr
  rcases hx with h0 | ⟨t, r, h0, hcase⟩
  · rw [h0] at q3
    have q3 : w.cell? ⟨q, 3, none⟩ = some (.slice x.ao 0 x.c) := q3
    clear h hq h0 h4
    go_enter Tryd.func18, Tryd.ntmps18
    go_wp2_with fail
    go_region_law (fail)
    all_goals (go_wp2_with fail; go_ret3; exact ⟨⟨u, v, rfl⟩, (Same.refl w).drewN 1⟩)
  · have hS := h.sets t (by rw [h0]; simp)
    have hrow := h.row 0 t (by rw [h0]; rfl)
    have hl : x.ord.length ≤ 1000 := h.len
    have hcap := h.cap
    rw [hrow.1] at q3
    have hlp : 0 < x.ord.length := by rw [h0]; simp
    obtain ⟨m, hm⟩ : ∃ m, m = x.ord.length := ⟨_, rfl⟩
    rw [← hm] at q3 hlp hl hcap
    have g00 : w.cell? ⟨x.go, x.o, none⟩ = some (.pointer (some ⟨t.s, 0, none⟩)) := hrow.2
    have hC := Lib.hid (isCompl_any hS.is (by have := hS.len; omega))
    unfold ptr at hC
    have ts0 : w.cell? ⟨t.s, 0, none⟩ = some (.int .u16 t.k) := by rw [cell_of_block hS.blk]; rfl
    have hGT := fun w => gt16 t.k x.nssn w (by have := hS.kb; omega) (by have := h.ns; omega)
    clear h hq h4 h0 hS hrow hm
    rcases hcase with hcase | ⟨hlt, hcase⟩
    · go_enter Tryd.func18, Tryd.ntmps18
      go_wp2_with fail
      refine hC.out.mono ?_
      rintro e w1 ⟨⟨b, rfl, hb⟩, hw1⟩
      obtain rfl := hw1.symm
      obtain rfl : b = false := by cases b with | false => rfl | true => exact absurd (hb.1 rfl) hcase
      clear hb hw1
      go_wp2_with fail
      go_region_law (fail)
      all_goals (go_wp2_with fail; go_ret3; exact ⟨⟨u, v, rfl⟩, (Same.refl w).drewN 1⟩)
    · rw [show decide (x.nssn < t.k) = true from decide_eq_true hlt] at hGT
      go_enter Tryd.func18, Tryd.ntmps18
      go_wp2_with fail
      refine hC.out.mono ?_
      rintro e w1 ⟨⟨b, rfl, hb⟩, hw1⟩
      obtain rfl := hw1.symm
      obtain rfl : b = true := hb.2 hcase
      clear hb hw1
      go_wp2_with fail
      go_quiet (exact Calls.quiet_of_same (hGT _))
      go_wp2_with fail
      go_region_law (fail)
      all_goals (go_wp2_with fail; go_ret3; exact ⟨⟨u, v, rfl⟩, ((Same.refl w).drewN nq).drewN 1⟩)
end Go.Proofs.YtmniikihkpikdaaDoor
