/- Part of the proof of laws.FnReceivedAny: a number is pushed to the queue; conditions: as each theorem states. -/
import Derived.Test.YthnalicohdmlfaaDoorR4
namespace Go.Proofs.YthnalicohdmlfaaDoor
open Go.RowKit
set_option linter.unusedVariables false

theorem QAt.same {w w' : World} {q mb : Nat} {f : Int} {R : Nat → Bool} {C M : Nat} {m : Nat → Nat} {dv : Value} (h : QAt w q mb f R C M m dv) (e : w'.heap = w.heap) : QAt w' q mb f R C M m dv :=
  ⟨by rw [e]; exact h.blk, by rw [e]; exact h.mask, h.ne, h.que⟩

/-- The queue of one run: nothing ahead of w0's end has turned. -/
structure QSt (w0 w : World) (q mb B : Nat) (f : Int) (R : Nat → Bool) (C M : Nat) (m : Nat → Nat) (dv : Value) (dl : List Int) : Prop where
  at_ : QAt w q mb f R C M m dv
  row : w.ownsRow B 22 1 dv dl.length (dl.map (Value.int .u32))
  below : Below w0.heap.size w0 w
  q0 : w0.heap.size ≤ q
  m0 : w0.heap.size ≤ mb
  q1 : q < B
  m1 : mb < B
  b1 : B ≤ w.heap.size
theorem QSt.drewN {w0 w : World} {q mb B : Nat} {f : Int} {R : Nat → Bool} {C M : Nat} {m : Nat → Nat} {dv : Value} {dl : List Int} (h : QSt w0 w q mb B f R C M m dv dl) (n : Nat) : QSt w0 (w.drewN n) q mb B f R C M m dv dl :=
  ⟨h.at_.same rfl, h.row, below_drewN h.below n, h.q0, h.m0, h.q1, h.m1, h.b1⟩

theorem QSt.dup {w0 w w3 : World} {q mb B : Nat} {f : Int} {R : Nat → Bool} {C M : Nat} {m : Nat → Nat} {dv : Value} {dl : List Int} (h : QSt w0 w q mb B f R C M m dv dl) {o : Obj} {va : Option Addr} {vc : Nat} {t : Int}
    (hown : w3.ownsRow B 22 1 (.slice va (dl.length + 1) vc) (dl.length + 1) (dl.map (Value.int .u32) ++ [.int .u32 t])) (hg : (w.alloc o).grownBy w3 dv.ownBlock) :
    QSt w0 (w3.setCell ⟨q, 3, none⟩ (.slice va (dl.length + 1) vc)) q mb B f R C M m (.slice va (dl.length + 1) vc) (dl ++ [t]) := by
  have hq1 := h.q1; have hm1 := h.m1; have hb1 := h.b1; have hq0 := h.q0; have hm0 := h.m0
  have hlt : ∀ g, dv.ownBlock = some g → B ≤ g := fun g e => (h.row.lt g e).1
  have e1 : w3.heap[q]? = w.heap[q]? := (hg.block q (by simp; omega) (fun e => by have := hlt _ e.symm; omega)).trans (heap_alloc_old w o (by omega))
  have e2 : w3.heap[mb]? = w.heap[mb]? := (hg.block mb (by simp; omega) (fun e => by have := hlt _ e.symm; omega)).trans (heap_alloc_old w o (by omega))
  obtain ⟨ms, hb, hs, hc⟩ := h.at_.mask
  refine ⟨⟨heap_setCell_same (e1.trans h.at_.blk) _, ⟨ms, (heap_setCell_other (show mb ≠ q from fun e => h.at_.ne e.symm) _).trans (e2.trans hb), hs, hc⟩, h.at_.ne, h.at_.que⟩, ?_, ?_, hq0, hm0, hq1, hm1, ?_⟩
  · have := own_set (i := 3) (vn := .slice va (dl.length + 1) vc) hown hq1
    simpa using this
  · have b3 : Below w0.heap.size w0 w3 := (h.below.alloc h.below.size o).grown hg (by have := h.below.size; simp; omega) (fun k hk => by have := hlt k hk; omega)
    exact b3.trans (((Mod.refl (· = q) w3).set1 _).below b3.size (fun k hk => by omega))
  · have := hg.size
    have h2 : (w3.setCell ⟨q, 3, none⟩ (.slice va (dl.length + 1) vc)).heap.size = w3.heap.size := by simp [World.setCell]
    simp at this; omega

def putR (R : Nat → Bool) (p : Nat) : Nat → Bool := fun k => decide (k = p) || R k
def putM (f : Int) (m : Nat → Nat) (p : Nat) : Nat → Nat := fun i => if i = ix f p then m i ||| 2 ^ ofs f p else m i
theorem Que.put {R : Nat → Bool} {C M : Nat} {f : Int} {m : Nat → Nat} (h : Que R C M f m) (p : Nat) (hC : C < p) (hp : p ≤ 1000) (hR : R p = false) : Que (putR R p) C (max M p) f (putM f m p) := by
  have hm := h.most; have hl := h.lo
  refine ⟨fun k hk => ?_, by omega, by omega, fun k h1 h2 => ?_, .inr ?_, fun k h1 h2 => ?_, fun i => ?_⟩
  · unfold putR at hk
    simp only [Bool.or_eq_true, decide_eq_true_eq] at hk
    rcases hk with rfl | hk
    · omega
    · have := h.top k hk; omega
  · unfold putR; rw [h.run k h1 h2]; simp
  · unfold putR
    by_cases hMp : M ≤ p
    · rw [Nat.max_eq_right hMp]; simp
    · rw [Nat.max_eq_left (by omega)]
      rcases h.last with h0 | h0
      · omega
      · rw [h0]; simp
  · unfold putM putR
    by_cases hk : k = p
    · subst hk
      rw [if_pos rfl, Nat.testBit_or, Nat.testBit_two_pow_self]; simp
    · have ha := place_apart f k p (by omega) (by omega)
      by_cases hi : ix f k = ix f p
      · have ho : ofs f p ≠ ofs f k := fun e => by rcases ha with ha | ha; exact ha hi; exact ha e.symm
        rw [if_pos hi, Nat.testBit_or, Nat.testBit_two_pow, h.bit k h1 h2]
        simp [ho, hk]
      · rw [if_neg hi, h.bit k h1 h2]; simp [hk]
  · unfold putM
    split
    · exact Nat.or_lt_two_pow (n := 64) (h.word i) (Nat.pow_lt_pow_right (by decide) (by unfold ofs; omega))
    · exact h.word i
theorem cnt_put {R : Nat → Bool} {C p : Nat} (hC : C < p) (hp : p ≤ 1000) (hR : R p = false) : cnt (putR R p) C = cnt R C + 1 := by
  unfold cnt
  rw [countP_flip (k := p) (p := fun k => decide (C < k) && R k) (by simp [hR]) (by simp [putR, hC]) (fun i hi => by simp [putR, hi]) 1001, if_pos (by omega)]
theorem or_bit (v o : Nat) (hv : v < 18446744073709551616) (ho : o < 64) : bits .or .u64 (v : Int) (IntKind.u64.wrap (2 ^ o)) = ((v ||| 2 ^ o : Nat) : Int) := by
  have h2 : (2 : Nat) ^ o < 18446744073709551616 := Nat.pow_lt_pow_right (a := 2) (by decide) ho
  have e : IntKind.u64.wrap ((2 : Int) ^ o) = ((2 ^ o : Nat) : Int) := by
    rw [show ((2 : Int) ^ o) = ((2 ^ o : Nat) : Int) from by simp, IntKind.wrap_u64]
    generalize 2 ^ o = z at h2
    omega
  rw [e, bits_or_u64_nat v _ hv h2]

set_option maxHeartbeats 1000000 in
set_option maxRecDepth 20000 in
theorem push_dup {w0 w : World} {q mb B : Nat} {f : Int} {R : Nat → Bool} {C M : Nat} {m : Nat → Nat} {dv : Value} {dl : List Int} (h : QSt w0 w q mb B f R C M m dv dl) (p : Int) (hp : -1000 ≤ p ∧ p ≤ 1000)
    (hd : p ≤ C ∨ R p.toNat = true) (hdl : dl.length ≤ 100000) :
    Calls Tryd.prog 12 #[.pointer (some ⟨q, 0, none⟩), .int .u32 (U f p)] w fun e w' => e = .returned (.bool false) ∧ ∃ dv', QSt w0 w' q mb B f R C M m dv' (dl ++ [U f p]) := by
  have hM := h.at_.que.most; have hC := h.at_.que.lo
  have g3 : w.cell? ⟨q, 3, none⟩ = some dv := by rw [cell_of_block h.at_.blk]; rfl
  have g4 : w.cell? ⟨q, 4, none⟩ = some (.int .u32 40000) := by rw [cell_of_block h.at_.blk]; rfl
  have g5 : w.cell? ⟨q, 5, none⟩ = some (.int .u32 (U f C)) := by rw [cell_of_block h.at_.blk]; rfl
  have f3 : w.frozen? ⟨q, 3, none⟩ = false := frozen_of_block h.at_.blk
  have hgt := fun w' => gt_any (U f p) (U f (C + 40000)) w' (U_bound _ _) (U_bound _ _)
  simp only [gtB_U f p (C + 40000) (by omega), decide_eq_false (show ¬ (C : Int) + 40000 < p by omega)] at hgt
  have hwr : IntKind.u32.wrap (U f C + 40000) = U f (C + 40000) := by rw [IntKind.wrap_u32]; unfold U; omega
  have hlt := fun w' => lte_any (U f p) (U f C) w' (U_bound _ _) (U_bound _ _)
  simp only [lteB_U f p C (by omega)] at hlt
  have HH := Lib.hid (fun n => has_any (h.at_.same (w' := w.drewN n) rfl) p (by omega))
  have HG := Lib.hid hgt; have HL := Lib.hid hlt
  have HS := Lib.hid h
  obtain ⟨i0, hi, hz0, hzz1, hzz2⟩ := info_parts (show (Tryd.prog.info? 22).map (fun i => (i.zero, i.size, i.bytes)) = some (some (.int .u32 0), 1, 4) by kernel_rfl)
  obtain ⟨t, ht⟩ : ∃ t, t = U f p := ⟨_, rfl⟩
  obtain ⟨tc, htc⟩ : ∃ t, t = U f (C + 40000) := ⟨_, rfl⟩
  rw [← ht] at HG HL HH ⊢
  rw [← htc] at HG hwr
  have hb1 := h.b1
  clear h hgt hlt ht htc
  go_enter Tryd.func12, Tryd.ntmps12
  go_wp2_with fail
  go_quiet ((go_at_call 18; exact Calls.quiet_of_same (HG.out _)))
  go_wp2_with fail
  refine (HL.out _).mono ?_
  rintro e w1 ⟨rfl, rfl⟩
  by_cases hpC : p ≤ C
  · rw [decide_eq_true hpC]
    go_wp2_with (first | (at_builtin; refine wpList_append_any _ rfl _ _ 25 rfl B 22 i0 (.int .u32 0) 1 4 Tryd.underlying25 hi hz0 hzz1 hzz2 rfl (by decide) _ _ _ rfl ((HS.out.drewN nq).row.alloc _) ⟨w.heap.size, 0, none⟩ 1 1 [.int .u32 t] rfl ?c0 ?c1 ?c2 ?c3 ?c4 ?c5 ?_))
    case c0 => rfl
    case c1 => exact cell_one_new (w.drewN nq) (.int .u32 t) 22
    case c2 => simp [Value.oneCell']
    case c3 => unfold maxLen; omega
    case c4 => omega
    case c5 => simp; omega
    intro va vc w3 hown hgrow
    have hx3 := grown_cell ((HS.out.drewN nq).row.alloc (.cells #[.int .u32 t] 22)) (p := ⟨q, 3, none⟩) HS.out.q1 (cell_alloc (w := w.drewN nq) g3 _) hgrow
    have hy3 := grown_frozen ((HS.out.drewN nq).row.alloc (.cells #[.int .u32 t] 22)) (p := ⟨q, 3, none⟩) HS.out.q1 (cell_alloc (w := w.drewN nq) g3 _) ((frozen_alloc (w := w.drewN nq) (p := ⟨q, 3, none⟩) (lt_of_cell g3) _).trans f3) hgrow
    have HD := Lib.hid ((HS.out.drewN nq).dup (o := .cells #[.int .u32 t] 22) hown hgrow)
    clear hown hgrow
    go_wp2_with fail
    go_ret
    exact ⟨rfl, _, HD.out⟩
  · rw [decide_eq_false hpC]
    go_wp2_with fail
    refine (HH.out _).mono ?_
    rintro e w1 ⟨rfl, rfl⟩
    have hR : R p.toNat = true := by rcases hd with hd | hd; omega; exact hd
    rw [decide_eq_true (show (C : Int) < p by omega), hR, Bool.true_and]
    go_wp2_with (first | (at_builtin; refine wpList_append_any _ rfl _ _ 25 rfl B 22 i0 (.int .u32 0) 1 4 Tryd.underlying25 hi hz0 hzz1 hzz2 rfl (by decide) _ _ _ rfl ((HS.out.drewN nq).row.alloc _) ⟨w.heap.size, 0, none⟩ 1 1 [.int .u32 t] rfl ?c0 ?c1 ?c2 ?c3 ?c4 ?c5 ?_))
    case c0 => rfl
    case c1 => exact cell_one_new (w.drewN nq) (.int .u32 t) 22
    case c2 => simp [Value.oneCell']
    case c3 => unfold maxLen; omega
    case c4 => omega
    case c5 => simp; omega
    intro va vc w3 hown hgrow
    have hx3 := grown_cell ((HS.out.drewN nq).row.alloc (.cells #[.int .u32 t] 22)) (p := ⟨q, 3, none⟩) HS.out.q1 (cell_alloc (w := w.drewN nq) g3 _) hgrow
    have hy3 := grown_frozen ((HS.out.drewN nq).row.alloc (.cells #[.int .u32 t] 22)) (p := ⟨q, 3, none⟩) HS.out.q1 (cell_alloc (w := w.drewN nq) g3 _) ((frozen_alloc (w := w.drewN nq) (p := ⟨q, 3, none⟩) (lt_of_cell g3) _).trans f3) hgrow
    have HD := Lib.hid ((HS.out.drewN nq).dup (o := .cells #[.int .u32 t] 22) hown hgrow)
    clear hown hgrow
    go_wp2_with fail
    go_ret
    exact ⟨rfl, _, HD.out⟩
end Go.Proofs.YthnalicohdmlfaaDoor
