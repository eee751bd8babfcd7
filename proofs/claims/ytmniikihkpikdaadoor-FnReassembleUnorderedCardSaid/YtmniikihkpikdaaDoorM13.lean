/- Part of the proofs of the three laws on reassembly: a new queue, in whatever order its rows are made; conditions: as each theorem states. -/
import Derived.Test.YtmniikihkpikdaaDoorM12
import Derived.Carry
namespace Go.Proofs.YtmniikihkpikdaaDoor
open Go.RowKit
set_option linter.unusedVariables false

theorem wpOp_up {P : Program} {ops : Array Oper} {Q : Exit → Act → World → Prop} {i : Nat} {a : Act} {w : World} {K K' : Act → World → Prop} (h : ∀ a w, K a w → K' a w) (hh : wpOp P ops Q i K a w) : wpOp P ops Q i K' a w := by
  unfold wpOp at *
  split
  · exact h _ _ (by simpa [*] using hh)
  · rename_i o ho
    simp only [ho] at hh
    split
    · rename_i hw; simp only [hw, if_true] at hh; exact hh.imp (Oper.wp_mono h) id
    · rename_i hw; simp only [hw] at hh; exact h _ _ hh

/-- A region whose orders are many: what holds at each count of operations that are left. -/
theorem wpAny_down {P : Program} {md : Region.Mode} {ops : Array Oper} {Q : Exit → Act → World → Prop} (k : Nat) (R : Nat → Array Bool → Act → World → Prop) (h0 : ∀ listed a w, R 0 listed a w → wpAny P md ops Q k listed a w)
    (hs : ∀ n listed a w, R (n + 1) listed a w → Region.ready md ops listed ≠ [] ∧ ∀ i ∈ Region.ready md ops listed, wpOp P ops Q i (R n (listed.setIfInBounds i true)) a w) :
    ∀ n listed a w, R n listed a w → wpAny P md ops Q (k + n) listed a w
  | 0, listed, a, w, h => h0 listed a w h
  | n + 1, listed, a, w, h => by
    obtain ⟨h1, h2⟩ := hs n listed a w h
    refine ⟨fun h => absurd h h1, fun i hi => wpOp_up (fun a' w' h' => wpAny_down k R h0 hs n _ a' w' h') (h2 i hi)⟩

/-- A row that was made, of no element. -/
def Md (w : World) (B : Nat) (t : Value) (e : TypeId) : Prop := ∃ g, t = .slice (some ⟨g, 0, none⟩) 0 0 ∧ w.heap[g]? = some (.cells #[] e (0, 0)) ∧ B ≤ g
theorem Md.alloc {w : World} {B : Nat} {t : Value} {e : TypeId} (h : Md w B t e) (o : Obj) : Md (w.alloc o) B t e := by
  obtain ⟨g, h1, h2, h3⟩ := h
  exact ⟨g, h1, (heap_alloc_old w o (Array.getElem?_eq_some_iff.1 h2).1).trans h2, h3⟩
def Mp (t : Value) : Prop := ∃ g : Nat, t = .map (some g)

/-- What holds when n of the six rows and maps are still to be made. -/
def NqR (w0 : World) (si : Int) (n : Nat) (listed : Array Bool) (a : Act) (w : World) : Prop :=
  ∃ b1 b2 b3 b4 b5 b6 : Bool, listed = #[true, b1, b2, b3, b4, b5, b6, true, false, false, false] ∧ n = [b1, b2, b3, b4, b5, b6].countP (fun b => !b) ∧ Below w0.heap.size w0 w ∧
  ∃ t6 t7 t8 t9 t10 t11 : Value, a = { tmps := #[.int .u16 si, .int .u32 0, undef, undef, .pointer none, .int .u16 si, t6, t7, t8, t9, t10, t11, .int .u32 0, undef, undef], defers := [] } ∧
    (b1 = true → Md w w0.heap.size t6 72) ∧ (b2 = true → Md w w0.heap.size t7 72) ∧ (b3 = true → Md w w0.heap.size t8 73) ∧ (b4 = true → Md w w0.heap.size t9 73) ∧ (b5 = true → Mp t10) ∧ (b6 = true → Mp t11) ∧ (b1 = true → b2 = true → t6 ≠ t7)

theorem info72' : (Tryd.prog.info? 72).map (fun i => (i.zero, i.size, i.bytes)) = some (some (.pointer none), 1, 8) := by kernel_rfl
theorem info73' : (Tryd.prog.info? 73).map (fun i => (i.zero, i.size, i.bytes)) = some (some (.pointer none), 1, 8) := by kernel_rfl
theorem mk58 (w : World) : (Instr.makeSlice 58 (.int .i64 0) (.int .i64 0)).run Tryd.prog w = .ok (.slice (some ⟨w.heap.size, 0, none⟩) 0 0) (w.alloc (.cells #[] 72)) := by
  obtain ⟨i, hi, hz, hs, hb⟩ := info_parts info72'
  have := run_make (P := Tryd.prog) w 58 72 i _ (by kernel_rfl) hi hz .i64 .i64 0 0 (by omega) (Int.le_refl _) (by rw [hb]; omega) (by omega)
  rw [hs, Nat.mul_one, show madeCells (Value.pointer none).cells (Int.toNat 0) = #[] from Array.eq_empty_of_size_eq_zero (by simp [madeCells])] at this
  exact this
theorem mk59 (w : World) : (Instr.makeSlice 59 (.int .i64 0) (.int .i64 0)).run Tryd.prog w = .ok (.slice (some ⟨w.heap.size, 0, none⟩) 0 0) (w.alloc (.cells #[] 73)) := by
  obtain ⟨i, hi, hz, hs, hb⟩ := info_parts info73'
  have := run_make (P := Tryd.prog) w 59 73 i _ (by kernel_rfl) hi hz .i64 .i64 0 0 (by omega) (Int.le_refl _) (by rw [hb]; omega) (by omega)
  rw [hs, Nat.mul_one, show madeCells (Value.pointer none).cells (Int.toNat 0) = #[] from Array.eq_empty_of_size_eq_zero (by simp [madeCells])] at this
  exact this

theorem op_make {P : Program} {ops : Array Oper} {Q : Exit → Act → World → Prop} {i : Nat} {a : Act} {w w' : World} {K : Act → World → Prop} {o : Oper} {v : Value} {t : TypeId} {x y : Operand} (ho : ops[i]? = some o) (hg : o.guard = none) (hop : o.op = .makeSlice t x y)
    (hr : (Instr.makeSlice t (a.eval x) (a.eval y)).run P w = .ok v w') (h : K (a.put o.dst v) w') : wpOp P ops Q i K a w := by
  have hw : Region.wanted o (yielded ops a.tmps) = true := by simp [Region.wanted, hg]
  unfold wpOp
  rw [ho]
  simp only [hw, if_true]
  left
  unfold Oper.wp
  simp [execOp, hop, hr, Result.andThen]
  exact h
theorem op_map {P : Program} {ops : Array Oper} {Q : Exit → Act → World → Prop} {i : Nat} {a : Act} {w : World} {K : Act → World → Prop} {o : Oper} {t : TypeId} (ho : ops[i]? = some o) (hg : o.guard = none) (hop : o.op = .makeMap t none)
    (h : K (a.put o.dst (.map (some w.heap.size))) (w.alloc (.map #[] 0))) : wpOp P ops Q i K a w := by
  have hw : Region.wanted o (yielded ops a.tmps) = true := by simp [Region.wanted, hg]
  have hr := run_makeMap (P := P) t w
  unfold wpOp
  rw [ho]
  simp only [hw, if_true]
  left
  unfold Oper.wp
  simp [execOp, hop, hr, Result.andThen]
  exact h

/-- What may come up. -/
def rdy (b1 b2 b3 b4 b5 b6 : Bool) : List Nat := (if b1 then [] else [1]) ++ (if b2 then [] else [2]) ++ (if b3 then [] else [3]) ++ (if b4 then [] else [4]) ++ (if b5 then [] else [5]) ++ (if b6 then [] else [6]) ++ (if b1 && b2 && b3 && b4 && b5 && b6 then [8] else [])
theorem rdy_mem (b1 b2 b3 b4 b5 b6 : Bool) (n : Nat) (hn : n + 1 = [b1, b2, b3, b4, b5, b6].countP (fun b => !b)) (i : Nat) (hi : i ∈ rdy b1 b2 b3 b4 b5 b6) :
    (i = 1 ∧ b1 = false) ∨ (i = 2 ∧ b2 = false) ∨ (i = 3 ∧ b3 = false) ∨ (i = 4 ∧ b4 = false) ∨ (i = 5 ∧ b5 = false) ∨ (i = 6 ∧ b6 = false) := by
  have h : ¬ (b1 && b2 && b3 && b4 && b5 && b6) = true := by
    intro h
    simp only [Bool.and_eq_true] at h
    obtain ⟨⟨⟨⟨⟨rfl, rfl⟩, rfl⟩, rfl⟩, rfl⟩, rfl⟩ := h
    simp at hn
  unfold rdy at hi
  rw [if_neg h] at hi
  simp only [List.mem_append, List.append_nil] at hi
  rcases hi with ((((hi | hi) | hi) | hi) | hi) | hi <;> (split at hi; · cases hi
                                                          · rename_i hb; simp only [List.mem_singleton] at hi; simp at hb; simp [hi, hb])
theorem rdy_ne (b1 b2 b3 b4 b5 b6 : Bool) : rdy b1 b2 b3 b4 b5 b6 ≠ [] := by
  cases b1 <;> cases b2 <;> cases b3 <;> cases b4 <;> cases b5 <;> cases b6 <;> simp [rdy]
def IsMk (ops : Array Oper) (i : Nat) (t : TypeId) (d : Nat) : Prop := ∃ o, ops[i]? = some o ∧ o.guard = none ∧ o.op = .makeSlice t (.const (.int .i64 0)) (.const (.int .i64 0)) ∧ o.dst = some d
def IsMp (ops : Array Oper) (i : Nat) (d : Nat) : Prop := ∃ o, ops[i]? = some o ∧ o.guard = none ∧ o.op = .makeMap 60 none ∧ o.dst = some d
theorem md_new (w : World) (B : Nat) (hB : B ≤ w.heap.size) (e : TypeId) : Md (w.alloc (.cells #[] e)) B (.slice (some ⟨w.heap.size, 0, none⟩) 0 0) e := ⟨_, rfl, heap_new _ _, hB⟩

theorem nq_steps {ops : Array Oper} {Q : Exit → Act → World → Prop} {w0 : World} {si : Int} (hr : ∀ b1 b2 b3 b4 b5 b6, Region.ready .any ops #[true, b1, b2, b3, b4, b5, b6, true, false, false, false] = rdy b1 b2 b3 b4 b5 b6)
    (o1 : IsMk ops 1 58 6) (o2 : IsMk ops 2 58 7) (o3 : IsMk ops 3 59 8) (o4 : IsMk ops 4 59 9) (o5 : IsMp ops 5 10) (o6 : IsMp ops 6 11) (n : Nat) (listed : Array Bool) (a : Act) (w : World) (h : NqR w0 si (n + 1) listed a w) :
    Region.ready .any ops listed ≠ [] ∧ ∀ i ∈ Region.ready .any ops listed, wpOp Tryd.prog ops Q i (NqR w0 si n (listed.setIfInBounds i true)) a w := by
  obtain ⟨b1, b2, b3, b4, b5, b6, rfl, hn, hB, t6, t7, t8, t9, t10, t11, rfl, h1, h2, h3, h4, h5, h6, h7⟩ := h
  rw [hr]
  refine ⟨rdy_ne _ _ _ _ _ _, fun i hi => ?_⟩
  have hsz := hB.size
  have hf6 : b1 = true → t6 ≠ .slice (some ⟨w.heap.size, 0, none⟩) 0 0 := fun h e => by
    obtain ⟨g, e1, e2, _⟩ := h1 h
    have := (Array.getElem?_eq_some_iff.1 e2).1
    rw [e] at e1; simp at e1 <;> omega
  have hf7 : b2 = true → Value.slice (some ⟨w.heap.size, 0, none⟩) 0 0 ≠ t7 := fun h e => by
    obtain ⟨g, e1, e2, _⟩ := h2 h
    have := (Array.getElem?_eq_some_iff.1 e2).1
    rw [← e] at e1; simp at e1 <;> omega
  have k1 : ∀ o, b1 = true → Md (w.alloc o) w0.heap.size t6 72 := fun o h => (h1 h).alloc o
  have k2 : ∀ o, b2 = true → Md (w.alloc o) w0.heap.size t7 72 := fun o h => (h2 h).alloc o
  have k3 : ∀ o, b3 = true → Md (w.alloc o) w0.heap.size t8 73 := fun o h => (h3 h).alloc o
  have k4 : ∀ o, b4 = true → Md (w.alloc o) w0.heap.size t9 73 := fun o h => (h4 h).alloc o
  rcases rdy_mem b1 b2 b3 b4 b5 b6 n hn i hi with ⟨rfl, rfl⟩ | ⟨rfl, rfl⟩ | ⟨rfl, rfl⟩ | ⟨rfl, rfl⟩ | ⟨rfl, rfl⟩ | ⟨rfl, rfl⟩
  · obtain ⟨o, ho, hg, hop, hd⟩ := o1
    refine op_make ho hg hop (mk58 w) ?_
    rw [hd]
    exact ⟨true, b2, b3, b4, b5, b6, rfl, by simp [List.countP_cons] at hn ⊢; omega, hB.alloc hsz _, _, t7, t8, t9, t10, t11, rfl, fun _ => md_new _ _ hsz _, k2 _, k3 _, k4 _, h5, h6, fun _ h => hf7 h⟩
  · obtain ⟨o, ho, hg, hop, hd⟩ := o2
    refine op_make ho hg hop (mk58 w) ?_
    rw [hd]
    exact ⟨b1, true, b3, b4, b5, b6, rfl, by simp [List.countP_cons] at hn ⊢; omega, hB.alloc hsz _, t6, _, t8, t9, t10, t11, rfl, k1 _, fun _ => md_new _ _ hsz _, k3 _, k4 _, h5, h6, fun h _ => hf6 h⟩
  · obtain ⟨o, ho, hg, hop, hd⟩ := o3
    refine op_make ho hg hop (mk59 w) ?_
    rw [hd]
    exact ⟨b1, b2, true, b4, b5, b6, rfl, by simp [List.countP_cons] at hn ⊢; omega, hB.alloc hsz _, t6, t7, _, t9, t10, t11, rfl, k1 _, k2 _, fun _ => md_new _ _ hsz _, k4 _, h5, h6, h7⟩
  · obtain ⟨o, ho, hg, hop, hd⟩ := o4
    refine op_make ho hg hop (mk59 w) ?_
    rw [hd]
    exact ⟨b1, b2, b3, true, b5, b6, rfl, by simp [List.countP_cons] at hn ⊢; omega, hB.alloc hsz _, t6, t7, t8, _, t10, t11, rfl, k1 _, k2 _, k3 _, fun _ => md_new _ _ hsz _, h5, h6, h7⟩
  · obtain ⟨o, ho, hg, hop, hd⟩ := o5
    refine op_map ho hg hop ?_
    rw [hd]
    exact ⟨b1, b2, b3, b4, true, b6, rfl, by simp [List.countP_cons] at hn ⊢; omega, hB.alloc hsz _, t6, t7, t8, t9, _, t11, rfl, k1 _, k2 _, k3 _, k4 _, fun _ => ⟨_, rfl⟩, h6, h7⟩
  · obtain ⟨o, ho, hg, hop, hd⟩ := o6
    refine op_map ho hg hop ?_
    rw [hd]
    exact ⟨b1, b2, b3, b4, b5, true, rfl, by simp [List.countP_cons] at hn ⊢; omega, hB.alloc hsz _, t6, t7, t8, t9, t10, _, rfl, k1 _, k2 _, k3 _, k4 _, h5, fun _ => ⟨_, rfl⟩, h7⟩

theorem World.ownsRow_of_empty {w : World} {B g e : Nat} (h : w.heap[g]? = some (.cells #[] e (0, 0))) (hB : B ≤ g) : w.ownsRow B e 1 (.slice (some ⟨g, 0, none⟩) 0 0) 0 [] :=
  ⟨rfl, .inr ⟨g, 0, #[], rfl, hB, h, Nat.le_refl _, by decide, rfl, rfl⟩⟩
/-- What is known of a new queue. -/
def NewQ (w : World) (f si : Int) (e : Ending) (w' : World) : Prop :=
  ∃ x : QSt, e = .returned (ptr x.q) ∧ x.ord = [] ∧ x.nssn = 0 ∧ x.nb = 0 ∧ (∃ g, x.v4 = .slice (some ⟨g, 0, none⟩) 0 0 ∧ w'.heap[g]? = some (.cells #[] 72 (0, 0)) ∧ w.heap.size ≤ g ∧ g ≠ x.go) ∧ x.v5 = .slice none 0 0 ∧ QAt w' w.heap.size f si x ∧ Below w.heap.size w w'

set_option maxHeartbeats 1000000 in
theorem newQ_any {w : World} {f si : Int} : Calls Tryd.prog 15 #[.int .u16 si, .int .u32 0] w (NewQ w f si) := by
  go_enter Tryd.func15, Tryd.ntmps15
  go_wp2_with fail
  refine wp_region_any (by kernel_rfl) ?_
  refine wpAny_take (i := 0) (v := .int .u16 si) rfl (by kernel_rfl) (by kernel_rfl) (by kernel_rfl) (fun _ _ _ h => h) (Or.inl ⟨by rfl, by intro w; go_simp⟩) ?_
  refine wpAny_take (i := 7) (v := .int .u32 0) rfl (by kernel_rfl) (by kernel_rfl) (by kernel_rfl) (fun _ _ _ h => h) (Or.inl ⟨by rfl, by intro w; go_simp⟩) ?_
  refine wpAny_down 3 (NqR w si) ?_ (nq_steps (fun b1 b2 b3 b4 b5 b6 => by cases b1 <;> cases b2 <;> cases b3 <;> cases b4 <;> cases b5 <;> cases b6 <;> kernel_rfl) ⟨_, rfl, rfl, rfl, rfl⟩ ⟨_, rfl, rfl, rfl, rfl⟩ ⟨_, rfl, rfl, rfl, rfl⟩ ⟨_, rfl, rfl, rfl, rfl⟩ ⟨_, rfl, rfl, rfl, rfl⟩ ⟨_, rfl, rfl, rfl, rfl⟩) 6 _ _ _ ?_
  · rintro listed a w1 ⟨b1, b2, b3, b4, b5, b6, rfl, hn, hB, t6, t7, t8, t9, t10, t11, rfl, h1, h2, h3, h4, h5, h6, h7⟩
    obtain ⟨rfl, rfl, rfl, rfl, rfl, rfl⟩ : b1 = true ∧ b2 = true ∧ b3 = true ∧ b4 = true ∧ b5 = true ∧ b6 = true := by
      clear h1 h2 h3 h4 h5 h6 h7
      cases b1 <;> cases b2 <;> cases b3 <;> cases b4 <;> cases b5 <;> cases b6 <;> simp at hn ⊢
    obtain ⟨g6, rfl, e6, l6⟩ := h1 rfl
    obtain ⟨g7, rfl, e7, l7⟩ := h2 rfl
    obtain ⟨g8, rfl, e8, l8⟩ := h3 rfl
    obtain ⟨g9, rfl, e9, l9⟩ := h4 rfl
    obtain ⟨m5, rfl⟩ := h5 rfl
    obtain ⟨m6, rfl⟩ := h6 rfl
    have h67 : g6 ≠ g7 := fun e => h7 rfl rfl (by rw [e])
    have H67 := Lib.hid h67
    clear h1 h2 h3 h4 h5 h6 h7 hn h67
    have E6 := Lib.hid e6; have E7 := Lib.hid e7; have HB := Lib.hid hB; have L6 := Lib.hid l6; have L7 := Lib.hid l7
    clear e6 e7 e8 e9 l6 l7 l8 l9 hB
    refine wpAny_ready (rs := [8]) (by kernel_rfl) (by simp) ?_
    refine AllReady.cons rfl (fun K hK => ?_) AllReady.nil
    go_simp
    refine hK _ _ ?_
    clear hK K
    refine wpAny_ready (rs := [9]) (by kernel_rfl) (by simp) ?_
    refine AllReady.cons rfl (fun K hK => ?_) AllReady.nil
    go_simp
    refine hK _ _ ?_
    clear hK K
    refine wpAny_ready (rs := [10]) (by kernel_rfl) (by simp) ?_
    refine AllReady.cons rfl (fun K hK => ?_) AllReady.nil
    go_simp
    refine hK _ _ ?_
    clear hK K
    refine wpAny_done (by kernel_rfl) ?_ _
    go_wp2_with fail
    go_ret
    have M1 : Mod (fun _ => False) w1 (w1.alloc (.cells #[.int .u16 si, .int .u16 0, .int .u32 0, .slice (some ⟨g6, 0, none⟩) 0 0, .slice (some ⟨g7, 0, none⟩) 0 0, .slice none 0 0, .slice (some ⟨g8, 0, none⟩) 0 0, .slice (some ⟨g9, 0, none⟩) 0 0, .map (some m5), .map (some m6), .bool false, .int .u64 0, .int .u32 0] 64)) := (Mod.refl _ w1).alloc _
    have hrow := World.ownsRow_of_empty (w := w1) E6.out L6.out
    refine ⟨⟨w1.heap.size, g6, 0, [], 0, .slice (some ⟨g7, 0, none⟩) 0 0, .slice none 0 0, .slice (some ⟨g8, 0, none⟩) 0 0, .slice (some ⟨g9, 0, none⟩) 0 0, .map (some m5), .map (some m6), 0⟩, rfl, rfl, rfl, rfl, ⟨g7, rfl, (M1.block _ (Array.getElem?_eq_some_iff.1 E7.out).1 (fun h => h)).trans E7.out, L7.out, fun e => H67.out e.symm⟩, rfl, ⟨heap_new _ _, owned_mod hrow M1, fun t ht => (by cases ht), List.Pairwise.nil, List.Pairwise.nil, HB.out.size, by simp, by simp⟩, HB.out.alloc HB.out.size _⟩
  · exact ⟨false, false, false, false, false, false, rfl, rfl, ⟨rfl, rfl, rfl, Nat.le_refl _, fun _ _ => rfl⟩, undef, undef, undef, undef, undef, undef, rfl, (fun h => by cases h), (fun h => by cases h), (fun h => by cases h), (fun h => by cases h), (fun h => by cases h), (fun h => by cases h), (fun h => by cases h)⟩
end Go.Proofs.YtmniikihkpikdaaDoor
