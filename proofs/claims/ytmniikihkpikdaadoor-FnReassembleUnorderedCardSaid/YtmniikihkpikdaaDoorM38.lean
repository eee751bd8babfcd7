/- Part of the proof of laws.FnReassembleUnordered: the statement that mixes, appends and reassembles, in whatever order its operations come up; conditions: as each theorem states. -/
import Derived.Test.YtmniikihkpikdaaDoorM37
namespace Go.Proofs.YtmniikihkpikdaaDoor
open Go.RowKit
set_option linter.unusedVariables false

theorem op_call2 {P : Program} {ops : Array Oper} {Q : Exit → Act → World → Prop} {i : Nat} {a : Act} {w : World} {K : Act → World → Prop} {o : Oper} {fn : FuncId} {x y : Operand} {ts : Array TypeId} {R : Ending → World → Prop} {fd : Func} (hf : P.funcs[fn]? = some fd) (hname : (fd.name == "runtime.NumGoroutine") = false) (hb0 : fd.body.isSome = true) (ho : ops[i]? = some o) (hg : o.guard = none) (hop : o.op = .call { callee := .value (.func fn), args := #[x, y], argTypes := ts })
    (hc : Calls P fn #[a.eval x, a.eval y] w R) (hr : ∀ e w', R e w' → ∃ v, e = .returned v ∧ K (a.put o.dst v) w') : wpOp P ops Q i K a w := by
  have hw : Region.wanted o (yielded ops a.tmps) = true := by simp [Region.wanted, hg]
  unfold wpOp
  rw [ho]
  simp only [hw, if_true]
  left
  unfold Oper.wp
  obtain ⟨cd, hb⟩ := Option.isSome_iff_exists.1 hb0
  have hn' : ¬ fd.name = "runtime.NumGoroutine" := by simpa using hname
  have e1 : ∀ ρ : Operand → Value, (∀ f, ρ (.func f) = .func (.func f) #[] #[]) → (execOp ρ o).run P w = .ok (.enter fn #[ρ x, ρ y]) w := fun ρ hρ => by
    simp [execOp, hop, hρ, go_sem, callFunc, hf, hn', hb]
  have this := e1 a.eval (fun _ => rfl)
  rw [this, Oper.upon_enter]
  refine hc.mono ?_
  intro e w' h
  obtain ⟨v, rfl, hk⟩ := hr e w' h
  exact hk
theorem op_val {P : Program} {ops : Array Oper} {Q : Exit → Act → World → Prop} {i : Nat} {a : Act} {w w' : World} {K : Act → World → Prop} {o : Oper} {v : Value} (ho : ops[i]? = some o) (hg : o.guard = none)
    (hx : (execOp a.eval o).run P w = .ok (.value v) w') (h : K (a.put o.dst v) w') : wpOp P ops Q i K a w := by
  have hw : Region.wanted o (yielded ops a.tmps) = true := by simp [Region.wanted, hg]
  unfold wpOp
  rw [ho]
  simp only [hw, if_true]
  left
  unfold Oper.wp
  rw [hx]
  exact h

theorem run_bs {P : Program} (w : World) (t e : TypeId) (len : Nat) (parts : Array (Nat × Value)) (cells : Array Value) (ie : TypeInfo) (z : Value) (hu : P.underlying t = some (.slice e)) (hie : P.info? e = some ie) (hz : ie.zero = some z) (hsmall : ¬ len * ie.size > 2 ^ 24) (hpos : ¬ len * ie.size = 0)
    (h : Instr.fill (fun i => some (i * ie.size, ie.size)) ((Array.range (len * ie.size)).map (z.cells[· % z.cells.size]!)) parts.toList = some cells) : (Instr.buildSlice t len parts).run P w = .ok (.slice (some ⟨w.heap.size, 0, none⟩) len len) (w.alloc (.cells cells e)) := by
  simp [Instr.buildSlice, run_underlying hu, sizeOf, typeInfo, zeroValue, hie, hz, hsmall, hpos, h, newRow]
theorem x_two {ρ : Operand → Value} {w : World} {o : Oper} (hop : o.op = .buildSlice 24 2 #[(0, .const (.int .i64 4096)), (1, .const (.int .i64 4096))]) (hρ : ∀ v, ρ (.const v) = v) :
    (execOp ρ o).run Tryd.prog w = .ok (.value (.slice (some ⟨w.heap.size, 0, none⟩) 2 2)) (w.alloc (.cells #[.int .i64 4096, .int .i64 4096] 3)) := by
  obtain ⟨i3, hi3, hz3, hzy1, hzy2⟩ := info_parts (show (Tryd.prog.info? 3).map (fun i => (i.zero, i.size, i.bytes)) = some (some (.int .i64 0), 1, 8) by kernel_rfl)
  have hr := run_bs (P := Tryd.prog) w 24 3 2 #[(0, .int .i64 4096), (1, .int .i64 4096)] #[.int .i64 4096, .int .i64 4096] i3 (.int .i64 0) (by kernel_rfl) hi3 hz3 (by rw [hzy1]; decide) (by rw [hzy1]; decide) (by rw [hzy1]; kernel_rfl)
  simp [execOp, hop, hρ, hr, Result.andThen]
theorem x_rec {ρ : Operand → Value} {w : World} {o : Oper} {v0 v1 v2 v3 v4 v5 v6 v7 v8 : Value} (hop : o.op = .buildSlice 27 1 #[(0, .tmp 57)]) (hρ : ρ (.tmp 57) = .agg #[v0, v1, v2, v3, v4, v5, v6, v7, v8]) :
    (execOp ρ o).run Tryd.prog w = .ok (.value (.slice (some ⟨w.heap.size, 0, none⟩) 1 1)) (w.alloc (.cells #[v0, v1, v2, v3, v4, v5, v6, v7, v8] 31)) := by
  obtain ⟨i31, hi31, hz31, hzz1, hzz2⟩ := info_parts (show (Tryd.prog.info? 31).map (fun i => (i.zero, i.size, i.bytes)) = some (some (.agg im0), 9, 56) by kernel_rfl)
  have hr := run_bs (P := Tryd.prog) w 27 31 1 #[(0, .agg #[v0, v1, v2, v3, v4, v5, v6, v7, v8])] #[v0, v1, v2, v3, v4, v5, v6, v7, v8] i31 (.agg im0) (by kernel_rfl) hi31 hz31 (by rw [hzz1]; decide) (by rw [hzz1]; decide) (by rw [hzz1]; kernel_rfl)
  simp [execOp, hop, hρ, hr, Result.andThen]
theorem x_load {ρ : Operand → Value} {w : World} {o : Oper} {v0 v1 v2 v3 v4 v5 v6 v7 v8 : Value} {g : Nat} (hop : o.op = .load 31 (.tmp 13)) (hρ : ρ (.tmp 13) = .pointer (some ⟨g, 0, none⟩)) (hg : w.heap[g]? = some (.cells #[v0, v1, v2, v3, v4, v5, v6, v7, v8] 31 (0, 0))) :
    (execOp ρ o).run Tryd.prog w = .ok (.value (.agg #[v0, v1, v2, v3, v4, v5, v6, v7, v8])) w := by
  have s0 : w.cell? ⟨g, 0, none⟩ = some v0 := by rw [cell_of_block hg]; rfl
  have s1 : w.cell? ⟨g, 1, none⟩ = some v1 := by rw [cell_of_block hg]; rfl
  have s2 : w.cell? ⟨g, 2, none⟩ = some v2 := by rw [cell_of_block hg]; rfl
  have s3 : w.cell? ⟨g, 3, none⟩ = some v3 := by rw [cell_of_block hg]; rfl
  have s4 : w.cell? ⟨g, 4, none⟩ = some v4 := by rw [cell_of_block hg]; rfl
  have s5 : w.cell? ⟨g, 5, none⟩ = some v5 := by rw [cell_of_block hg]; rfl
  have s6 : w.cell? ⟨g, 6, none⟩ = some v6 := by rw [cell_of_block hg]; rfl
  have s7 : w.cell? ⟨g, 7, none⟩ = some v7 := by rw [cell_of_block hg]; rfl
  have s8 : w.cell? ⟨g, 8, none⟩ = some v8 := by rw [cell_of_block hg]; rfl
  simp [execOp, hop, hρ, go_sem, s0, s1, s2, s3, s4, s5, s6, s7, s8]

def Row56 (w : World) (B : Nat) (f si : Int) (rs : List Dk) (v : Value) : Prop :=
  ∃ rs' g c, rs'.Perm rs ∧ v = .slice (some ⟨g, 0, none⟩) rs.length c ∧ w.ownsRow B 31 9 v rs.length (recs f si rs')
def Row58 (w : World) (B : Nat) (f si : Int) (bk : Dk) (v : Value) : Prop :=
  ∃ g, v = .slice (some ⟨g, 0, none⟩) 1 1 ∧ w.heap[g]? = some (.cells (dCells f si bk) 31 (0, 0))
def Row59 (w : World) (B : Nat) (f si : Int) (rs : List Dk) (bk : Dk) (v : Value) : Prop :=
  ∃ rs' g c, rs'.Perm rs ∧ v = .slice (some ⟨g, 0, none⟩) (rs.length + 1) c ∧ w.ownsRow B 31 9 v (rs.length + 1) (recs f si (rs' ++ [bk]))
def Row60 (w : World) (v : Value) : Prop := ∃ g, v = .slice (some ⟨g, 0, none⟩) 2 2 ∧ w.heap[g]? = some (.cells #[.int .i64 4096, .int .i64 4096] 3 (0, 0))
theorem Row56.far {w w' : World} {B : Nat} {f si : Int} {rs : List Dk} {v : Value} (h : Row56 w B f si rs v) (hb : Below w.heap.size w w') : Row56 w' B f si rs v := by
  obtain ⟨rs', g, c, h1, h2, h3⟩ := h
  exact ⟨rs', g, c, h1, h2, own_far h3 hb⟩
theorem Row59.far {w w' : World} {B : Nat} {f si : Int} {rs : List Dk} {bk : Dk} {v : Value} (h : Row59 w B f si rs bk v) (hb : Below w.heap.size w w') : Row59 w' B f si rs bk v := by
  obtain ⟨rs', g, c, h1, h2, h3⟩ := h
  exact ⟨rs', g, c, h1, h2, own_far h3 hb⟩
theorem Row58.far {w w' : World} {B : Nat} {f si : Int} {bk : Dk} {v : Value} (h : Row58 w B f si bk v) (hb : Below w.heap.size w w') : Row58 w' B f si bk v := by
  obtain ⟨g, h1, h2⟩ := h
  exact ⟨g, h1, (hb.block _ (Array.getElem?_eq_some_iff.1 h2).1).trans h2⟩
theorem Row60.far {w w' : World} {v : Value} (h : Row60 w v) (hb : Below w.heap.size w w') : Row60 w' v := by
  obtain ⟨g, h1, h2⟩ := h
  exact ⟨g, h1, (hb.block _ (Array.getElem?_eq_some_iff.1 h2).1).trans h2⟩

/-- What holds when n of the five operations are still to come. -/
def UnR (W0 : World) (f si : Int) (rs : List Dk) (bk : Dk) (mk : Value → Value → Value → Value → Value → Act) (n : Nat) (listed : Array Bool) (a : Act) (w : World) : Prop :=
  ∃ b2 b3 b4 b5 b6 : Bool, listed = #[true, true, b2, b3, b4, b5, b6, false, false, false, false, false, false, false, false] ∧ n = [b2, b3, b4, b5, b6].countP (fun b => !b) ∧ (b4 = true → b3 = true) ∧ (b5 = true → b2 = true ∧ b4 = true) ∧ Below W0.heap.size W0 w ∧
  ∃ v2 v3 v4 v5 v6 : Value, a = mk v2 v3 v4 v5 v6 ∧ (b2 = true → b5 = false → Row56 w W0.heap.size f si rs v2) ∧ (b3 = true → v3 = .agg (dCells f si bk)) ∧ (b4 = true → b5 = false → Row58 w W0.heap.size f si bk v4) ∧ (b5 = true → Row59 w W0.heap.size f si rs bk v5) ∧ (b6 = true → Row60 w v6)
def rdu (b2 b3 b4 b5 b6 : Bool) : List Nat := (if b2 then [] else [2]) ++ (if b3 then [] else [3]) ++ (if b3 && !b4 then [4] else []) ++ (if b2 && b4 && !b5 then [5] else []) ++ (if b6 then [] else [6]) ++ (if b5 && b6 then [7] else [])
theorem rdu_mem (b2 b3 b4 b5 b6 : Bool) (i : Nat) (hi : i ∈ rdu b2 b3 b4 b5 b6) :
    (i = 2 ∧ b2 = false) ∨ (i = 3 ∧ b3 = false) ∨ (i = 4 ∧ b3 = true ∧ b4 = false) ∨ (i = 5 ∧ b2 = true ∧ b4 = true ∧ b5 = false) ∨ (i = 6 ∧ b6 = false) ∨ (i = 7 ∧ b5 = true ∧ b6 = true) := by
  cases b2 <;> cases b3 <;> cases b4 <;> cases b5 <;> cases b6 <;> simp [rdu] at hi ⊢ <;> omega
theorem rdu_ne (b2 b3 b4 b5 b6 : Bool) : rdu b2 b3 b4 b5 b6 ≠ [] := by
  cases b2 <;> cases b3 <;> cases b4 <;> cases b5 <;> cases b6 <;> simp [rdu]

/-- The frame, and what it gives. -/
structure UnMk (g2 m c2 : Nat) (oo : Option Addr) (on oc : Nat) (gb : Nat) (mk : Value → Value → Value → Value → Value → Act) : Prop where
  p2 : ∀ a b c d e x, (mk a b c d e).put (some 56) x = mk x b c d e
  p3 : ∀ a b c d e x, (mk a b c d e).put (some 57) x = mk a x c d e
  p4 : ∀ a b c d e x, (mk a b c d e).put (some 58) x = mk a b x d e
  p5 : ∀ a b c d e x, (mk a b c d e).put (some 59) x = mk a b c x e
  p6 : ∀ a b c d e x, (mk a b c d e).put (some 60) x = mk a b c d x
  e13 : ∀ a b c d e, (mk a b c d e).eval (.tmp 13) = .pointer (some ⟨gb, 0, none⟩)
  e54 : ∀ a b c d e, (mk a b c d e).eval (.tmp 54) = .slice (some ⟨g2, 0, none⟩) m c2
  e55 : ∀ a b c d e, (mk a b c d e).eval (.tmp 55) = .slice oo on oc
  e56 : ∀ a b c d e, (mk a b c d e).eval (.tmp 56) = a
  e57 : ∀ a b c d e, (mk a b c d e).eval (.tmp 57) = b
  e58 : ∀ a b c d e, (mk a b c d e).eval (.tmp 58) = c

set_option maxHeartbeats 1000000 in
theorem un_steps {ops : Array Oper} {Q : Exit → Act → World → Prop} {W0 : World} {f si : Int} {rs : List Dk} {bk : Dk} {mk : Value → Value → Value → Value → Value → Act} {g2 m c2 : Nat} {oo : Option Addr} {on oc gb : Nat}
    (hr : ∀ b2 b3 b4 b5 b6, Region.ready .any ops #[true, true, b2, b3, b4, b5, b6, false, false, false, false, false, false, false, false] = rdu b2 b3 b4 b5 b6)
    (hmk : UnMk g2 m c2 oo on oc gb mk) (hm : m = rs.length) (hm1 : m ≤ 1000)
    (hmix : ∀ W, Below W0.heap.size W0 W → Calls Tryd.prog 10 #[.slice (some ⟨g2, 0, none⟩) m c2, .slice oo on oc] W (MixBack W f si rs))
    (hgb : W0.heap[gb]? = some (.cells (dCells f si bk) 31 (0, 0)))
    (o2 : ∃ o, ops[2]? = some o ∧ o.guard = none ∧ o.op = .call { callee := .value (.func 10), args := #[.tmp 54, .tmp 55], argTypes := #[27, 24] } ∧ o.dst = some 56)
    (o3 : ∃ o, ops[3]? = some o ∧ o.guard = none ∧ o.op = .load 31 (.tmp 13) ∧ o.dst = some 57)
    (o4 : ∃ o, ops[4]? = some o ∧ o.guard = none ∧ o.op = .buildSlice 27 1 #[(0, .tmp 57)] ∧ o.dst = some 58)
    (o5 : ∃ o, ops[5]? = some o ∧ o.guard = none ∧ o.op = .call { callee := .builtin .append, args := #[.tmp 56, .tmp 58], argTypes := #[27, 27] } ∧ o.dst = some 59)
    (o6 : ∃ o, ops[6]? = some o ∧ o.guard = none ∧ o.op = .buildSlice 24 2 #[(0, .const (.int .i64 4096)), (1, .const (.int .i64 4096))] ∧ o.dst = some 60)
    (n : Nat) (listed : Array Bool) (a : Act) (w : World) (h : UnR W0 f si rs bk mk (n + 1) listed a w) :
    Region.ready .any ops listed ≠ [] ∧ ∀ i ∈ Region.ready .any ops listed, wpOp Tryd.prog ops Q i (UnR W0 f si rs bk mk n (listed.setIfInBounds i true)) a w := by
  obtain ⟨b2, b3, b4, b5, b6, rfl, hn, h43, h524, hB, v2, v3, v4, v5, v6, rfl, h2, h3, h4, h5, h6⟩ := h
  rw [hr]
  refine ⟨rdu_ne _ _ _ _ _, fun i hi => ?_⟩
  have hsz := hB.size
  have halloc : ∀ ob, Below w.heap.size w (w.alloc ob) := fun ob => (Below.refl _ w).alloc (Nat.le_refl _) _
  rcases rdu_mem b2 b3 b4 b5 b6 i hi with ⟨rfl, rfl⟩ | ⟨rfl, rfl⟩ | ⟨rfl, rfl, rfl⟩ | ⟨rfl, rfl, rfl, rfl⟩ | ⟨rfl, rfl⟩ | ⟨rfl, rfl, rfl⟩
  · obtain ⟨o, ho, hg, hop, hd⟩ := o2
    obtain rfl : b5 = false := by cases b5 <;> simp_all
    refine op_call2 Tryd.func10 (by kernel_rfl) (by kernel_rfl) ho hg hop (R := MixBack w f si rs) (by rw [hmk.e54, hmk.e55]; exact hmix w hB) ?_
    rintro e w' ⟨rs', g, c, q1, rfl, q2, q3⟩
    refine ⟨_, rfl, ?_⟩
    rw [hd, hmk.p2]
    exact ⟨true, b3, b4, false, b6, rfl, by simp [List.countP_cons] at hn ⊢; omega, h43, (fun h => by cases h), hB.trans (q3.mono hsz), _, v3, v4, v5, v6, rfl, fun _ _ => ⟨rs', g, c, q1, rfl, q2.mono hsz⟩, h3, fun h h' => (h4 h h').far q3, (fun h => by cases h), fun h => (h6 h).far q3⟩
  · obtain ⟨o, ho, hg, hop, hd⟩ := o3
    obtain rfl : b4 = false := by cases b4 <;> simp_all
    obtain rfl : b5 = false := by cases b5 <;> simp_all
    refine op_val ho hg (x_load hop (hmk.e13 _ _ _ _ _) ((hB.block _ (Array.getElem?_eq_some_iff.1 hgb).1).trans hgb)) ?_
    rw [hd, hmk.p3]
    exact ⟨b2, true, false, false, b6, rfl, by simp [List.countP_cons] at hn ⊢; omega, (fun h => by cases h), (fun h => by cases h), hB, v2, _, v4, v5, v6, rfl, h2, fun _ => rfl, (fun h => by cases h), (fun h => by cases h), h6⟩
  · obtain ⟨o, ho, hg, hop, hd⟩ := o4
    obtain rfl : b5 = false := by cases b5 <;> simp_all
    obtain rfl := h3 rfl
    refine op_val ho hg (x_rec hop (hmk.e57 _ _ _ _ _)) ?_
    rw [hd, hmk.p4]
    exact ⟨b2, true, true, false, b6, rfl, by simp [List.countP_cons] at hn ⊢; omega, (fun h => rfl), (fun h => by cases h), hB.alloc hsz _, v2, _, _, v5, v6, rfl, fun h h' => (h2 h h').far (halloc _), fun _ => rfl, fun _ _ => ⟨_, rfl, heap_new _ _⟩, (fun h => by cases h), fun h => (h6 h).far (halloc _)⟩
  · obtain ⟨o, ho, hg, hop, hd⟩ := o5
    obtain rfl := h43 rfl
    obtain ⟨rs', g, c, q1, rfl, q2⟩ := h2 rfl rfl
    obtain ⟨gs, rfl, hgs⟩ := h4 rfl rfl
    obtain ⟨i31, hi31, hz31, hzz1, hzz2⟩ := info_parts (show (Tryd.prog.info? 31).map (fun i => (i.zero, i.size, i.bytes)) = some (some (.agg im0), 9, 56) by kernel_rfl)
    obtain ⟨g', cap, w', hr', r1, r2, r3⟩ := run_append_blk (P := Tryd.prog) w 27 o.type W0.heap.size 31 i31 (.agg im0) 9 56 (by kernel_rfl) hi31 hz31 hzz1 hzz2 rfl (by omega) g rs.length c (recs f si rs') q2 ⟨gs, 0, none⟩ 1 1 (dCells f si bk).toList rfl
      (fun j u hu => by
        rw [show (⟨gs, 0, none⟩ : Addr).add j = ⟨gs, j, none⟩ from by unfold Addr.add; split <;> simp_all, cell_of_block hgs]
        rw [← hu, Array.getElem?_toList])
      (fun u hu => by have := recs_one f si [bk] u (by unfold recs; simpa using hu); exact this) (by unfold maxLen; omega) (by omega) hsz
    have hgB := (own_cap q2).2.1
    have hbw : Below W0.heap.size w w' := r2.below hsz (fun k hk => by have hk : k = g := hk; omega)
    refine op_val (v := .slice (some ⟨g', 0, none⟩) (rs.length + 1) cap) (w' := w') ho hg ?_ ?_
    · unfold execOp
      simp only [hop, resolve, invoke, builtin, Sem.run_bind, Sem.run_pure, Result.andThen_ok, List.map_toArray, List.map_cons, List.map_nil, hmk.e56, hmk.e58, hr']
    · rw [hd, hmk.p5]
      refine ⟨true, true, true, true, b6, rfl, by simp [List.countP_cons] at hn ⊢; omega, fun _ => rfl, fun _ => ⟨rfl, rfl⟩, hB.trans hbw, _, v3, _, _, v6, rfl, (fun _ h => by cases h), h3, (fun _ h => by cases h), fun _ => ⟨rs', g', cap, q1, rfl, ?_⟩, fun h => ?_⟩
      · rw [recs_append]
        have : recs f si [bk] = (dCells f si bk).toList := by unfold recs; simp
        rw [this]; exact r1
      · obtain ⟨g6, e6, hg6⟩ := h6 h
        refine ⟨g6, e6, (r2.block _ (Array.getElem?_eq_some_iff.1 hg6).1 (fun e => ?_)).trans hg6⟩
        have e : g6 = g := e
        rcases q2.2 with ⟨h0, _⟩ | ⟨gx, cx, cs, ex, _, hg', _⟩
        · cases h0
        · obtain ⟨rfl, rfl⟩ : g = gx ∧ c = cx := by simpa using ex
          exact ne_of_type hg6 hg' (by decide) e
  · obtain ⟨o, ho, hg, hop, hd⟩ := o6
    refine op_val ho hg (x_two hop (fun v => rfl)) ?_
    rw [hd, hmk.p6]
    exact ⟨b2, b3, b4, b5, true, rfl, by simp [List.countP_cons] at hn ⊢; omega, h43, h524, hB.alloc hsz _, v2, v3, v4, v5, _, rfl, fun h h' => (h2 h h').far (halloc _), h3, fun h h' => (h4 h h').far (halloc _), fun h => (h5 h).far (halloc _), fun _ => ⟨_, rfl, heap_new _ _⟩⟩
  · exfalso
    obtain ⟨rfl, rfl⟩ := h524 rfl
    obtain rfl := h43 rfl
    simp at hn
end Go.Proofs.YtmniikihkpikdaaDoor
