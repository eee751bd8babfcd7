/- Part of the proofs of the three laws on reassembly: words for reads that give something, and a copy as a step of a region; conditions: as each theorem states. -/
import Derived.Test.YtmniikihkpikdaaDoorM10
namespace Go.Proofs.YtmniikihkpikdaaDoor
open Go.RowKit
set_option linter.unusedVariables false

/-- The cells behind a copy. -/
def spl (cur : Array Value) (off : Nat) (cs : List Value) : Array Value := (cur.toList.take off ++ (cs ++ cur.toList.drop (off + cs.length))).toArray
/-- A copy of cells into a block that is known whole, as one step of a region that draws. -/
theorem step_copy_mod {P : Program} {ops : Array Oper} {o : Oper} {a : Act} {w : World} {K : Act → World → Prop} {Q : Exit → Act → World → Prop} {E : Prop} (hgd : o.guard = none) (d s : Operand) (dT sT : TypeId)
    (ho : o.op = .call { callee := .builtin .copy, args := #[d, s], argTypes := #[dT, sT] }) (elem : TypeId) (hu : P.underlying dT = some (.slice elem)) (hsz : (P.info? elem).map (·.size) = some 1)
    (ad : Addr) (dLen dCap sLen sCap : Nat) (g off : Nat) (hd : a.eval d = .slice (some ⟨g, off, none⟩) dLen dCap) (hs : a.eval s = .slice (some ad) sLen sCap)
    (cur : Array Value) (t : TypeId) (hg : w.heap[g]? = some (.cells cur t (0, 0))) (cs : List Value) (hn : cs.length = Nat.min sLen dLen)
    (hsrc : ∀ j v, cs[j]? = some v → w.cell? (ad.add j) = some v) (hfit : off + cs.length ≤ cur.size) (h1 : ∀ v ∈ cs, v.oneCell' = true)
    (h : ∀ w', Hid (w'.heap[g]? = some (.cells (spl cur off cs) t (0, 0))) → Mod (· = g) w w' → K (a.put o.dst (goInt cs.length)) w') :
    if Region.wanted o (yielded ops a.tmps) = true then Oper.wp P o a w K Q else E := by
  have hw : Region.wanted o (yielded ops a.tmps) = true := by simp [Region.wanted, hgd]
  rw [if_pos hw]
  have hrun := run_copy_row (P := P) w dT sT o.type elem g off dLen dCap ad sLen sCap cur t cs hu hsz hg hn hsrc hfit h1
  unfold Oper.wp
  simp [execOp, ho, resolve, invoke, builtin, hd, hs, hrun, Result.andThen]
  exact h _ (show _ = _ by simpa [spl] using setRow_heap w g _ _ t _ hg) ⟨rfl, rfl, rfl, by simp [World.setRow], fun k hk hS => setRow_other w g k _ hS⟩

theorem two_set {w : World} {q n a b : Nat} {cs : Array Value} {T : TypeId} {fr : Nat × Nat} {v u : Value} (h : w.heap[q]? = some (.cells cs T fr)) : (((w.setCell ⟨q, a, none⟩ v).drewN n).setCell ⟨q, b, none⟩ u).heap[q]? = some (.cells ((cs.setIfInBounds a v).setIfInBounds b u) T fr) :=
  heap_setCell_same (w := (w.setCell ⟨q, a, none⟩ v).drewN n) (heap_setCell_same h v) u
theorem two_set_far {w : World} {q n a b k : Nat} {v u : Value} (h : k ≠ q) : (((w.setCell ⟨q, a, none⟩ v).drewN n).setCell ⟨q, b, none⟩ u).heap[k]? = w.heap[k]? :=
  (heap_setCell_other (w := (w.setCell ⟨q, a, none⟩ v).drewN n) (p := ⟨q, b, none⟩) h u).trans (heap_setCell_other (p := ⟨q, a, none⟩) h v)
def tot (l : List Ck) : Nat := (l.map fun c => c.pc.bytes.length).sum
def allBytes (l : List Ck) : List Int := l.flatMap fun c => c.pc.bytes
theorem tot_succ (l : List Ck) (j : Nat) (h : j < l.length) : tot (l.take (j + 1)) = tot (l.take j) + (l.getD j default).pc.bytes.length := by
  unfold tot
  rw [List.take_succ_eq_append_getElem h, List.map_append, List.sum_append]
  simp [List.getD_eq_getElem?_getD, h]
theorem all_succ (l : List Ck) (j : Nat) (h : j < l.length) : allBytes (l.take (j + 1)) = allBytes (l.take j) ++ (l.getD j default).pc.bytes := by
  unfold allBytes
  rw [List.take_succ_eq_append_getElem h, List.flatMap_append]
  simp [List.getD_eq_getElem?_getD, h]
theorem all_len (l : List Ck) : (allBytes l).length = tot l := by unfold allBytes tot; rw [List.length_flatMap]
theorem tot_le (l : List Ck) (j : Nat) : tot (l.take j) ≤ tot l := by
  have h : tot l = tot (l.take j) + tot (l.drop j) := by
    unfold tot; rw [← List.sum_append, ← List.map_append, List.take_append_drop]
  omega
theorem tot_bound (l : List Ck) (h : ∀ c ∈ l, c.pc.bytes.length ≤ 4096) : tot l ≤ 4096 * l.length := by
  unfold tot
  induction l with
  | nil => simp
  | cons a l ih =>
    have := h a (by simp)
    have := ih (fun c hc => h c (by simp [hc]))
    simp only [List.map_cons, List.sum_cons, List.length_cons]; omega

/-- The error so far: nil as long as there was room. -/
def errV (u : TypeId) (v : Value) (ok : Bool) : Value := if ok then Value.nilIface else .iface u v
/-- What stands in the buffer. -/
def Filled (w : World) (g n m : Nat) (l : List Int) : Prop := ∃ cs, w.heap[g]? = some (.cells cs 5 (0, 0)) ∧ cs.size = n ∧ (m ≤ n → cs.toList.take m = l.map (Value.int .u8))
/-- The reading loop's relation. -/
def RdRel (w : World) (g n : Nat) (l : List Ck) (u : TypeId) (v : Value) (v9 v10 vi : Value) (wr : World) : Prop :=
  ∃ j : Nat, j ≤ l.length ∧ vi = .int .i64 j ∧ v9 = .int .i64 (tot (l.take j)) ∧ v10 = errV u v (decide (tot (l.take j) ≤ n)) ∧ Filled wr g n (tot (l.take j)) (allBytes (l.take j)) ∧ ∃ w0, Mod (· = g) w w0 ∧ Same w0 wr

theorem filled_next {w : World} {g n a b : Nat} {l l' : List Int} {cur : Array Value} (hs : cur.size = n) (hf : cur.toList.take a = l.map (Value.int .u8)) (hl : l.length = a) (hb : l'.length = b) (hab : a + b ≤ n)
    (h : w.heap[g]? = some (.cells (spl cur a (l'.map (Value.int .u8))) 5 (0, 0))) : Filled w g n (a + b) (l ++ l') := by
  refine ⟨_, h, ?_, fun _ => ?_⟩
  · simp [spl]; omega
  · unfold spl
    rw [hf, ← List.append_assoc]
    show List.take (a + b) ((List.map (Value.int .u8) l ++ List.map (Value.int .u8) l') ++ _) = _
    rw [List.take_append_of_le_length (by simp; omega), List.take_of_length_le (by simp; omega)]
    simp

/-- Behind a read the queue is this. -/
theorem RAt.written {w w' : World} {B : Nat} {f si : Int} {x : RSt} {g : Nat} (h : RAt w B f si x) (hM : Mod (fun k => k = x.q ∨ k = g) w w') (hg : ∃ cs, w.heap[g]? = some (Obj.cells cs 5 (0, 0))) (hne : ∀ t ∈ x.ord, ∀ c ∈ t.l, c.ug ≠ g)
    {x' : RSt} (hb : w'.heap[x.q]? = some (.cells (rCells si x') 64 (0, 0))) (hq : x'.q = x.q) (hgo : x'.go = x.go) (hrow : ∀ i t, x'.ord[i]? = some t → x'.ao = some ⟨x.go, x'.o, none⟩ ∧ w.cell? ⟨x.go, x'.o + i, none⟩ = some (ptr t.s)) (hsub : ∀ t ∈ x'.ord, t ∈ x.ord)
    (hcap : x'.ord.length ≤ x'.c) (hlen : x'.ord.length ≤ 1000) (hnb : 0 ≤ x'.nb ∧ x'.nb ≤ 100000000) (hns : 0 ≤ x'.nssn ∧ x'.nssn < 2000) : RAt w' B f si x' := by
  obtain ⟨cg, hg⟩ := hg
  obtain ⟨cr, hr⟩ := h.rty
  have n1 : x.go ≠ x.q := ne_of_type hr h.blk (by decide)
  have n2 : x.go ≠ g := ne_of_type hr hg (by decide)
  refine ⟨by rw [hq]; exact hb, fun i t ht => ?_, ⟨cr, ?_⟩, fun t ht => ?_, hcap, hlen, hnb, hns⟩
  · obtain ⟨h1, h2⟩ := hrow i t ht
    rw [hgo]
    refine ⟨h1, ?_⟩
    rw [← h2]; exact hM.cell (lt_of_cell h2) (fun e => by rcases e with e | e; exact n1 e; exact n2 e)
  · rw [hgo, hM.block _ (Array.getElem?_eq_some_iff.1 hr).1 (fun e => by rcases e with e | e; exact n1 e; exact n2 e)]; exact hr
  · have hm := hsub t ht
    have hS := h.sets t hm
    obtain ⟨_, cs, hgb⟩ := hS.g_blk
    have a1 : t.s ≠ x.q := ne_of_type hS.blk h.blk (by decide)
    have a2 : t.s ≠ g := ne_of_type hS.blk hg (by decide)
    have a3 : t.g ≠ x.q := ne_of_type hgb h.blk (by decide)
    have a4 : t.g ≠ g := ne_of_type hgb hg (by decide)
    refine hS.mod hM (fun e => by rcases e with e | e; exact a1 e; exact a2 e) (fun e => by rcases e with e | e; exact a3 e; exact a4 e) (fun c hc => ?_)
    have hk := hS.ck c hc
    obtain ⟨cu, hu, _⟩ := hk.usr
    have b1 : c.b ≠ x.q := ne_of_type hk.blk h.blk (by decide)
    have b2 : c.b ≠ g := ne_of_type hk.blk hg (by decide)
    have b3 : c.ug ≠ x.q := ne_of_type hu h.blk (by decide)
    exact hk.mod2 hM (fun e => by rcases e with e | e; exact b1 e; exact b2 e) (fun e => by rcases e with e | e; exact b3 e; exact hne t hm c hc e)

/-- Where there was room: what was read, and the queue behind it. -/
def ReadYes (w : World) (B : Nat) (f si : Int) (x : RSt) (t : SetSt) (r : List SetSt) (g n : Nat) (e : Ending) (w' : World) : Prop :=
  e = .returned (.tuple #[.int .i64 (tot t.l), .int .u32 t.ppi, Value.nilIface]) ∧ Filled w' g n (tot t.l) (allBytes t.l) ∧ (∃ ao o c nb, RAt w' B f si { x with ao := ao, o := o, c := c, ord := r, nssn := x.nssn + 1, nb := nb }) ∧ Mod (fun k => k = x.q ∨ k = g) w w'
/-- Where there was none. -/
def ReadNo (w : World) (q g : Nat) (t : SetSt) (e : Ending) (w' : World) : Prop :=
  (∃ u v, e = .returned (.tuple #[.int .i64 (tot t.l), .int .u32 0, .iface u v])) ∧ Mod (· = g) w w'
/-- One of the two. -/
def ReadOne (w : World) (B : Nat) (f si : Int) (x : RSt) (t : SetSt) (r : List SetSt) (g n : Nat) (e : Ending) (w' : World) : Prop :=
  (tot t.l ≤ n ∧ ReadYes w B f si x t r g n e w') ∨ (n < tot t.l ∧ ReadNo w x.q g t e w')
end Go.Proofs.YtmniikihkpikdaaDoor
