/- Part of the proofs of the three laws on reassembly: a chunk is made of plain data, and the words for what a script of pushes and reads needs and gives; conditions: as each theorem states. -/
import Derived.Test.YtmniikihkpikdaaDoorM13
namespace Go.Proofs.YtmniikihkpikdaaDoor
open Go.RowKit
set_option linter.unusedVariables false

/-- A chunk as plain data of the package. -/
def zCells (f si : Int) (c : Ck) : Array Value := #[.bool c.pc.un, .bool c.pc.beg, .bool c.pc.fin, .bool false, .int .u32 (U f c.pc.p), .int .u16 si, .int .u16 c.pc.k, .int .u32 c.pc.proto, .slice (some ⟨c.ug, 0, none⟩) c.pc.bytes.length c.uc]
/-- Its bytes are there. -/
structure UsAt (w : World) (c : Ck) : Prop where
  usr : ∃ cur, w.heap[c.ug]? = some (.cells cur 5 (0, 0)) ∧ cur.toList.take c.pc.bytes.length = c.pc.bytes.map (Value.int .u8)
  cap : c.pc.bytes.length ≤ c.uc
  small : c.pc.bytes.length ≤ 4096
  pb : 0 ≤ c.pc.p ∧ c.pc.p < 5000
  kb : 0 ≤ c.pc.k ∧ c.pc.k < 1000
theorem UsAt.mod {S : Nat → Prop} {w w' : World} {c : Ck} (h : UsAt w c) (hM : Mod S w w') (hS : ¬ S c.ug) : UsAt w' c := by
  obtain ⟨cur, h1, h2⟩ := h.usr
  exact ⟨⟨cur, (hM.block _ (Array.getElem?_eq_some_iff.1 h1).1 hS).trans h1, h2⟩, h.cap, h.small, h.pb, h.kb⟩
theorem UsAt.below {B : Nat} {w w' : World} {c : Ck} (h : UsAt w c) (hM : Below B w w') (hS : c.ug < B) : UsAt w' c := by
  obtain ⟨cur, h1, h2⟩ := h.usr
  exact ⟨⟨cur, (hM.block _ hS).trans h1, h2⟩, h.cap, h.small, h.pb, h.kb⟩
def payW (w : World) (f si : Int) (c : Ck) : World := (w.alloc (.cells (zCells f si c) 42)).alloc (.cells (ckCells f si c) 71)

set_option maxHeartbeats 1000000 in
theorem payload_any {w : World} {f si : Int} {c : Ck} : Calls Tryd.prog 17 #[.agg (zCells f si c)] w fun e w' => e = .returned (ptr (w.heap.size + 1)) ∧ w' = payW w f si c := by
  unfold ptr payW zCells ckCells
  go_enter Tryd.func17, Tryd.ntmps17
  go_wp2_with fail
  go_ret
  exact ⟨rfl, rfl⟩
theorem pay_ck {w : World} {f si : Int} {c : Ck} (h : UsAt w c) : CkAt (payW w f si c) f si { c with b := w.heap.size + 1 } := by
  obtain ⟨cur, h1, h2⟩ := h.usr
  have hl := (Array.getElem?_eq_some_iff.1 h1).1
  refine ⟨?_, ⟨cur, ?_, h2⟩, h.cap, h.small, h.pb, h.kb⟩
  · have := heap_new (w.alloc (.cells (zCells f si c) 42)) (.cells (ckCells f si c) 71)
    show (payW w f si c).heap[w.heap.size + 1]? = some (.cells (ckCells f si c) 71 (0, 0))
    simpa [payW] using this
  · exact (heap_alloc_old _ _ (by simp; omega)).trans ((heap_alloc_old w _ hl).trans h1)
theorem pay_mod {w : World} {f si : Int} {c : Ck} : Mod (fun _ => False) w (payW w f si c) := ((Mod.refl _ w).alloc _).alloc _

/-- All blocks of a queue's, a chunk's and a text's types are as they were. -/
def rT (T : TypeId) : Prop := T = 64 ∨ T = 72 ∨ T = 81 ∨ T = 51 ∨ T = 71 ∨ T = 5
def Kt (w w' : World) : Prop := ∀ (k : Nat) (cs : Array Value) (T : TypeId), w.heap[k]? = some (Obj.cells cs T (0, 0)) → rT T → w'.heap[k]? = w.heap[k]?
theorem Kt.refl (w : World) : Kt w w := fun _ _ _ _ _ => rfl
theorem Kt.trans {a b c : World} (h : Kt a b) (k : Kt b c) : Kt a c := fun n cs T hn hT => (k n cs T ((h n cs T hn hT).trans hn) hT).trans (h n cs T hn hT)
theorem Kt.mod {S : Nat → Prop} {w w' : World} (h : Mod S w w') (hS : ∀ k, S k → ∀ (cs : Array Value) (T : TypeId), w.heap[k]? = some (Obj.cells cs T (0, 0)) → ¬ rT T) : Kt w w' :=
  fun k cs T hk hT => h.block k (Array.getElem?_eq_some_iff.1 hk).1 (fun hs => hS k hs cs T hk hT)

/-- What one read is to give: nothing, or these bytes with this protocol number. -/
abbrev Res := Option (List Int × Int)
def Res.pr (r : Res) : Int := match r with | none => 0 | some (_, p) => p
/-- What one read hands back. -/
def RdBack (w : World) (q g n : Nat) (r : Res) (RI : World → Prop) (e : Ending) (w' : World) : Prop :=
  RI w' ∧ Mod (fun k => k = q ∨ k = g) w w' ∧ ((r = none ∧ ∃ k u v, e = .returned (.tuple #[.int .i64 k, .int .u32 0, .iface u v])) ∨
    ∃ l p, r = some (l, p) ∧ l.length ≤ n ∧ e = .returned (.tuple #[.int .i64 l.length, .int .u32 p, Value.nilIface]) ∧ Filled w' g n l.length l)
/-- What is handed on of one read. -/
def OutAt (B : Nat) (w : World) (v : Value) (r : Res) : Prop :=
  (r = none ∧ ∃ ao c, v = .slice ao 0 c) ∨ ∃ l p g c, r = some (l, p) ∧ v = .slice (some ⟨g, 0, none⟩) l.length c ∧ l.length ≤ c ∧ B ≤ g ∧ l.length ≤ 65536 ∧ ∃ cs, w.heap[g]? = some (.cells cs 5 (0, 0)) ∧ cs.toList.take l.length = l.map (Value.int .u8)
theorem OutAt.kt {B : Nat} {w w' : World} {v : Value} {r : Res} (h : OutAt B w v r) (hK : Kt w w') : OutAt B w' v r := by
  rcases h with h | ⟨l, p, g, c, h1, h2, h3, h4, h6, cs, h5, h6'⟩
  · exact .inl h
  · exact .inr ⟨l, p, g, c, h1, h2, h3, h4, h6, cs, (hK _ _ _ h5 (by unfold rT; decide)).trans h5, h6'⟩
theorem OutAt.one {B : Nat} {w : World} {v : Value} {r : Res} (h : OutAt B w v r) : v.oneCell' = true := by
  rcases h with ⟨_, _, _, rfl⟩ | ⟨l, p, g, c, _, rfl, _⟩ <;> rfl

theorem OutAt.read {B q g : Nat} {w w' : World} {v : Value} {r : Res} (h : OutAt B w v r) {o : Obj} (hg : g = w.heap.size) (hM : Mod (fun k => k = q ∨ k = g) (w.alloc o) w') (hq : ∃ c, w.heap[q]? = some (Obj.cells c 64 (0, 0))) : OutAt B w' v r := by
  rcases h with h | ⟨l, p, b, c, h1, h2, h3, h4, h6, cs, h5, h6'⟩
  · exact .inl h
  · have hlt := (Array.getElem?_eq_some_iff.1 h5).1
    refine .inr ⟨l, p, b, c, h1, h2, h3, h4, h6, cs, (hM.block b (by simp; omega) (fun e => ?_)).trans ((heap_alloc_old w o hlt).trans h5), h6'⟩
    rcases e with e | e
    · obtain ⟨cq, hq⟩ := hq
      exact ne_of_type h5 hq (by decide) e
    · omega
theorem own_read {B q g e n : Nat} {w w' : World} {v : Value} {xs : List Value} (h : w.ownsRow B e 1 v n xs) {o : Obj} (hg : g = w.heap.size) (hM : Mod (fun k => k = q ∨ k = g) (w.alloc o) w') (hq : ∃ c, w.heap[q]? = some (Obj.cells c 64 (0, 0))) (he : e ≠ 64) : w'.ownsRow B e 1 v n xs := by
  refine owned_modS (h.alloc o) hM (fun b hb hk => ?_)
  have hlt := (h.lt b hb).2
  rcases h.2 with ⟨rfl, _⟩ | ⟨g', cap, cur, rfl, _, hg', _⟩
  · cases hb
  have e1 : g' = b := by simpa [Value.ownBlock] using hb
  rw [e1] at hg'
  rcases hk with hk | hk
  · obtain ⟨cq, hq⟩ := hq
    exact ne_of_type hg' hq he hk
  · omega
theorem madeCells_u8 (n : Nat) : (madeCells #[(.int .u8 0 : Value)] n).size = n := by simp [madeCells]
theorem info5 : (Tryd.prog.info? 5).map (fun i => (i.zero, i.size, i.bytes)) = some (some (.int .u8 0), 1, 1) := by kernel_rfl
theorem mk29 (n : Nat) (hn : n ≤ 100000) (w : World) : (Instr.makeSlice 29 (.int .i64 n) (.int .i64 n)).run Tryd.prog w = .ok (.slice (some ⟨w.heap.size, 0, none⟩) n n) (w.alloc (.cells (madeCells #[.int .u8 0] n) 5)) := by
  obtain ⟨i, hi, hz, hs, hb⟩ := info_parts info5
  have := run_make (P := Tryd.prog) w 29 5 i _ (by kernel_rfl) hi hz .i64 .i64 n n (by omega) (Int.le_refl _) (by rw [hb]; omega) (by omega)
  rw [hs, Nat.mul_one] at this
  exact this

theorem own_apart {w : World} {B B' e e' n n' : Nat} {v v' : Value} {xs xs' : List Value} (h : w.ownsRow B e 1 v n xs) (h' : w.ownsRow B' e' 1 v' n' xs') (hne : e ≠ e') : ∀ b, v.ownBlock = some b → v'.ownBlock ≠ some b := by
  intro b hb hb'
  rcases h.2 with ⟨rfl, _⟩ | ⟨g, cap, cur, rfl, _, hg, _⟩
  · cases hb
  rcases h'.2 with ⟨rfl, _⟩ | ⟨g', cap', cur', rfl, _, hg', _⟩
  · cases hb'
  have e1 : g = b := by simpa [Value.ownBlock] using hb
  have e2 : g' = b := by simpa [Value.ownBlock] using hb'
  rw [e1] at hg; rw [e2] at hg'
  exact ne_of_type hg hg' hne rfl
theorem own_kt {w w' : World} {B e n : Nat} {v : Value} {xs : List Value} (h : w.ownsRow B e 1 v n xs) (hM : Mod (fun k => v.ownBlock = some k) w w') (hT : ¬ rT e) : Kt w w' := by
  refine Kt.mod hM (fun k hk cs T hc => ?_)
  rcases h.2 with ⟨rfl, _⟩ | ⟨g, cap, cur, rfl, _, hg, _⟩
  · cases hk
  have e1 : g = k := by simpa [Value.ownBlock] using hk
  rw [e1, hc] at hg
  have e2 : T = e := by simpa using (by simpa using hg : cs = cur ∧ T = e).2
  rw [e2]; exact hT
theorem own_below {w w' : World} {B e n : Nat} {v : Value} {xs : List Value} (h : w.ownsRow B e 1 v n xs) (hB : B ≤ w.heap.size) (hM : Mod (fun k => v.ownBlock = some k) w w') : Below B w w' :=
  hM.below hB (fun k hk => (h.lt k hk).1)
/-- The plain data of chunks, laid out in a row. -/
def zval (f si : Int) (l : List Ck) (k : Nat) : Value := (zCells f si (l.getD (k / 9) default)).getD (k % 9) undef
theorem zval_at (f si : Int) (l : List Ck) (i j : Nat) (hj : j < 9) : zval f si l (i * 9 + j) = (zCells f si (l.getD i default)).getD j undef := by
  unfold zval
  rw [show (i * 9 + j) / 9 = i by omega, show (i * 9 + j) % 9 = j by omega]

/-- The loop of the pushes. -/
def PushRel (w : World) (QI : Nat → List Ck → World → Prop) (q : Nat) (cs : List Ck) (vi : Value) (wr : World) : Prop :=
  ∃ j D, j ≤ cs.length ∧ vi = .int .i64 (j : Nat) ∧ D.map (·.pc) = (cs.take j).map (·.pc) ∧ QI q D wr ∧ Below w.heap.size w wr
/-- The loop of the reads. -/
def ReadRel (w : World) (RI : Nat → Nat → World → Prop) (q N : Nat) (res : Nat → Res) (v10 v11 vi : Value) (wr : World) : Prop :=
  ∃ (j : Nat) (vals : List Value), j ≤ N ∧ vi = .int .i64 j ∧ wr.ownsRow w.heap.size 29 1 v10 j vals ∧ wr.ownsRow w.heap.size 22 1 v11 j ((List.range j).map fun k => .int .u32 (res k).pr) ∧ (∀ k x, vals[k]? = some x → OutAt w.heap.size wr x (res k)) ∧ RI q j wr ∧ Below w.heap.size w wr
/-- What the script hands back. -/
def ZzBack (w : World) (N : Nat) (res : Nat → Res) (e : Ending) (w' : World) : Prop :=
  ∃ v1 v2 vals, e = .returned (.tuple #[v1, v2]) ∧ w'.ownsRow w.heap.size 29 1 v1 N vals ∧ w'.ownsRow w.heap.size 22 1 v2 N ((List.range N).map fun k => .int .u32 (res k).pr) ∧ (∀ k x, vals[k]? = some x → OutAt w.heap.size w' x (res k)) ∧ Below w.heap.size w w'
end Go.Proofs.YtmniikihkpikdaaDoor
