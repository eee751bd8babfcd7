/- Part of the proofs of the three laws on reassembly: a script of pushes without a place, one push in order behind them, and two reads; conditions: as each theorem states. -/
import Derived.Test.YtmniikihkpikdaaDoorM35
namespace Go.Proofs.YtmniikihkpikdaaDoor
open Go.RowKit
set_option linter.unusedVariables false

/-- A piece that has no place in an order. -/
def unPc (c : Pc) : Pc := { c with un := true }
structure UnP (b : List Int) (s m : Nat) (cs : List Ck) (pcb : Pc) : Prop where
  hm : m = cnt b.length s
  hs : 0 < s
  perm : ((cs.take m).map (·.pc)).Perm ((msgPcs 0 0 b s).map unPc)
  all : cs.map (·.pc) = (cs.take m).map (·.pc) ++ [pcb]
  un : pcb.un = false
  fin : pcb.fin = false
  k : pcb.k = 0
theorem UnP.len {b : List Int} {s m : Nat} {cs : List Ck} {pcb : Pc} (h : UnP b s m cs pcb) : cs.length = m + 1 := by
  have h1 := congrArg List.length h.all
  have h2 := h.perm.length_eq
  rw [List.length_map, List.length_append, List.length_map] at h1
  rw [List.length_map, List.length_map, msgPcs_len, ← h.hm] at h2
  rw [h1, h2]; rfl
/-- What a piece tells. -/
structure PieceP (m : Nat) (c : Pc) : Prop where
  un : c.un = true
  k : c.k = 0
  proto : c.proto = 50
  beg : c.beg = decide (c.p = 0)
  fin : c.fin = decide (c.p + 1 = (m : Int))
  rng : 0 ≤ c.p ∧ c.p < m
theorem piece_of {b : List Int} {s m : Nat} (hm : m = cnt b.length s) {c : Pc} (h : c ∈ (msgPcs 0 0 b s).map unPc) : PieceP m c := by
  obtain ⟨y, hy, rfl⟩ := List.mem_map.1 h
  obtain ⟨i, hi, rfl⟩ := msg_k hy
  rw [← hm] at hi
  refine ⟨rfl, rfl, rfl, ?_, ?_, ?_⟩
  · show decide (i = 0) = decide (((0 + i : Nat) : Int) = 0)
    congr 1
    rw [eq_iff_iff]; omega
  · show decide (i + 1 = cnt b.length s) = decide (((0 + i : Nat) : Int) + 1 = (m : Int))
    rw [← hm]
    congr 1
    rw [eq_iff_iff]; omega
  · show 0 ≤ ((0 + i : Nat) : Int) ∧ ((0 + i : Nat) : Int) < m
    omega
theorem UnP.at {b : List Int} {s m : Nat} {cs : List Ck} {pcb : Pc} (h : UnP b s m cs pcb) {j : Nat} (hj : j < m) : PieceP m (cs.getD j default).pc := by
  have hl := h.len
  refine piece_of h.hm (h.perm.mem_iff.1 (List.mem_map.2 ⟨cs.getD j default, ?_, rfl⟩))
  rw [List.getD_eq_getElem?_getD, List.getElem?_eq_getElem (by omega : j < cs.length)]
  show cs[j] ∈ cs.take m
  rw [List.mem_take_iff_getElem]
  exact ⟨j, by omega, rfl⟩
theorem UnP.last {b : List Int} {s m : Nat} {cs : List Ck} {pcb : Pc} (h : UnP b s m cs pcb) : (cs.getD m default).pc = pcb := by
  have hl := h.len
  have h1 := congrArg (fun l => l[m]?) h.all
  have h2 : ((cs.take m).map (·.pc)).length = m := by rw [List.length_map, List.length_take]; omega
  simp only [List.getElem?_map] at h1
  rw [List.getElem?_append_right (by omega), h2, Nat.sub_self, List.getElem?_eq_getElem (by omega : m < cs.length)] at h1
  rw [List.getD_eq_getElem?_getD, List.getElem?_eq_getElem (by omega : m < cs.length)]
  simpa using h1
theorem UnP.nodup {b : List Int} {s m : Nat} {cs : List Ck} {pcb : Pc} (h : UnP b s m cs pcb) : (((cs.take m).map (·.pc)).map (·.p)).Nodup := by
  refine ((h.perm.map (·.p)).nodup_iff).2 ?_
  rw [List.map_map, List.Nodup, List.pairwise_map]
  exact (msg_p 0 0 b s).imp (fun h e => by simp only [Function.comp, unPc] at e; omega)
/-- Sorted pieces are the message. -/
theorem un_bytes {b : List Int} {s m : Nat} {L : List Ck} (hs : 0 < s) (hp : (L.map (·.pc)).Perm ((msgPcs 0 0 b s).map unPc)) (hO : OneMsg m L) : allBytes L = b := by
  have e : L.map (·.pc) = (msgPcs 0 0 b s).map unPc := sorted_eq (fun c : Pc => c.p) _ _ hp (by rw [List.pairwise_map]; exact hO.srt.imp (fun h => Int.le_of_lt h)) (by
    rw [List.pairwise_map]; exact msg_p 0 0 b s)
  have := msg_bytes 0 0 b s hs
  unfold allBytes
  have h2 : L.flatMap (fun c => c.pc.bytes) = (L.map (·.pc)).flatMap (·.bytes) := by rw [List.flatMap_map]
  rw [h2, e, List.flatMap_map]
  exact this

/-- What a push hands back, whatever holds behind it. -/
def WrapBack (P : World → Prop) (e : Ending) (w' : World) : Prop := (∃ r : Bool, e = .returned (.bool r)) ∧ P w'
set_option maxHeartbeats 400000 in
theorem push_wrap {w : World} {q b : Nat} {P : World → Prop} (h : Calls Tryd.prog 19 #[ptr q, ptr b] w fun e w' => (∃ r : Bool, e = .returned (.tuple #[.bool r, Value.nilIface])) ∧ P w') : Calls Tryd.prog 16 #[ptr q, ptr b] w (WrapBack P) := by
  have HP := Lib.hid h
  unfold ptr at HP ⊢
  clear h
  go_enter Tryd.func16, Tryd.ntmps16
  go_wp2_with fail
  refine HP.out.mono ?_
  rintro e w' ⟨⟨r, rfl⟩, hp⟩
  have HPP := Lib.hid hp
  clear hp
  go_wp2_with fail
  go_ret
  exact ⟨⟨r, rfl⟩, HPP.out⟩

/-- A whole message is there, and other memory has turned. -/
theorem UDone.mod' {w w' : World} {B : Nat} {f si : Int} {x : QSt} {t : SetSt} (h : UDone w B f si x t) (hM : Mod (fun _ => False) w w') : UDone w' B f si x t := by
  obtain ⟨h1, h2, h3, ub, uc, h4, h5, h6, h7⟩ := h
  exact ⟨h1.mod' hM, h2, h3.mod hM (fun h => h) (fun h => h) (fun c hc => (h3.ck c hc).mod' hM), ub, uc, h4, h5, owned_mod h6 hM, h7⟩
/-- Behind the last push. -/
def ULast (w : World) (B : Nat) (f si : Int) (x : QSt) (t : SetSt) : Prop :=
  QAt w B f si x ∧ (∃ tb, x.ord = [tb] ∧ ¬ Compl tb.l ∧ ∀ c ∈ tb.l, 0 < c.pc.bytes.length) ∧ SetAt w B f si t ∧ ∃ ub uc, x.v4 = .slice (some ⟨ub, 0, none⟩) 1 uc ∧ 1 ≤ uc ∧ w.ownsRow B 72 1 (.slice (some ⟨ub, 0, none⟩) 1 uc) 1 [ptr t.s]
theorem ULast.mod' {w w' : World} {B : Nat} {f si : Int} {x : QSt} {t : SetSt} (h : ULast w B f si x t) (hM : Mod (fun _ => False) w w') : ULast w' B f si x t := by
  obtain ⟨h1, h2, h3, ub, uc, h4, h5, h6⟩ := h
  exact ⟨h1.mod' hM, h2, h3.mod hM (fun h => h) (fun h => h) (fun c hc => (h3.ck c hc).mod' hM), ub, uc, h4, h5, owned_mod h6 hM⟩
/-- What is known of the queue behind j pushes. -/
def UState (B : Nat) (f si : Int) (m : Nat) (D : List Pc) (j q : Nat) (w : World) : Prop :=
  (j < m ∧ ∃ (x : QSt) (L : List Ck), x.q = q ∧ UQ w B f si x L ∧ V4 w B x ∧ x.ord = [] ∧ x.nssn = 0 ∧ (L.map (·.pc)).Perm D ∧ OneMsg m L ∧ x.nb ≤ 4096 * j) ∨
  (j = m ∧ ∃ (x : QSt) (t : SetSt), x.q = q ∧ UDone w B f si x t ∧ x.nssn = 0 ∧ (t.l.map (·.pc)).Perm D ∧ OneMsg m t.l ∧ t.ppi = 50 ∧ x.nb ≤ 4096 * j) ∨
  (j = m + 1 ∧ ∃ (x : QSt) (t : SetSt), x.q = q ∧ ULast w B f si x t ∧ x.nssn = 0 ∧ (t.l.map (·.pc)).Perm (D.take m) ∧ OneMsg m t.l ∧ t.ppi = 50 ∧ t.l.length = m)
def QIu (B : Nat) (f si : Int) (m : Nat) (cs : List Ck) (q : Nat) (D : List Ck) (w : World) : Prop :=
  B ≤ w.heap.size ∧ ∃ j, j ≤ m + 1 ∧ D.map (·.pc) = (cs.take j).map (·.pc) ∧ UState B f si m (D.map (·.pc)) j q w
end Go.Proofs.YtmniikihkpikdaaDoor
