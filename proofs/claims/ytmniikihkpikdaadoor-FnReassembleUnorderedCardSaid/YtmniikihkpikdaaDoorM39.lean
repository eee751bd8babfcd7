/- Part of the proof of laws.FnReassembleUnordered: the drawn statement on a frame, and the call of impl.Reassemble; conditions: as each theorem states. -/
import Derived.Test.YtmniikihkpikdaaDoorM38
namespace Go.Proofs.YtmniikihkpikdaaDoor
open Go.RowKit
set_option linter.unusedVariables false

theorem put_put (A : Act) (i : Nat) (x y : Value) : (A.put (some i) x).put (some i) y = A.put (some i) y := by
  simp [Act.put]
theorem put_comm (A : Act) (i j : Nat) (x y : Value) (h : i ≠ j) : (A.put (some i) x).put (some j) y = (A.put (some j) y).put (some i) x := by
  simp only [Act.put]
  rw [Array.setIfInBounds_comm _ _ h]
theorem put_self (A : Act) (i : Nat) (x : Value) (h : A.tmps[i]? = some x) : A.put (some i) x = A := by
  simp only [Act.put]
  have : A.tmps.setIfInBounds i x = A.tmps := by
    apply Array.ext_getElem?
    intro k
    rw [Array.getElem?_setIfInBounds]
    split
    · rename_i e; subst e
      split
      · exact h.symm
      · rename_i hk; rw [Array.getElem?_eq_none (by omega)]
    · rfl
  rw [this]
theorem put_eval (A : Act) (i : Nat) (x : Value) (h : i < A.tmps.size) : (A.put (some i) x).eval (.tmp i) = x := by
  simp [Act.put, Act.eval, Array.getD, h]
theorem put_eval_ne (A : Act) (i j : Nat) (x : Value) (h : i ≠ j) : (A.put (some i) x).eval (.tmp j) = A.eval (.tmp j) := by
  simp only [Act.put, Act.eval]
  rw [Array.getD_eq_getD_getElem?, Array.getD_eq_getD_getElem?, Array.getElem?_setIfInBounds_ne h]
theorem put_size (A : Act) (i : Nat) (x : Value) : (A.put (some i) x).tmps.size = A.tmps.size := by simp [Act.put]
def mkA (A : Act) (a b c d e : Value) : Act := ((((A.put (some 56) a).put (some 57) b).put (some 58) c).put (some 59) d).put (some 60) e
theorem mkA_ok {A : Act} {g2 m c2 : Nat} {oo : Option Addr} {on oc gb : Nat} (hs : 60 < A.tmps.size) (e13 : A.eval (.tmp 13) = .pointer (some ⟨gb, 0, none⟩)) (e54 : A.eval (.tmp 54) = .slice (some ⟨g2, 0, none⟩) m c2) (e55 : A.eval (.tmp 55) = .slice oo on oc) : UnMk g2 m c2 oo on oc gb (mkA A) := by
  refine ⟨?_, ?_, ?_, ?_, ?_, ?_, ?_, ?_, ?_, ?_, ?_⟩ <;> intro a b c d e <;> unfold mkA
  · intro x; rw [put_comm _ 60 56 _ _ (by decide), put_comm _ 59 56 _ _ (by decide), put_comm _ 58 56 _ _ (by decide), put_comm _ 57 56 _ _ (by decide), put_put]
  · intro x; rw [put_comm _ 60 57 _ _ (by decide), put_comm _ 59 57 _ _ (by decide), put_comm _ 58 57 _ _ (by decide), put_put]
  · intro x; rw [put_comm _ 60 58 _ _ (by decide), put_comm _ 59 58 _ _ (by decide), put_put]
  · intro x; rw [put_comm _ 60 59 _ _ (by decide), put_put]
  · intro x; rw [put_put]
  · rw [put_eval_ne _ 60 _ _ (by decide), put_eval_ne _ 59 _ _ (by decide), put_eval_ne _ 58 _ _ (by decide), put_eval_ne _ 57 _ _ (by decide), put_eval_ne _ 56 _ _ (by decide), e13]
  · rw [put_eval_ne _ 60 _ _ (by decide), put_eval_ne _ 59 _ _ (by decide), put_eval_ne _ 58 _ _ (by decide), put_eval_ne _ 57 _ _ (by decide), put_eval_ne _ 56 _ _ (by decide), e54]
  · rw [put_eval_ne _ 60 _ _ (by decide), put_eval_ne _ 59 _ _ (by decide), put_eval_ne _ 58 _ _ (by decide), put_eval_ne _ 57 _ _ (by decide), put_eval_ne _ 56 _ _ (by decide), e55]
  · rw [put_eval_ne _ 60 _ _ (by decide), put_eval_ne _ 59 _ _ (by decide), put_eval_ne _ 58 _ _ (by decide), put_eval_ne _ 57 _ _ (by decide), put_eval _ _ _ (by omega)]
  · rw [put_eval_ne _ 60 _ _ (by decide), put_eval_ne _ 59 _ _ (by decide), put_eval_ne _ 58 _ _ (by decide), put_eval _ _ _ (by rw [put_size]; omega)]
  · rw [put_eval_ne _ 60 _ _ (by decide), put_eval_ne _ 59 _ _ (by decide), put_eval _ _ _ (by rw [put_size, put_size]; omega)]

theorem un_draw {ops : Array Oper} {Q : Exit → Act → World → Prop} {A : Act} {W0 : World} {f si : Int} {rs : List Dk} {bk : Dk} {g2 m c2 : Nat} {oo : Option Addr} {on oc gb : Nat}
    (hm : m = rs.length) (hm1 : m ≤ 1000)
    (hmix : ∀ W, Below W0.heap.size W0 W → Calls Tryd.prog 10 #[.slice (some ⟨g2, 0, none⟩) m c2, .slice oo on oc] W (MixBack W f si rs))
    (hgb : W0.heap[gb]? = some (.cells (dCells f si bk) 31 (0, 0)))
    (hr : ∀ b2 b3 b4 b5 b6, Region.ready .any ops #[true, true, b2, b3, b4, b5, b6, false, false, false, false, false, false, false, false] = rdu b2 b3 b4 b5 b6)
    (o2 : ∃ o, ops[2]? = some o ∧ o.guard = none ∧ o.op = .call { callee := .value (.func 10), args := #[.tmp 54, .tmp 55], argTypes := #[27, 24] } ∧ o.dst = some 56)
    (o3 : ∃ o, ops[3]? = some o ∧ o.guard = none ∧ o.op = .load 31 (.tmp 13) ∧ o.dst = some 57)
    (o4 : ∃ o, ops[4]? = some o ∧ o.guard = none ∧ o.op = .buildSlice 27 1 #[(0, .tmp 57)] ∧ o.dst = some 58)
    (o5 : ∃ o, ops[5]? = some o ∧ o.guard = none ∧ o.op = .call { callee := .builtin .append, args := #[.tmp 56, .tmp 58], argTypes := #[27, 27] } ∧ o.dst = some 59)
    (o6 : ∃ o, ops[6]? = some o ∧ o.guard = none ∧ o.op = .buildSlice 24 2 #[(0, .const (.int .i64 4096)), (1, .const (.int .i64 4096))] ∧ o.dst = some 60)
    (hs : 60 < A.tmps.size) (e13 : A.eval (.tmp 13) = .pointer (some ⟨gb, 0, none⟩)) (e54 : A.eval (.tmp 54) = .slice (some ⟨g2, 0, none⟩) m c2) (e55 : A.eval (.tmp 55) = .slice oo on oc)
    (u56 : A.tmps[56]? = some undef) (u57 : A.tmps[57]? = some undef) (u58 : A.tmps[58]? = some undef) (u59 : A.tmps[59]? = some undef) (u60 : A.tmps[60]? = some undef)
    (hc : ∀ v2 v3 v4 v5 v6 w, Below W0.heap.size W0 w → Row59 w W0.heap.size f si rs bk v5 → Row60 w v6 → wpAny Tryd.prog .any ops Q 8 #[true, true, true, true, true, true, true, false, false, false, false, false, false, false, false] (mkA A v2 v3 v4 v5 v6) w) :
    wpAny Tryd.prog .any ops Q 13 #[true, true, false, false, false, false, false, false, false, false, false, false, false, false, false] A W0 := by
  refine wpAny_down 8 (UnR W0 f si rs bk (mkA A)) ?_ (un_steps hr (mkA_ok hs e13 e54 e55) hm hm1 hmix hgb o2 o3 o4 o5 o6) 5 _ _ _ ?_
  · rintro listed a w ⟨b2, b3, b4, b5, b6, rfl, hn, h43, h524, hB, v2, v3, v4, v5, v6, rfl, h2, h3, h4, h5, h6⟩
    obtain ⟨rfl, rfl, rfl, rfl, rfl⟩ : b2 = true ∧ b3 = true ∧ b4 = true ∧ b5 = true ∧ b6 = true := by
      clear h2 h3 h4 h5 h6 h43 h524
      cases b2 <;> cases b3 <;> cases b4 <;> cases b5 <;> cases b6 <;> simp at hn ⊢
    exact hc v2 v3 v4 v5 v6 w hB (h5 rfl) (h6 rfl)
  · refine ⟨false, false, false, false, false, rfl, rfl, (fun h => by cases h), (fun h => by cases h), ⟨rfl, rfl, rfl, Nat.le_refl _, fun _ _ => rfl⟩, undef, undef, undef, undef, undef, ?_, (fun h => by cases h), (fun h => by cases h), (fun h => by cases h), (fun h => by cases h), (fun h => by cases h)⟩
    unfold mkA
    rw [put_self A 56 _ u56, put_self A 57 _ u57, put_self A 58 _ u58, put_self A 59 _ u59, put_self A 60 _ u60]

def unDk (d : Dk) : Dk := { d with pc := unPc d.pc }
theorem un_re {W : World} {B : Nat} {f st : Int} {b : List Int} {s m : Nat} {ds : List Dk} {bk : Dk} {v5 v6 : Value} (h59 : Row59 W B f st (ds.map unDk) bk v5) (h60 : Row60 W v6) (hpc : ds.map (·.pc) = upTo [b] s 1) (hm : m = ds.length) (hmc : m = cnt b.length s) (hs0 : 1 ≤ s) (hm2 : m ≤ 200) (hm0 : 0 < m)
    (hdk : ∀ d ∈ ds, DkAt W d) (hbk : DkAt W bk) (hun : bk.pc.un = false) (hfin : bk.pc.fin = false) (hk : bk.pc.k = 0) (hlen : 0 < b.length ∧ b.length ≤ 200) (hby : ∀ i, 0 ≤ b.getD i 0 ∧ b.getD i 0 < 256) (hg0 : GlobErr W 0) (hg1 : GlobErr W 1) (hst : 0 ≤ st ∧ st < 65536) :
    Calls Tryd.prog 9 #[v5, v6] W (ReBack W 2 (unRes b)) := by
  obtain ⟨rs', g, c, q1, rfl, q2⟩ := h59
  obtain ⟨g6, rfl, hg6⟩ := h60
  have b0 : 0 < W.heap.size := by obtain ⟨u, v, h⟩ := hg0; exact lt_of_cell h
  have b1 : 1 < W.heap.size := by obtain ⟨u, v, h⟩ := hg1; exact lt_of_cell h
  have hl : rs'.length = m := by rw [q1.length_eq, List.length_map, hm]
  have hll : (rs' ++ [bk]).length = m + 1 := by rw [List.length_append, hl]; rfl
  have hdk' : ∀ d ∈ rs' ++ [bk], DkAt W d := fun d hd => by
    rcases List.mem_append.1 hd with h | h
    · obtain ⟨y, hy, rfl⟩ := List.mem_map.1 (q1.mem_iff.1 h)
      obtain ⟨a1, a2, a3, a4, a5⟩ := hdk y hy
      exact ⟨a1, a2, a3, a4, a5⟩
    · rw [List.mem_singleton.1 h]; exact hbk
  rw [List.length_map, ← hm] at q2 ⊢
  rw [← hll] at q2 ⊢
  refine re_any (f := f) (si := st) (sz := fun _ => 4096) (ds := rs' ++ [bk]) (fun W' zs hb hz => ?_) (row_of_recs q2) hdk' ?_ (by omega) (by omega) (by omega) (fun _ => by omega) hst ?_
  · have hz1 : (zs.take m).map (·.pc) = rs'.map (·.pc) := by
      rw [List.map_take, hz, List.map_append, List.take_left' (by rw [List.length_map, hl])]
    refine un_hyp (s := s) (m := m) (pcb := bk.pc) ⟨hmc, by omega, ?_, ?_, hun, hfin, hk⟩ (by omega) hm0 (by omega) (fun c hc => ?_) (glob_below hg0 hb b0) (glob_below hg1 hb b1)
    · rw [hz1]
      have h1 := q1.map (·.pc)
      have h2 : (ds.map unDk).map (·.pc) = (upTo [b] s 1).map unPc := by rw [← hpc, List.map_map, List.map_map]; rfl
      rw [h2] at h1
      exact h1
    · rw [hz, hz1, List.map_append]; rfl
    · have : c.pc ∈ (rs' ++ [bk]).map (·.pc) := by rw [← hz]; exact List.mem_map.2 ⟨c, hc, rfl⟩
      obtain ⟨d, hd, e⟩ := List.mem_map.1 this
      rw [← e]; exact (hdk' d hd).pos
  · refine .inr ⟨g6, rfl, Nat.zero_le _, (Array.getElem?_eq_some_iff.1 hg6).1, Nat.le_refl _, fun k hk => ?_⟩
    rw [cell_of_block hg6]
    rcases (show k = 0 ∨ k = 1 by omega) with rfl | rfl <;> rfl
  · intro k l p h
    unfold unRes at h
    split at h
    · obtain ⟨rfl, rfl⟩ : b = l ∧ (50 : Int) = p := by simpa using h
      exact ⟨hlen.1, hby, by omega, by omega⟩
    · cases h
end Go.Proofs.YtmniikihkpikdaaDoor
