/- Part of the proofs of the three laws on reassembly: plain lists: pieces sorted, messages put together again, and a message of which a piece is missing; conditions: as each theorem states. -/
import Derived.Test.YtmniikihkpikdaaDoorM25
namespace Go.Proofs.YtmniikihkpikdaaDoor
open Go.RowKit
set_option linter.unusedVariables false

theorem sorted_eq {α : Type} (key : α → Int) : ∀ (l2 l1 : List α), l1.Perm l2 → l1.Pairwise (fun a b => key a ≤ key b) → l2.Pairwise (fun a b => key a < key b) → l1 = l2
  | [], l1, hp, _, _ => by simpa using hp.length_eq
  | a :: t, [], hp, _, _ => by have := hp.length_eq; simp at this
  | a :: t, h :: r, hp, h1, h2 => by
    have ha : a ∈ h :: r := hp.mem_iff.2 (by simp)
    have hh : h ∈ a :: t := hp.mem_iff.1 (by simp)
    have e : h = a := by
      rcases List.mem_cons.1 hh with e | hh
      · exact e
      · have k1 := (List.pairwise_cons.1 h2).1 h hh
        rcases List.mem_cons.1 ha with e | ha
        · exact e.symm
        · have k2 := (List.pairwise_cons.1 h1).1 a ha
          omega
    subst e
    rw [sorted_eq key t r (List.Perm.cons_inv hp) (List.pairwise_cons.1 h1).2 (List.pairwise_cons.1 h2).2]

theorem msg_k {base k : Nat} {b : List Int} {s : Nat} {x : Pc} (h : x ∈ msgPcs base k b s) : ∃ i, i < cnt b.length s ∧ x = pcAt base k b s i := by
  obtain ⟨i, hi, e⟩ := List.mem_map.1 h
  exact ⟨i, List.mem_range.1 hi, e.symm⟩
theorem upTo_mem {ms : List (List Int)} {s : Nat} : ∀ {n : Nat} {x : Pc}, x ∈ upTo ms s n → ∃ k, k < n ∧ ∃ i, i < cnt (ms.getD k []).length s ∧ x = pcAt (upTo ms s k).length k (ms.getD k []) s i
  | 0, x, h => by cases h
  | n + 1, x, h => by
    rcases List.mem_append.1 (show x ∈ upTo ms s n ++ _ from h) with h | h
    · obtain ⟨k, hk, r⟩ := upTo_mem h
      exact ⟨k, by omega, r⟩
    · obtain ⟨i, hi, e⟩ := msg_k h
      exact ⟨n, by omega, i, hi, e⟩
theorem upTo_filter_none {ms : List (List Int)} {s : Nat} : ∀ (n i : Nat), n ≤ i → (upTo ms s n).filter (fun c => decide (c.k = (i : Int))) = [] := by
  intro n i h
  rw [List.filter_eq_nil_iff]
  intro x hx
  obtain ⟨k, hk, j, _, rfl⟩ := upTo_mem hx
  intro h
  have h := of_decide_eq_true h
  simp only [pcAt] at h
  omega
theorem upTo_filter {ms : List (List Int)} {s : Nat} : ∀ (n i : Nat), i < n → (upTo ms s n).filter (fun c => decide (c.k = (i : Int))) = msgPcs (upTo ms s i).length i (ms.getD i []) s
  | 0, i, h => by omega
  | n + 1, i, h => by
    show (upTo ms s n ++ msgPcs _ _ _ _).filter _ = _
    rw [List.filter_append]
    by_cases hi : i < n
    · rw [upTo_filter n i hi]
      have : (msgPcs (upTo ms s n).length n (ms.getD n []) s).filter (fun c => decide (c.k = (i : Int))) = [] := by
        rw [List.filter_eq_nil_iff]
        intro x hx
        obtain ⟨j, _, rfl⟩ := msg_k hx
        intro h
        have h := of_decide_eq_true h
        simp only [pcAt] at h
        omega
      rw [this, List.append_nil]
    · obtain rfl : i = n := by omega
      rw [upTo_filter_none i i (Nat.le_refl _), List.nil_append]
      rw [List.filter_eq_self]
      intro x hx
      obtain ⟨j, _, rfl⟩ := msg_k hx
      simp [pcAt]
theorem msg_p (base k : Nat) (b : List Int) (s : Nat) : (msgPcs base k b s).Pairwise (fun a c => a.p < c.p) := by
  unfold msgPcs
  rw [List.pairwise_map]
  refine List.pairwise_lt_range.imp (fun {a c} h => ?_)
  simp only [pcAt]; omega
theorem upTo_p {ms : List (List Int)} {s : Nat} : ∀ n, (upTo ms s n).Pairwise (fun a c => a.p < c.p) ∧ ∀ x ∈ upTo ms s n, 0 ≤ x.p ∧ x.p < (upTo ms s n).length
  | 0 => ⟨List.Pairwise.nil, fun x h => by cases h⟩
  | n + 1 => by
    obtain ⟨h1, h2⟩ := upTo_p (ms := ms) (s := s) n
    have e : (upTo ms s (n + 1)).length = (upTo ms s n).length + cnt (ms.getD n []).length s := by
      show (upTo ms s n ++ msgPcs _ _ _ _).length = _
      rw [List.length_append, msgPcs_len]
    constructor
    · refine List.pairwise_append.2 ⟨h1, msg_p _ _ _ _, fun a ha c hc => ?_⟩
      obtain ⟨i, _, rfl⟩ := msg_k hc
      have := (h2 a ha).2
      simp only [pcAt]; omega
    · intro x hx
      rw [e]
      rcases List.mem_append.1 (show x ∈ upTo ms s n ++ _ from hx) with h | h
      · have := h2 x h; omega
      · obtain ⟨i, hi, rfl⟩ := msg_k h
        simp only [pcAt]; omega
theorem upTo_apart {ms : List (List Int)} {s n : Nat} : (upTo ms s n).Pairwise ApartP := by
  have h1 := (upTo_p (ms := ms) (s := s) n).1
  rw [List.pairwise_iff_getElem] at h1 ⊢
  intro i j hi hj hij
  have hp := h1 i j hi hj hij
  refine ⟨by omega, fun hk => ?_⟩
  obtain ⟨k, hk1, a, ha, ea⟩ := upTo_mem (List.getElem_mem hi)
  obtain ⟨k', hk2, c, hc, ec⟩ := upTo_mem (List.getElem_mem hj)
  rw [ea, ec] at hp hk ⊢
  simp only [pcAt] at hk hp
  obtain rfl : k = k' := by omega
  have : a < c := by omega
  constructor
  · simp only [Pc.frag, pcAt, Bool.or_eq_true, Bool.not_eq_true', decide_eq_false_iff_not]; right; omega
  · simp only [Pc.frag, pcAt, Bool.or_eq_true, Bool.not_eq_true', decide_eq_false_iff_not]; left; omega
theorem apart_symm {a b : Pc} (h : ApartP a b) : ApartP b a := ⟨fun e => h.1 e.symm, fun e => ⟨(h.2 e.symm).2, (h.2 e.symm).1⟩⟩

theorem take_pieces (b : List Int) (s : Nat) : ∀ m, (List.range m).flatMap (fun i => (b.drop (i * s)).take s) = b.take (m * s)
  | 0 => by simp
  | m + 1 => by
    rw [List.range_succ, List.flatMap_append, take_pieces b s m, List.flatMap_singleton, Nat.succ_mul, List.take_add]
theorem msg_bytes (base k : Nat) (b : List Int) (s : Nat) (hs : 0 < s) : (msgPcs base k b s).flatMap (·.bytes) = b := by
  unfold msgPcs
  rw [List.flatMap_map]
  have : (List.range (cnt b.length s)).flatMap (fun i => (b.drop (i * s)).take s) = b := by
    rw [take_pieces]
    apply List.take_of_length_le
    rcases Nat.lt_or_ge (cnt b.length s * s) b.length with h | h
    · have := (cnt_lt (L := b.length) (s := s) (i := cnt b.length s) hs).2 h
      omega
    · exact h
  exact this

theorem rising (l : List Int) : ∀ (lo : Int) (m : Nat), l.Pairwise (· < ·) → (∀ a ∈ l, lo ≤ a) → (∀ i : Nat, i < m → lo + i ∈ l) → ∀ i : Nat, i < m → l[i]? = some (lo + i) := by
  induction l with
  | nil => intro lo m _ _ h i hi; have := h i hi; cases this
  | cons a t ih =>
    intro lo m hp hlo hall i hi
    have h0 := hall 0 (by omega)
    have ea : a = lo := by
      have k1 := hlo a (by simp)
      rcases List.mem_cons.1 h0 with e | h0
      · omega
      · have := (List.pairwise_cons.1 hp).1 _ h0
        omega
    subst ea
    cases i with
    | zero => simp
    | succ i =>
      rw [List.getElem?_cons_succ]
      have := ih (a + 1) (m - 1) (List.pairwise_cons.1 hp).2 (fun b hb => by have := (List.pairwise_cons.1 hp).1 b hb; omega) (fun j hj => by
        have h1 := hall (j + 1) (by omega)
        rcases List.mem_cons.1 h1 with e | h1
        · omega
        · rw [show a + 1 + (j : Int) = a + ((j + 1 : Nat) : Int) by omega]; exact h1) i (by omega)
      rw [this]
      congr 1
      omega

/-- A whole set, told of its pieces. -/
def ComplP (l : List Pc) : Prop := l ≠ [] ∧ (l.getD 0 default).beg = true ∧ (l.getD (l.length - 1) default).fin = true ∧ ∀ j, j + 1 < l.length → (l.getD (j + 1) default).p = (l.getD j default).p + 1
theorem getD_pc (l : List Ck) (j : Nat) : ((l.map (·.pc)).getD j default) = (l.getD j default).pc := by
  rw [List.getD_eq_getElem?_getD, List.getD_eq_getElem?_getD, List.getElem?_map]
  cases l[j]? <;> rfl
theorem compl_iff (l : List Ck) : Compl l ↔ ComplP (l.map (·.pc)) := by
  unfold Compl ComplP
  simp only [getD_pc, List.length_map]
  constructor
  · rintro ⟨h, r⟩; exact ⟨by simpa using h, r⟩
  · rintro ⟨h, r⟩; exact ⟨by simpa using h, r⟩
theorem msg_getD (base k : Nat) (b : List Int) (s i : Nat) (hi : i < cnt b.length s) : (msgPcs base k b s).getD i default = pcAt base k b s i := by
  unfold msgPcs
  rw [List.getD_eq_getElem?_getD, List.getElem?_map, List.getElem?_range hi]; rfl
theorem msg_compl (base k : Nat) (b : List Int) (s : Nat) (h : 0 < cnt b.length s) : ComplP (msgPcs base k b s) := by
  have hl := msgPcs_len base k b s
  refine ⟨fun e => by rw [e] at hl; simp at hl; omega, ?_, ?_, fun j hj => ?_⟩
  · rw [msg_getD _ _ _ _ _ h]; simp [pcAt]
  · rw [hl, msg_getD _ _ _ _ _ (by omega)]
    simp only [pcAt, decide_eq_true_eq]; omega
  · rw [hl] at hj
    rw [msg_getD _ _ _ _ _ hj, msg_getD _ _ _ _ _ (by omega)]
    simp only [pcAt]; omega
/-- A message of which a piece lacks is not whole. -/
theorem not_compl (base k : Nat) (b : List Int) (s : Nat) (l : List Pc) (hm : ∀ x ∈ l, ∃ i, i < cnt b.length s ∧ x = pcAt base k b s i) (hl : l.length < cnt b.length s) : ¬ ComplP l := by
  rintro ⟨hne, hb, hf, hc⟩
  have hl0 : 0 < l.length := List.length_pos_iff.2 hne
  have hg : ∀ j, j < l.length → ∃ i, i < cnt b.length s ∧ l.getD j default = pcAt base k b s i := fun j hj => by
    have : l.getD j default ∈ l := by rw [List.getD_eq_getElem?_getD, List.getElem?_eq_getElem hj]; exact List.getElem_mem _
    exact hm _ this
  have hp : ∀ j, j < l.length → (l.getD j default).p = (l.getD 0 default).p + j := by
    intro j
    induction j with
    | zero => intro _; simp
    | succ j ih => intro hj; rw [hc j hj, ih (by omega)]; omega
  obtain ⟨i0, h0, e0⟩ := hg 0 hl0
  obtain ⟨i1, h1, e1⟩ := hg (l.length - 1) (by omega)
  rw [e0] at hb; rw [e1] at hf
  simp only [pcAt, decide_eq_true_eq] at hb hf
  have := hp (l.length - 1) (by omega)
  rw [e0, e1] at this
  simp only [pcAt] at this
  omega
end Go.Proofs.YtmniikihkpikdaaDoor
