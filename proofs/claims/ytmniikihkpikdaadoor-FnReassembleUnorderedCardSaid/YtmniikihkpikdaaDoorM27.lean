/- Part of the proofs of the three laws on reassembly: what the sets of a queue answer to reads, as plain lists; conditions: as each theorem states. -/
import Derived.Test.YtmniikihkpikdaaDoorM26
namespace Go.Proofs.YtmniikihkpikdaaDoor
open Go.RowKit
set_option linter.unusedVariables false

theorem set_full {ord : List SetSt} {pcs : List Pc} (hO : OrdP ord pcs) {t : SetSt} (ht : t ∈ ord) {base i : Nat} {b : List Int} {s : Nat} (hk : t.k = (i : Int)) (hs : 0 < s) (hc : 0 < cnt b.length s)
    (hf : (pcs.filter fun c => decide (c.k = (i : Int))).Perm (msgPcs base i b s)) : Compl t.l ∧ allBytes t.l = b ∧ t.ppi = ((50 + i : Nat) : Int) := by
  have hp := hO.perm t ht
  rw [hk] at hp
  have e : t.l.map (·.pc) = msgPcs base i b s := sorted_eq (fun c : Pc => c.p) _ _ (hp.trans hf) (by rw [List.pairwise_map]; exact hO.lsrt t ht) (msg_p _ _ _ _)
  refine ⟨(compl_iff _).2 (by rw [e]; exact msg_compl _ _ _ _ hc), ?_, ?_⟩
  · have := msg_bytes base i b s hs
    rw [← e, List.flatMap_map] at this
    exact this
  · obtain ⟨c, hc, h⟩ := hO.ppi t ht
    have : c.pc ∈ msgPcs base i b s := by rw [← e]; exact List.mem_map.2 ⟨c, hc, rfl⟩
    obtain ⟨j, _, e'⟩ := msg_k this
    rw [← h, e']; rfl
theorem ord_at {ord : List SetSt} {pcs : List Pc} (hO : OrdP ord pcs) (hk0 : ∀ c ∈ pcs, 0 ≤ c.k) {m : Nat} (hm : ∀ i : Nat, i < m → ∃ c ∈ pcs, c.k = (i : Int)) :
    (∀ i : Nat, i < m → ∃ t, ord[i]? = some t ∧ t.k = (i : Int)) ∧ ∀ t, ord[m]? = some t → (m : Int) ≤ t.k := by
  have hmem : ∀ t ∈ ord, ∃ c ∈ pcs, c.k = t.k := fun t ht => by
    have hne := hO.ne t ht
    obtain ⟨c, hc⟩ := List.exists_mem_of_ne_nil _ hne
    have := (hO.perm t ht).mem_iff.1 (List.mem_map.2 ⟨c, hc, rfl⟩)
    rw [List.mem_filter] at this
    exact ⟨c.pc, this.1, of_decide_eq_true this.2⟩
  have hr := rising (ord.map (·.k)) 0 m (by rw [List.pairwise_map]; exact hO.srt) (fun a ha => by
      obtain ⟨t, ht, rfl⟩ := List.mem_map.1 ha
      obtain ⟨c, hc, e⟩ := hmem t ht
      rw [← e]; exact hk0 c hc) (fun i hi => by
      obtain ⟨c, hc, e⟩ := hm i hi
      obtain ⟨t, ht, e'⟩ := hO.all c hc
      exact List.mem_map.2 ⟨t, ht, by omega⟩)
  have h1 : ∀ i : Nat, i < m → ∃ t, ord[i]? = some t ∧ t.k = (i : Int) := fun i hi => by
    have := hr i hi
    rw [List.getElem?_map] at this
    cases h : ord[i]? with
    | none => rw [h] at this; cases this
    | some t => rw [h] at this; exact ⟨t, rfl, by have : t.k = 0 + (i : Int) := Option.some.inj this; omega⟩
  refine ⟨h1, fun t ht => ?_⟩
  cases m with
  | zero =>
    obtain ⟨c, hc, e⟩ := hmem t (List.mem_of_getElem? ht)
    have := hk0 c hc; omega
  | succ m =>
    obtain ⟨u, hu, eu⟩ := h1 m (by omega)
    have hs := List.pairwise_iff_getElem.1 hO.srt m (m + 1) (List.getElem?_eq_some_iff.1 hu).1 (List.getElem?_eq_some_iff.1 ht).1 (by omega)
    rw [(List.getElem?_eq_some_iff.1 hu).2, (List.getElem?_eq_some_iff.1 ht).2] at hs
    omega
theorem drop_cons {α : Type} {l : List α} {j : Nat} {t : α} (h : l[j]? = some t) : l.drop j = t :: l.drop (j + 1) := by
  obtain ⟨h1, h2⟩ := List.getElem?_eq_some_iff.1 h
  rw [List.drop_eq_getElem_cons h1, h2]

/-- Pieces but one. -/
structure Lost (ms : List (List Int)) (s n kk lo : Nat) (pcs : List Pc) : Prop where
  hs : 0 < s
  hlen : ∀ i, i < n → 0 < (ms.getD i []).length
  hsm : ∀ i, (ms.getD i []).length ≤ 4096
  hkk : kk < (upTo ms s n).length
  hlo : lo < n
  loEq : ((upTo ms s n).getD kk default).k = (lo : Int)
  perm : pcs.Perm ((upTo ms s n).take kk ++ (upTo ms s n).drop (kk + 1))

def lostRes (ms : List (List Int)) (lo : Nat) (j : Nat) : Res := if j < lo then some (ms.getD j [], ((50 + j : Nat) : Int)) else none
def LostR (pcs : List Pc) (lo : Nat) (j : Nat) (ord : List SetSt) (nssn : Int) : Prop := ∃ ord0, OrdP ord0 pcs ∧ ord = ord0.drop (min j lo) ∧ nssn = ((min j lo : Nat) : Int)

theorem Lost.filter {ms : List (List Int)} {s n kk lo : Nat} {pcs : List Pc} (h : Lost ms s n kk lo pcs) (i : Nat) (hi : i < n) :
    (i ≠ lo → (pcs.filter fun c => decide (c.k = (i : Int))).Perm (msgPcs (upTo ms s i).length i (ms.getD i []) s)) ∧
    (i = lo → (pcs.filter fun c => decide (c.k = (i : Int))).length < cnt (ms.getD i []).length s) ∧ ∀ x ∈ pcs.filter (fun c => decide (c.k = (i : Int))), x ∈ msgPcs (upTo ms s i).length i (ms.getD i []) s := by
  have hall := upTo_filter (ms := ms) (s := s) n i hi
  have hd : upTo ms s n = (upTo ms s n).take kk ++ ((upTo ms s n).getD kk default :: (upTo ms s n).drop (kk + 1)) := by
    have : (upTo ms s n).getD kk default = (upTo ms s n)[kk]'h.hkk := by rw [List.getD_eq_getElem?_getD, List.getElem?_eq_getElem h.hkk]; rfl
    rw [this, ← List.drop_eq_getElem_cons h.hkk, List.take_append_drop]
  have hp := h.perm.filter (fun c => decide (c.k = (i : Int)))
  rw [List.filter_append] at hp
  rw [hd, List.filter_append] at hall
  refine ⟨fun hne => ?_, fun he => ?_, fun x hx => ?_⟩
  · rw [List.filter_cons_of_neg (by rw [h.loEq]; simp; omega)] at hall
    rw [← hall]; exact hp
  · rw [List.filter_cons_of_pos (by rw [h.loEq]; simp [he])] at hall
    have h1 := congrArg List.length hall
    rw [msgPcs_len, List.length_append, List.length_cons] at h1
    have h2 := hp.length_eq
    rw [List.length_append] at h2
    omega
  · rw [← hall]
    have := hp.mem_iff.1 hx
    rcases List.mem_append.1 this with h1 | h1
    · exact List.mem_append.2 (.inl h1)
    · refine List.mem_append.2 (.inr ?_)
      rw [List.mem_filter] at h1 ⊢
      exact ⟨List.mem_cons_of_mem _ h1.1, h1.2⟩

theorem Lost.next {ms : List (List Int)} {s n kk lo : Nat} {pcs : List Pc} (h : Lost ms s n kk lo pcs) (N j : Nat) (ord : List SetSt) (nssn : Int) (hR : LostR pcs lo j ord nssn) : NextO N j 4096 (lostRes ms lo j) (LostR pcs lo) ord nssn := by
  obtain ⟨ord0, hO, rfl, rfl⟩ := hR
  have hmem : ∀ c ∈ pcs, c ∈ upTo ms s n := fun c hc => by
    have := h.perm.mem_iff.1 hc
    rcases List.mem_append.1 this with h1 | h1
    · exact List.mem_of_mem_take h1
    · exact List.mem_of_mem_drop h1
  have hk0 : ∀ c ∈ pcs, 0 ≤ c.k := fun c hc => by
    obtain ⟨k, _, i, _, rfl⟩ := upTo_mem (hmem c hc)
    show (0 : Int) ≤ (k : Int); omega
  have hat := ord_at hO hk0 (m := lo) (fun i hi => by
    have hc := cnt_pos h.hs (h.hlen i (by have := h.hlo; omega))
    have hf := (h.filter i (by have := h.hlo; omega)).1 (by omega)
    have : pcAt (upTo ms s i).length i (ms.getD i []) s 0 ∈ pcs.filter (fun c => decide (c.k = (i : Int))) := hf.mem_iff.2 (List.mem_map.2 ⟨0, List.mem_range.2 hc, rfl⟩)
    rw [List.mem_filter] at this
    exact ⟨_, this.1, rfl⟩)
  by_cases hj : j < lo
  · right
    obtain ⟨t, ht, hk⟩ := hat.1 j hj
    have hmin : min j lo = j := by omega
    have hmin1 : min (j + 1) lo = j + 1 := by omega
    rw [hmin]
    obtain ⟨hC, hB, hP⟩ := set_full hO (List.mem_of_getElem? ht) hk h.hs (cnt_pos h.hs (h.hlen j (by have := h.hlo; omega))) ((h.filter j (by have := h.hlo; omega)).1 (by omega))
    refine ⟨t, ord0.drop (j + 1), drop_cons ht, hC, hk, .inr ⟨?_, ?_, ord0, hO, by rw [hmin1], by rw [hmin1]; omega⟩⟩
    · rw [← all_len, hB]; exact h.hsm j
    · unfold lostRes; rw [if_pos hj, hB, hP]
  · left
    have hmin : min j lo = lo := by omega
    have hmin1 : min (j + 1) lo = lo := by omega
    rw [hmin]
    refine ⟨by unfold lostRes; rw [if_neg hj], ⟨ord0, hO, by rw [hmin1], by rw [hmin1]⟩, ?_⟩
    cases ht : ord0[lo]? with
    | none =>
      left
      exact List.drop_eq_nil_of_le (by rw [List.getElem?_eq_none_iff] at ht; exact ht)
    | some t =>
      right
      refine ⟨t, _, drop_cons ht, ?_⟩
      by_cases hC : Compl t.l
      · right
        refine ⟨?_, hC⟩
        have hge := hat.2 t ht
        rcases Int.lt_or_eq_of_le hge with h1 | h1
        · exact h1
        · exfalso
          have hp := hO.perm t (List.mem_of_getElem? ht)
          rw [← h1] at hp
          obtain ⟨_, f2, f3⟩ := h.filter lo h.hlo
          refine not_compl (upTo ms s lo).length lo (ms.getD lo []) s (t.l.map (·.pc)) (fun x hx => msg_k (f3 x (hp.mem_iff.1 hx))) ?_ ((compl_iff _).1 hC)
          rw [hp.length_eq]; exact f2 rfl
      · exact .inl hC

/-- One message, read whole or not at all. -/
def oneRes (b : List Int) (room : Nat) (j : Nat) : Res := if room < b.length then none else some (b, 50)
def OneR (pcs : List Pc) (j : Nat) (ord : List SetSt) (nssn : Int) : Prop := j = 0 → OrdP ord pcs ∧ nssn = 0
theorem one_next {b : List Int} {s : Nat} {pcs : List Pc} (hs : 0 < s) (hb : 0 < b.length) (hp : pcs.Perm (upTo [b] s 1)) (room j : Nat) (hj : j < 1) (ord : List SetSt) (nssn : Int) (hR : OneR pcs j ord nssn) : NextO 1 j room (oneRes b room j) (OneR pcs) ord nssn := by
  obtain rfl : j = 0 := by omega
  obtain ⟨hO, rfl⟩ := hR rfl
  have hk0 : ∀ c ∈ pcs, 0 ≤ c.k := fun c hc => by
    obtain ⟨k, _, i, _, rfl⟩ := upTo_mem (hp.mem_iff.1 hc)
    show (0 : Int) ≤ (k : Int); omega
  have hc := cnt_pos hs hb
  have hf := (hp.filter (fun c => decide (c.k = ((0 : Nat) : Int))))
  rw [upTo_filter 1 0 (by omega)] at hf
  have hat := ord_at hO hk0 (m := 1) (fun i hi => by
    obtain rfl : i = 0 := by omega
    have : pcAt 0 0 b s 0 ∈ pcs.filter (fun c => decide (c.k = ((0 : Nat) : Int))) := hf.mem_iff.2 (List.mem_map.2 ⟨0, List.mem_range.2 hc, rfl⟩)
    rw [List.mem_filter] at this
    exact ⟨_, this.1, rfl⟩)
  obtain ⟨t, ht, hk⟩ := hat.1 0 (by omega)
  obtain ⟨hC, hB, hP⟩ := set_full hO (List.mem_of_getElem? ht) hk hs hc hf
  right
  refine ⟨t, ord.drop 1, by have := drop_cons ht; rwa [List.drop_zero] at this, hC, hk, ?_⟩
  have htot : tot t.l = b.length := by rw [← all_len, hB]
  by_cases hr : room < b.length
  · exact .inl ⟨by omega, by unfold oneRes; rw [if_pos hr], rfl⟩
  · refine .inr ⟨by omega, ?_, fun h => by omega⟩
    unfold oneRes; rw [if_neg hr, hB, hP]; rfl
end Go.Proofs.YtmniikihkpikdaaDoor
