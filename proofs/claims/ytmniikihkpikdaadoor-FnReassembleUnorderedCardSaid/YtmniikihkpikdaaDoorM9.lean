/- Part of the proofs of the three laws on reassembly: what a queue holds when chunks in order were pushed; conditions: as each theorem states. -/
import Derived.Test.YtmniikihkpikdaaDoorM8
namespace Go.Proofs.YtmniikihkpikdaaDoor
open Go.RowKit
set_option linter.unusedVariables false

/-- Two pieces that may both be pushed. -/
def Apart (a b : Ck) : Prop := a.pc.p ≠ b.pc.p ∧ (a.pc.k = b.pc.k → a.pc.frag = true ∧ b.pc.frag = true)
/-- What a queue holds behind pushes of the chunks D. -/
structure Inv (x : QSt) (D : List Ck) : Prop where
  s0 : x.nssn = 0
  srt : x.ord.Pairwise (fun a b => a.k < b.k)
  perm : ∀ t ∈ x.ord, t.l.Perm (D.filter (fun c => decide (c.pc.k = t.k)))
  lsrt : ∀ t ∈ x.ord, t.l.Pairwise (fun a b => a.pc.p ≤ b.pc.p)
  ne : ∀ t ∈ x.ord, t.l ≠ []
  ppi : ∀ t ∈ x.ord, ∃ c ∈ t.l, c.pc.proto = t.ppi
  all : ∀ c ∈ D, ∃ t ∈ x.ord, t.k = c.pc.k
  nb : x.nb ≤ 4096 * D.length
theorem Inv.mem {x : QSt} {D : List Ck} (h : Inv x D) {t : SetSt} (ht : t ∈ x.ord) {c : Ck} (hc : c ∈ t.l) : c ∈ D ∧ c.pc.k = t.k := by
  have := (h.perm t ht).mem_iff.1 hc
  simpa using this
theorem strict_len : ∀ (l : List Int) (lo hi : Int), l.Pairwise (· < ·) → (∀ a ∈ l, lo ≤ a ∧ a < hi) → lo ≤ hi → (l.length : Int) ≤ hi - lo
  | [], lo, hi, _, _, h => by simp; omega
  | a :: l, lo, hi, hp, hb, h => by
    have ha := hb a (by simp)
    have := strict_len l (a + 1) hi (List.pairwise_cons.1 hp).2 (fun b hb' => ⟨(List.pairwise_cons.1 hp).1 b hb', (hb b (by simp [hb'])).2⟩) (by omega)
    simp; omega
theorem Inv.len {x : QSt} {D : List Ck} (h : Inv x D) (hk : ∀ c ∈ D, 0 ≤ c.pc.k ∧ c.pc.k < 100) : x.ord.length ≤ 100 := by
  have := strict_len (x.ord.map (·.k)) 0 100 (by rw [List.pairwise_map]; exact h.srt) (fun a ha => by
    obtain ⟨t, ht, rfl⟩ := List.mem_map.1 ha
    obtain ⟨c, hc, _⟩ := h.ppi t ht
    have hm := h.mem ht hc
    rw [← hm.2]; exact hk c hm.1) (by omega)
  simp only [List.length_map] at this
  omega

theorem filter_snoc (D : List Ck) (c : Ck) (k : Int) : (D ++ [c]).filter (fun y => decide (y.pc.k = k)) = D.filter (fun y => decide (y.pc.k = k)) ++ (if c.pc.k = k then [c] else []) := by
  rw [List.filter_append]
  by_cases h : c.pc.k = k <;> simp [h]

theorem inv_new {x : QSt} {D : List Ck} (h : Inv x D) {c : Ck} (hn : ∀ t ∈ x.ord, t.k ≠ c.pc.k) {go co : Nat} {ord : List SetSt} {t0 : SetSt} (hk : t0.k = c.pc.k) (hp : t0.ppi = c.pc.proto) (hl : t0.l = [c]) (hperm : ord.Perm (x.ord ++ [t0])) (hs : ord.Pairwise (fun a b => a.k ≤ b.k)) (hb : c.pc.bytes.length ≤ 4096) :
    Inv { x with go := go, co := co, ord := ord, nb := x.nb + c.pc.bytes.length } (D ++ [c]) := by
  have hmem : ∀ t ∈ ord, t ∈ x.ord ∨ t = t0 := fun t ht => by
    have := hperm.mem_iff.1 ht
    simpa using this
  have hnd : (ord.map (·.k)).Nodup := by
    refine ((hperm.map (·.k)).nodup_iff).2 ?_
    rw [List.map_append, List.map_cons, List.map_nil]
    refine List.nodup_append.2 ⟨?_, by simp, fun a ha b hb' => ?_⟩
    · rw [List.Nodup, List.pairwise_map]
      exact h.srt.imp (fun hab => by omega)
    · obtain ⟨t, ht, rfl⟩ := List.mem_map.1 ha
      obtain rfl := List.mem_singleton.1 hb'
      rw [hk]; exact hn t ht
  refine ⟨h.s0, ?_, ?_, ?_, ?_, ?_, ?_, ?_⟩
  · rw [List.Nodup, List.pairwise_map] at hnd
    exact (hs.and hnd).imp (fun hab => by omega)
  · intro t ht
    rw [filter_snoc]
    rcases hmem t ht with h1 | h1
    · rw [if_neg (fun e => hn t h1 e.symm), List.append_nil]; exact h.perm t h1
    · rw [h1, hl, hk, if_pos rfl]
      have : D.filter (fun y => decide (y.pc.k = c.pc.k)) = [] := by
        rw [List.filter_eq_nil_iff]
        intro y hy
        obtain ⟨t, ht, e⟩ := h.all y hy
        simp only [decide_eq_true_eq]
        intro e'
        exact hn t ht (e.trans e')
      rw [this]; exact List.Perm.refl _
  · intro t ht
    rcases hmem t ht with h1 | h1
    · exact h.lsrt t h1
    · rw [h1, hl]; simp
  · intro t ht
    rcases hmem t ht with h1 | h1
    · exact h.ne t h1
    · rw [h1, hl]; simp
  · intro t ht
    rcases hmem t ht with h1 | h1
    · exact h.ppi t h1
    · rw [h1, hl]; exact ⟨c, by simp, hp.symm⟩
  · intro y hy
    rcases List.mem_append.1 hy with hy | hy
    · obtain ⟨t, ht, e⟩ := h.all y hy
      exact ⟨t, hperm.mem_iff.2 (by simp [ht]), e⟩
    · obtain rfl := List.mem_singleton.1 hy
      exact ⟨t0, hperm.mem_iff.2 (by simp), hk⟩
  · have := h.nb
    simp
    omega

theorem inv_old {x : QSt} {D : List Ck} (h : Inv x D) {c : Ck} {i : Nat} {T t' : SetSt} (hi : x.ord[i]? = some T) (hki : T.k = c.pc.k) (hk : t'.k = T.k) (hp : t'.ppi = T.ppi) (hl : t'.l.Perm (T.l ++ [c])) (hs : t'.l.Pairwise (fun a b => a.pc.p ≤ b.pc.p)) (hb : c.pc.bytes.length ≤ 4096) :
    Inv { x with ord := x.ord.set i t', nb := x.nb + c.pc.bytes.length } (D ++ [c]) := by
  have hT := List.mem_of_getElem? hi
  have hlt := (List.getElem?_eq_some_iff.1 hi).1
  have hmem : ∀ t ∈ x.ord.set i t', t = t' ∨ (t ∈ x.ord ∧ t.k ≠ T.k) := fun t ht => by
    obtain ⟨j, hj⟩ := List.getElem?_of_mem ht
    rw [List.getElem?_set] at hj
    by_cases hij : i = j
    · subst hij
      simp [hlt] at hj
      exact .inl hj.symm
    · simp [hij] at hj
      refine .inr ⟨List.mem_of_getElem? hj, fun e => ?_⟩
      have hsr := h.srt
      rw [List.pairwise_iff_getElem] at hsr
      have hjl := (List.getElem?_eq_some_iff.1 hj).1
      have e1 := (List.getElem?_eq_some_iff.1 hj).2
      have e2 := (List.getElem?_eq_some_iff.1 hi).2
      rcases Nat.lt_trichotomy i j with h1 | h1 | h1
      · have := hsr i j hlt hjl h1
        rw [e1, e2] at this; omega
      · exact hij h1
      · have := hsr j i hjl hlt h1
        rw [e1, e2] at this; omega
  refine ⟨h.s0, ?_, ?_, ?_, ?_, ?_, ?_, ?_⟩
  · have e := map_set_same (f := (·.k)) hi (b := t') hk
    have h1 : ((x.ord.set i t').map (·.k)).Pairwise (· < ·) := by rw [e, List.pairwise_map]; exact h.srt
    rwa [List.pairwise_map] at h1
  · intro t ht
    rw [filter_snoc]
    rcases hmem t ht with h1 | ⟨h1, h2⟩
    · rw [h1, hk, if_pos hki.symm]
      exact hl.trans ((h.perm T hT).append_right _)
    · rw [if_neg (fun e => h2 (e.symm.trans hki.symm)), List.append_nil]; exact h.perm t h1
  · intro t ht
    rcases hmem t ht with h1 | ⟨h1, h2⟩
    · rw [h1]; exact hs
    · exact h.lsrt t h1
  · intro t ht
    rcases hmem t ht with h1 | ⟨h1, h2⟩
    · rw [h1]; intro e; rw [e] at hl; have := hl.length_eq; simp at this
    · exact h.ne t h1
  · intro t ht
    rcases hmem t ht with h1 | ⟨h1, h2⟩
    · rw [h1]
      obtain ⟨y, hy, e⟩ := h.ppi T hT
      exact ⟨y, hl.mem_iff.2 (by simp [hy]), by rw [hp]; exact e⟩
    · exact h.ppi t h1
  · intro y hy
    have hself : t' ∈ x.ord.set i t' := List.mem_of_getElem? (i := i) (by simp [hlt])
    rcases List.mem_append.1 hy with hy | hy
    · obtain ⟨t, ht, e⟩ := h.all y hy
      obtain ⟨j, hj⟩ := List.getElem?_of_mem ht
      by_cases hij : i = j
      · subst hij
        rw [hi] at hj
        obtain rfl := Option.some.inj hj
        exact ⟨t', hself, by rw [hk]; exact e⟩
      · exact ⟨t, List.mem_of_getElem? (i := j) (by rw [List.getElem?_set]; simp [hij, hj]), e⟩
    · obtain rfl := List.mem_singleton.1 hy
      exact ⟨t', hself, hk.trans hki⟩
  · have := h.nb
    simp
    omega

/-- What a push hands back. -/
def PushedTo (w : World) (B : Nat) (f si : Int) (x : QSt) (D : List Ck) (e : Ending) (w' : World) : Prop :=
  (∃ r : Bool, e = .returned (.bool r)) ∧ ∃ go co ord nb, QAt w' B f si { x with go := go, co := co, ord := ord, nb := nb } ∧ Inv { x with go := go, co := co, ord := ord, nb := nb } D ∧ Kp B w w'

set_option maxHeartbeats 1000000 in
theorem push_any {w : World} {B : Nat} {f si : Int} {x : QSt} {D : List Ck} {c : Ck} (h : QAt w B f si x) (hI : Inv x D) (hc : CkAt w f si c) (hun : c.pc.un = false) (hD : D.length ≤ 1500) (hap : ∀ d ∈ D, Apart d c) (hk : ∀ d ∈ D, 0 ≤ d.pc.k ∧ d.pc.k < 100) (hB : B ≤ w.heap.size) :
    Calls Tryd.prog 16 #[ptr x.q, ptr c.b] w (PushedTo w B f si x (D ++ [c])) := by
  have hlen := hI.len hk
  have hnb : x.nb ≤ 90000000 := by have := hI.nb; omega
  by_cases hex : ∃ t ∈ x.ord, t.k = c.pc.k
  · obtain ⟨T, hT, hTk⟩ := hex
    obtain ⟨i, hi⟩ := List.getElem?_of_mem hT
    have hlt := (List.getElem?_eq_some_iff.1 hi).1
    have hgd : x.ord.getD i default = T := by rw [List.getD_eq_getElem?_getD, hi]; rfl
    have hne := hI.ne T hT
    have hl0 : 0 < T.l.length := List.length_pos_iff.2 hne
    have h0m : T.l.getD 0 default ∈ T.l := by rw [List.getD_eq_getElem?_getD, List.getElem?_eq_getElem hl0]; exact List.getElem_mem _
    have hm0 := hI.mem hT h0m
    have hfr := (hap _ hm0.1).2 (hm0.2.trans hTk)
    have hTl : T.l.length ≤ D.length := by rw [(hI.perm T hT).length_eq]; exact List.length_filter_le _ _
    have hP := pushO_old (i := i) h hc hun hlt (fun j hj => by
        have hjl : j < x.ord.length := by omega
        have hsr := hI.srt
        rw [List.pairwise_iff_getElem] at hsr
        have := hsr j i hjl hlt hj
        rw [(List.getElem?_eq_some_iff.1 hi).2] at this
        rw [List.getD_eq_getElem?_getD, List.getElem?_eq_getElem hjl]
        show x.ord[j].k ≠ _
        omega) (by rw [hgd]; exact hTk) hfr.2 (by rw [hgd]; exact hne) (by rw [hgd]; exact hfr.1) (by rw [hgd]; intro y hy; exact (hap y (hI.mem hT hy).1).1) (by rw [hgd]; omega) hI.s0 (by omega) hnb hB
    have HP := Lib.hid hP
    have HX := Lib.hid (show ∀ r w', (∃ t', t'.s = (x.ord.getD i default).s ∧ t'.k = (x.ord.getD i default).k ∧ t'.ppi = (x.ord.getD i default).ppi ∧ t'.l.Perm ((x.ord.getD i default).l ++ [c]) ∧ t'.l.Pairwise (fun a b => a.pc.p ≤ b.pc.p) ∧
        QAt w' B f si { x with ord := x.ord.set i t', nb := x.nb + c.pc.bytes.length } ∧ Kp B w w') → PushedTo w B f si x (D ++ [c]) (.returned (.bool r)) w' from by
      rintro r w' ⟨t', h1, h2, h3, h4, h5, h6, h7⟩
      rw [hgd] at h2 h3 h4
      exact ⟨⟨r, rfl⟩, x.go, x.co, x.ord.set i t', x.nb + c.pc.bytes.length, h6, inv_old hI hi hTk h2 h3 h4 h5 hc.small, h7⟩)
    unfold ptr at HP ⊢
    clear h hI hc hP hgd hi hT hTk hap hk hfr hm0 h0m hne
    go_enter Tryd.func16, Tryd.ntmps16
    go_wp2_with fail
    refine HP.out.mono ?_
    rintro e w' ⟨⟨r, rfl⟩, hr⟩
    have HR := Lib.hid (HX.out r w' hr)
    clear hr
    go_wp2_with fail
    go_ret
    exact HR.out
  · have hn : ∀ t ∈ x.ord, t.k ≠ c.pc.k := fun t ht e => hex ⟨t, ht, e⟩
    have HP := Lib.hid (pushO_new h hc hun hn hI.s0 (by omega) hnb hB)
    have HX := Lib.hid (show ∀ r w', (∃ go co ord t0, QAt w' B f si { x with go := go, co := co, ord := ord, nb := x.nb + c.pc.bytes.length } ∧
        t0.k = c.pc.k ∧ t0.ppi = c.pc.proto ∧ t0.l = [c] ∧ ord.Perm (x.ord ++ [t0]) ∧ ord.Pairwise (fun a b => a.k ≤ b.k) ∧ Kp B w w') → PushedTo w B f si x (D ++ [c]) (.returned (.bool r)) w' from by
      rintro r w' ⟨go, co, ord, t0, h1, h2, h3, h4, h5, h6, h7⟩
      exact ⟨⟨r, rfl⟩, go, co, ord, x.nb + c.pc.bytes.length, h1, inv_new hI hn h2 h3 h4 h5 h6 hc.small, h7⟩)
    unfold ptr at HP ⊢
    clear h hI hc hn hap hk hex
    go_enter Tryd.func16, Tryd.ntmps16
    go_wp2_with fail
    refine HP.out.mono ?_
    rintro e w' ⟨⟨r, rfl⟩, hr⟩
    have HR := Lib.hid (HX.out r w' hr)
    clear hr
    go_wp2_with fail
    go_ret
    exact HR.out
end Go.Proofs.YtmniikihkpikdaaDoor
