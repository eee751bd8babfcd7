/- Part of the proofs of the three laws on reassembly: what a push does to a queue, with the blocks that it may change; conditions: as each theorem states. -/
import Derived.Test.YtmniikihkpikdaaDoorM28
namespace Go.Proofs.YtmniikihkpikdaaDoor
open Go.RowKit
set_option linter.unusedVariables false

/-- A set is put behind the others, and the queue's field is told. -/
theorem QAt.appendedM {w w4 : World} {B : Nat} {f si : Int} {x : QSt} (h : QAt w B f si x) {t : SetSt} (ht : SetAt w B f si t) (hs : ∀ y ∈ x.ord, y.s ≠ t.s) (hg : ∀ y ∈ x.ord, y.g ≠ t.g) {g4 cap4 : Nat}
    (hown : w4.ownsRow B 72 1 (.slice (some ⟨g4, 0, none⟩) (x.ord.length + 1) cap4) (x.ord.length + 1) ((x.ord.map fun t => ptr t.s) ++ [ptr t.s])) (hM : Mod (fun k => (Value.slice (some ⟨x.go, 0, none⟩) x.ord.length x.co).ownBlock = some k) w w4) (hl : x.ord.length < 1000) :
    QAt (w4.setCell ⟨x.q, 3, none⟩ (.slice (some ⟨g4, 0, none⟩) (x.ord.length + 1) cap4)) B f si { x with go := g4, co := cap4, ord := x.ord ++ [t] } ∧ Kp B w (w4.setCell ⟨x.q, 3, none⟩ (.slice (some ⟨g4, 0, none⟩) (x.ord.length + 1) cap4)) ∧ Mod (fun k => k = x.go ∨ k = x.q) w (w4.setCell ⟨x.q, 3, none⟩ (.slice (some ⟨g4, 0, none⟩) (x.ord.length + 1) cap4)) := by
  have hM' : Mod (· = x.go) w w4 := hM.mono (fun k e => by simp [Value.ownBlock] at e; omega)
  have hq4 := (hM'.block _ h.lt h.q_ne_go).trans h.blk
  have hqg : x.q ≠ g4 := by
    obtain ⟨_, cs, hg4, _, _⟩ := own_row hown
    exact ne_of_type hq4 hg4 (by decide)
  have M45 : Mod (· = x.q) w4 (w4.setCell ⟨x.q, 3, none⟩ (.slice (some ⟨g4, 0, none⟩) (x.ord.length + 1) cap4)) := (Mod.refl _ w4).set1 _
  have M05 : Mod (fun k => k = x.go ∨ k = x.q) w (w4.setCell ⟨x.q, 3, none⟩ (.slice (some ⟨g4, 0, none⟩) (x.ord.length + 1) cap4)) := (hM'.mono (fun _ e => .inl e)).trans (M45.mono (fun _ e => .inr e))
  obtain ⟨hgB, cs, hgo, _, _⟩ := own_row h.row
  have K05 : Kp B w _ := Kp.of_mod M05 (fun k hk => by
    rcases hk with rfl | rfl
    · exact .inr ⟨hgB, _, _, _, hgo, by unfold qT; decide⟩
    · exact .inr ⟨h.qB, _, _, _, h.blk, by unfold qT; decide⟩)
  have hall : ∀ y ∈ x.ord ++ [t], SetAt w B f si y := fun y hy => by
    rcases List.mem_append.1 hy with hy | hy
    · exact h.sets y hy
    · obtain rfl := List.mem_singleton.1 hy; exact ht
  refine ⟨⟨?_, ?_, sets_mod hall M05 K05 (fun y hy => ?_), ?_, ?_, h.qB, by simp; omega, h.nb⟩, K05, M05⟩
  · have := heap_setCell_same (i := 3) hq4 (.slice (some ⟨g4, 0, none⟩) (x.ord.length + 1) cap4)
    rw [this]
    simp [qCells]
  · have := owned_modS hown M45 (fun k e hk => hqg (by simp [Value.ownBlock] at e; omega))
    simpa using this
  · have h1 := h.set_ne_q (hall y hy); have h2 := h.set_ne_go (hall y hy)
    exact ⟨fun e => by rcases e with e | e; exact h2.1 e; exact h1.1 e, fun e => by rcases e with e | e; exact h2.2 e; exact h1.2 e⟩
  · show ((x.ord ++ [t]).map (·.s)).Nodup
    rw [List.map_append, List.map_cons, List.map_nil]
    refine List.nodup_append.2 ⟨h.snd, by simp, fun a ha b hb => ?_⟩
    obtain ⟨y, hy, rfl⟩ := List.mem_map.1 ha
    obtain rfl := List.mem_singleton.1 hb
    exact hs y hy
  · show ((x.ord ++ [t]).map (·.g)).Nodup
    rw [List.map_append, List.map_cons, List.map_nil]
    refine List.nodup_append.2 ⟨h.gnd, by simp, fun a ha b hb => ?_⟩
    obtain ⟨y, hy, rfl⟩ := List.mem_map.1 ha
    obtain rfl := List.mem_singleton.1 hb
    exact hg y hy

/-- The sets are sorted. -/
theorem QAt.sortedM {w : World} {B : Nat} {f si : Int} {x : QSt} (h : QAt w B f si x) :
    Calls Tryd.prog 38 #[.slice (some ⟨x.go, 0, none⟩) x.ord.length x.co] w fun e w' => e = .returned (.tuple #[]) ∧ ∃ ord, ord.Perm x.ord ∧ ord.Pairwise (fun a b => a.k ≤ b.k) ∧ QAt w' B f si { x with ord := ord } ∧ Kp B w w' ∧ Mod (· = x.go) w w' := by
  obtain ⟨bs, hbs⟩ : ∃ bs : List (Nat × Int), bs = x.ord.map fun t => (t.s, t.k) := ⟨_, rfl⟩
  have hl : bs.length = x.ord.length := by rw [hbs]; simp
  have hrow : w.ownsRow B 72 1 (.slice (some ⟨x.go, 0, none⟩) bs.length x.co) bs.length (bs.map fun x => ptr x.1) := by
    rw [hl, hbs, List.map_map]; exact h.row
  obtain ⟨hgB, cs, hgo, _, _⟩ := own_row h.row
  have hS := sortSSN hrow (fun y hy => by
      rw [hbs] at hy
      obtain ⟨t, ht, rfl⟩ := List.mem_map.1 hy
      refine ⟨(h.set_ne_go (h.sets t ht)).1, ?_⟩
      show w.cell? ⟨t.s, 0, none⟩ = _
      rw [cell_of_block (h.sets t ht).blk]; rfl) (fun y hy => by
      rw [hbs] at hy
      obtain ⟨t, ht, rfl⟩ := List.mem_map.1 hy
      have := (h.sets t ht).kb
      exact ⟨this.1, by show t.k < 30000; omega⟩) (by have := h.len; omega)
  rw [hl] at hS
  refine hS.mono ?_
  rintro e w' ⟨rfl, bs', hp, hpw, hrow', hM⟩
  rw [hbs] at hp
  obtain ⟨ord, ho, hm⟩ := perm_lift _ hp
  have K : Kp B w w' := Kp.of_mod hM (fun k hk => by obtain rfl := hk; exact .inr ⟨hgB, _, _, _, hgo, by unfold qT; decide⟩)
  have hol : ord.length = x.ord.length := ho.length_eq
  refine ⟨rfl, ord, ho, by rw [← hm, List.pairwise_map] at hpw; exact hpw, ⟨?_, ?_, ?_, ?_, ?_, h.qB, by show ord.length ≤ 1000; rw [hol]; exact h.len, h.nb⟩, K, hM⟩
  · have := (hM.block _ h.lt h.q_ne_go).trans h.blk
    rw [this]
    simp [qCells, hol]
  · show w'.ownsRow B 72 1 (.slice (some ⟨x.go, 0, none⟩) ord.length x.co) ord.length (ord.map fun t => ptr t.s)
    have e : (ord.map fun t => ptr t.s) = bs'.map fun x => ptr x.1 := by rw [← hm, List.map_map]; rfl
    rw [hol, e]; exact hrow'
  · intro t ht
    exact sets_mod h.sets hM K (fun y hy => h.set_ne_go (h.sets y hy)) t (ho.mem_iff.1 ht)
  · exact ((ho.map (·.s)).nodup_iff).2 h.snd
  · exact ((ho.map (·.g)).nodup_iff).2 h.gnd

/-- The count of bytes is told. -/
theorem QAt.countedM {w : World} {B : Nat} {f si : Int} {x : QSt} (h : QAt w B f si x) {n : Int} (hn : 0 ≤ n ∧ n ≤ 100000000) : QAt (w.setCell ⟨x.q, 11, none⟩ (.int .u64 n)) B f si { x with nb := n } ∧ Kp B w (w.setCell ⟨x.q, 11, none⟩ (.int .u64 n)) ∧ Mod (· = x.q) w (w.setCell ⟨x.q, 11, none⟩ (.int .u64 n)) := by
  have M : Mod (· = x.q) w (w.setCell ⟨x.q, 11, none⟩ (.int .u64 n)) := (Mod.refl _ w).set1 _
  have K : Kp B w _ := Kp.of_mod M (fun k hk => by obtain rfl := hk; exact .inr ⟨h.qB, _, _, _, h.blk, by unfold qT; decide⟩)
  refine ⟨⟨?_, owned_modS h.row M (fun k e hk => h.q_ne_go (by simp [Value.ownBlock] at e; omega)), sets_mod h.sets M K (fun y hy => h.set_ne_q (h.sets y hy)), h.snd, h.gnd, h.qB, h.len, hn⟩, K, M⟩
  have := heap_setCell_same (i := 11) h.blk (.int .u64 n)
  rw [this]
  simp [qCells]

/-- A chunk is put into one of the sets. -/
def PutInM (w : World) (B : Nat) (f si : Int) (x : QSt) (i : Nat) (c : Ck) (e : Ending) (w' : World) : Prop :=
  (∃ r : Bool, e = .returned (.bool r)) ∧ ∃ t', t'.s = (x.ord.getD i default).s ∧ t'.k = (x.ord.getD i default).k ∧ t'.ppi = (x.ord.getD i default).ppi ∧ t'.l.Perm ((x.ord.getD i default).l ++ [c]) ∧ t'.l.Pairwise (fun a b => a.pc.p ≤ b.pc.p) ∧
    QAt w' B f si { x with ord := x.ord.set i t' } ∧ Kp B w w' ∧ Mod (fun k => k = (x.ord.getD i default).s ∨ k = (x.ord.getD i default).g) w w'
theorem QAt.putM {w : World} {B : Nat} {f si : Int} {x : QSt} (h : QAt w B f si x) {i : Nat} (hi : i < x.ord.length) {c : Ck} (hc : CkAt w f si c) (hl : (x.ord.getD i default).l.length < 4000) (hB : B ≤ w.heap.size) :
    Calls Tryd.prog 39 #[ptr (x.ord.getD i default).s, ptr c.b] w (PutInM w B f si x i c) := by
  obtain ⟨t, ht⟩ : ∃ t, t = x.ord.getD i default := ⟨_, rfl⟩
  have hti : x.ord[i]? = some t := by rw [ht, List.getD_eq_getElem?_getD, List.getElem?_eq_getElem hi]; rfl
  have htm : t ∈ x.ord := List.mem_of_getElem? hti
  unfold PutInM
  rw [← ht] at hl ⊢
  refine (pushND_any (h.sets t htm) hc hl hB).mono ?_
  rintro e w' ⟨hr, g, cap, l', hp, hs, hT, hM, hg⟩
  obtain ⟨hgB, cs, hgo⟩ := (h.sets t htm).g_blk
  have K : Kp B w w' := Kp.of_mod hM (fun k hk => by
    rcases hk with rfl | rfl
    · exact .inr ⟨(h.sets t htm).sB, _, _, _, (h.sets t htm).blk, by unfold qT; decide⟩
    · exact .inr ⟨hgB, _, _, _, hgo, by unfold qT; decide⟩)
  have hq := h.set_ne_q (h.sets t htm)
  have hgg := h.set_ne_go (h.sets t htm)
  have hother : ∀ (j : Nat) (y : SetSt), x.ord[j]? = some y → j ≠ i → y.s ≠ t.s ∧ y.g ≠ t.g := by
    intro j y hy hj
    have hjl : j < x.ord.length := (List.getElem?_eq_some_iff.1 hy).1
    constructor
    · intro e
      have := (List.getElem_inj h.snd (i := j) (j := i) (h₀ := by simpa using hjl) (h₁ := by simpa using hi)).1 (by
        have e1 := (List.getElem?_eq_some_iff.1 hy).2; have e2 := (List.getElem?_eq_some_iff.1 hti).2
        simp [e1, e2, e])
      exact hj this
    · intro e
      have := (List.getElem_inj h.gnd (i := j) (j := i) (h₀ := by simpa using hjl) (h₁ := by simpa using hi)).1 (by
        have e1 := (List.getElem?_eq_some_iff.1 hy).2; have e2 := (List.getElem?_eq_some_iff.1 hti).2
        simp [e1, e2, e])
      exact hj this
  refine ⟨hr, { t with g := g, cap := cap, l := l' }, rfl, rfl, rfl, hp, hs, ⟨?_, ?_, ?_, ?_, ?_, h.qB, by simpa using h.len, h.nb⟩, K, hM⟩
  · have := (hM.block _ h.lt (fun e => by rcases e with e | e; exact hq.1 e.symm; exact hq.2 e.symm)).trans h.blk
    rw [this]; simp [qCells]
  · have := owned_modS h.row hM (fun k e hk => by
      have e : x.go = k := by simpa [Value.ownBlock] using e
      rcases hk with hk | hk
      · exact hgg.1 (hk.symm.trans e.symm)
      · exact hgg.2 (hk.symm.trans e.symm))
    have em : ((x.ord.set i { t with g := g, cap := cap, l := l' }).map fun t => ptr t.s) = x.ord.map fun t => ptr t.s := by
      apply List.ext_getElem?
      intro j
      rw [List.getElem?_map, List.getElem?_map, List.getElem?_set]
      by_cases hj : i = j
      · subst hj; simp [hi, (List.getElem?_eq_some_iff.1 hti).2]
      · simp [hj]
    show w'.ownsRow B 72 1 (.slice (some ⟨x.go, 0, none⟩) (x.ord.set i _).length x.co) (x.ord.set i _).length ((x.ord.set i _).map fun t => ptr t.s)
    rw [em, List.length_set]; exact this
  · intro y hy
    obtain ⟨j, hj⟩ := List.getElem?_of_mem hy
    rw [List.getElem?_set] at hj
    by_cases hij : i = j
    · subst hij
      simp [hi] at hj
      rw [← hj]; exact hT
    · simp [hij] at hj
      have ho := hother j y hj (fun e => hij e.symm)
      exact (h.sets y (List.mem_of_getElem? hj)).mod hM (fun e => by
          rcases e with e | e
          · exact ho.1 e
          · obtain ⟨_, cs', hg'⟩ := (h.sets t htm).g_blk
            exact ne_of_type (h.sets y (List.mem_of_getElem? hj)).blk hg' (by decide) e) (fun e => by
          rcases e with e | e
          · obtain ⟨_, cs', hg'⟩ := (h.sets y (List.mem_of_getElem? hj)).g_blk
            exact ne_of_type hg' (h.sets t htm).blk (by decide) e
          · exact ho.2 e) (fun c hc => ((h.sets y (List.mem_of_getElem? hj)).ck c hc).kp K)
  · have em : (x.ord.set i { t with g := g, cap := cap, l := l' }).map (·.s) = x.ord.map (·.s) := by
      apply List.ext_getElem?
      intro j
      rw [List.getElem?_map, List.getElem?_map, List.getElem?_set]
      by_cases hj : i = j
      · subst hj; simp [hi, (List.getElem?_eq_some_iff.1 hti).2]
      · simp [hj]
    show ((x.ord.set i _).map (·.s)).Nodup
    rw [em]; exact h.snd
  · show ((x.ord.set i _).map (·.g)).Nodup
    have hlt : ∀ (j : Nat) (y : SetSt), x.ord[j]? = some y → y.g < w.heap.size := fun j y hy => by
      obtain ⟨_, cs, hg'⟩ := (h.sets y (List.mem_of_getElem? hy)).g_blk
      exact (Array.getElem?_eq_some_iff.1 hg').1
    have hnd := h.gnd
    rw [List.Nodup, List.pairwise_iff_getElem] at hnd ⊢
    intro a b ha hb hab
    have ha0 : a < x.ord.length := by simpa using ha
    have hb0 : b < x.ord.length := by simpa using hb
    have ha' := List.getElem?_eq_getElem ha0
    have hb' := List.getElem?_eq_getElem hb0
    simp only [List.getElem_map, List.getElem_set]
    by_cases h1 : i = a
    · have h2 : i ≠ b := by omega
      rw [if_pos h1, if_neg h2]
      have ho := hother b _ hb' (Ne.symm h2)
      have := hlt b _ hb'
      show g ≠ _
      rcases hg with e | e
      · exact fun e' => ho.2 (e'.symm.trans e)
      · omega
    · by_cases h2 : i = b
      · rw [if_neg h1, if_pos h2]
        have ho := hother a _ ha' (Ne.symm h1)
        have := hlt a _ ha'
        show _ ≠ g
        rcases hg with e | e
        · exact fun e' => ho.2 (e'.trans e)
        · omega
      · rw [if_neg h1, if_neg h2]
        have := hnd a b (by simpa using ha0) (by simpa using hb0) hab
        simpa using this
end Go.Proofs.YtmniikihkpikdaaDoor
