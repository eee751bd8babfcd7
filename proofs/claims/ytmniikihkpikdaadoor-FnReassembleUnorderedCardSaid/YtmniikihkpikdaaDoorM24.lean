/- Part of the proofs of the three laws on reassembly: a script of pushes in order and reads, told by what the sets are to answer; conditions: as each theorem states. -/
import Derived.Test.YtmniikihkpikdaaDoorM23
namespace Go.Proofs.YtmniikihkpikdaaDoor
open Go.RowKit
set_option linter.unusedVariables false

/-- Two pieces that may both be pushed. -/
def ApartP (a b : Pc) : Prop := a.p ≠ b.p ∧ (a.k = b.k → a.frag = true ∧ b.frag = true)
/-- What the sets of a queue hold behind pushes of these pieces. -/
structure OrdP (ord : List SetSt) (pcs : List Pc) : Prop where
  srt : ord.Pairwise (fun a b => a.k < b.k)
  perm : ∀ t ∈ ord, (t.l.map (·.pc)).Perm (pcs.filter fun c => decide (c.k = t.k))
  lsrt : ∀ t ∈ ord, t.l.Pairwise (fun a b => a.pc.p ≤ b.pc.p)
  ne : ∀ t ∈ ord, t.l ≠ []
  ppi : ∀ t ∈ ord, ∃ c ∈ t.l, c.pc.proto = t.ppi
  all : ∀ c ∈ pcs, ∃ t ∈ ord, t.k = c.k
theorem Inv.ordP {x : QSt} {D : List Ck} (h : Inv x D) {pcs : List Pc} (hp : D.map (·.pc) = pcs) : OrdP x.ord pcs := by
  refine ⟨h.srt, fun t ht => ?_, h.lsrt, h.ne, h.ppi, fun c hc => ?_⟩
  · have := (h.perm t ht).map (·.pc)
    rw [← hp, List.filter_map]
    exact this
  · rw [← hp] at hc
    obtain ⟨d, hd, rfl⟩ := List.mem_map.1 hc
    exact h.all d hd

theorem CkAt.kt {w w' : World} {f si : Int} {c : Ck} (h : CkAt w f si c) (hK : Kt w w') : CkAt w' f si c := by
  obtain ⟨cur, h1, h2⟩ := h.usr
  exact ⟨(hK _ _ _ h.blk (by unfold rT; decide)).trans h.blk, ⟨cur, (hK _ _ _ h1 (by unfold rT; decide)).trans h1, h2⟩, h.cap, h.small, h.pb, h.kb⟩
theorem cell_kt {w w' : World} (hK : Kt w w') {g i : Nat} {cs : Array Value} {T : TypeId} (h : w.heap[g]? = some (.cells cs T (0, 0))) (hT : rT T) : w'.cell? ⟨g, i, none⟩ = w.cell? ⟨g, i, none⟩ := World.cell?_of_block (hK g cs T h hT)
theorem own_ktT {w w' : World} {B e n : Nat} {v : Value} {xs : List Value} (h : w.ownsRow B e 1 v n xs) (hK : Kt w w') (hT : rT e) : w'.ownsRow B e 1 v n xs := by
  refine ⟨h.1, ?_⟩
  rcases h.2 with hn | ⟨g, cap, cur, rfl, hb, hg, hr⟩
  · exact .inl hn
  · exact .inr ⟨g, cap, cur, rfl, hb, (hK g cur e hg hT).trans hg, hr⟩
theorem SetAt.kt {w w' : World} {B : Nat} {f si : Int} {t : SetSt} (h : SetAt w B f si t) (hK : Kt w w') : SetAt w' B f si t :=
  ⟨(hK _ _ _ h.blk (by unfold rT; decide)).trans h.blk, own_ktT h.row hK (by unfold rT; decide), fun c hc => (h.ck c hc).kt hK, h.sB, h.kb, h.len⟩
theorem RAt.kt {w w' : World} {B : Nat} {f si : Int} {x : RSt} (h : RAt w B f si x) (hK : Kt w w') : RAt w' B f si x := by
  obtain ⟨cs, hc⟩ := h.rty
  refine ⟨(hK _ _ _ h.blk (by unfold rT; decide)).trans h.blk, fun i t ht => ⟨(h.row i t ht).1, ?_⟩, ⟨cs, (hK _ _ _ hc (by unfold rT; decide)).trans hc⟩, fun t ht => (h.sets t ht).kt hK, h.cap, h.len, h.nb, h.ns⟩
  rw [cell_kt hK hc (by unfold rT; decide)]; exact (h.row i t ht).2
theorem Mod.kt {w w' : World} (h : Mod (fun _ => False) w w') : Kt w w' := Kt.mod h (fun _ h => h.elim)

/-- What is known of the queue before the read of number j. -/
def RIo (B : Nat) (f si : Int) (N : Nat) (R : Nat → List SetSt → Int → Prop) (q j : Nat) (w : World) : Prop :=
  (B ≤ q ∧ ∃ c, w.heap[q]? = some (Obj.cells c 64 (0, 0))) ∧ (j < N → ∃ x : RSt, x.q = q ∧ (∃ a4 c4, x.v4 = .slice a4 0 c4) ∧ RAt w B f si x ∧ R j x.ord x.nssn ∧ ∀ t ∈ x.ord, ∀ c ∈ t.l, 0 < c.pc.bytes.length)
def QIo (B : Nat) (f si : Int) (cs : List Ck) (q : Nat) (D : List Ck) (w : World) : Prop :=
  B ≤ w.heap.size ∧ ∃ x : QSt, x.q = q ∧ (∃ a4 c4, x.v4 = .slice a4 0 c4) ∧ QAt w B f si x ∧ Inv x D ∧ (∃ j, D.map (·.pc) = (cs.take j).map (·.pc))

/-- What the next read is to be. -/
def NextO (N j : Nat) (sz : Nat) (res : Res) (R : Nat → List SetSt → Int → Prop) (ord : List SetSt) (nssn : Int) : Prop :=
  (res = none ∧ R (j + 1) ord nssn ∧ (ord = [] ∨ ∃ t r, ord = t :: r ∧ (¬ Compl t.l ∨ (nssn < t.k ∧ Compl t.l)))) ∨
  ∃ t r, ord = t :: r ∧ Compl t.l ∧ t.k = nssn ∧ ((sz < tot t.l ∧ res = none ∧ j + 1 = N) ∨ (tot t.l ≤ sz ∧ res = some (allBytes t.l, t.ppi) ∧ R (j + 1) r (nssn + 1)))

theorem glob_below {B g : Nat} {w w' : World} (h : GlobErr w g) (hb : Below B w w') (hg : g < B) : GlobErr w' g := by
  obtain ⟨u, v, h⟩ := h
  exact ⟨u, v, (hb.cell (p := ⟨g, 0, none⟩) hg).trans h⟩
end Go.Proofs.YtmniikihkpikdaaDoor
