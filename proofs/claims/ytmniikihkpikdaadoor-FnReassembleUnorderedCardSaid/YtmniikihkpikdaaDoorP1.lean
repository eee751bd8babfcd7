/- Proved here: lemmas by which a walk becomes a row: listed package-level variables, and a slice of bytes that came in; conditions: as each theorem states. -/
import Derived.Test.YtmniikihkpikdaaDoorCards
import Derived.Test.YtmniikihkpikdaaDoorTie
import Derived.WalkKit
import Derived.ProofKit
import Derived.OpenShut
import Derived.ShutString
import Derived.ChangeOld
import Derived.Below
import Derived.WalkSmall
import Derived.Deep.DeepHandedRow
import Derived.Deep.DeepWitnessRowRef
import Derived.LaidLaws
import Derived.RowKitTokens
import Derived.SevenTiedAt
import Derived.Test.YtmniikihkpikdaaDoorM28
namespace Go.Proofs.YtmniikihkpikdaaDoor
open Go.ChangeShapes Go.WideShapes Go.ChangeAt Go.RowKit
set_option linter.unusedVariables false

/-- A listed variable that reads as an interface value is one that is not nil. -/
theorem iface_of_trod {P : Program} {w : World} {sp : Nat → Bool} {fuel : Nat} {t : TypeId} {ms : Array (String × TypeId)} (ht : P.underlying t = some (.interface ms)) {cs : List Value} {nm : String} {d : DataW Unit} {p : List MemPlace}
    (h : DataW.trod (fun _ => ()) P w 0 sp false fuel t cs = some (.iface nm d, p)) : ∃ u v, cs = [.iface u v] := by
  cases fuel with
  | zero => simp [DataW.trod] at h
  | succ n =>
    match cs, h with
    | [], h => simp [DataW.trod, ht] at h
    | [v], h => cases v <;> simp [DataW.trod, ht] at h <;> exact ⟨_, _, rfl⟩
    | _ :: _ :: _, h => simp [DataW.trod, ht] at h

theorem laid_err {P : Program} {w : World} : ∀ (laid : List (String × DataW Unit)) (ps : List MemPlace), DataW.LaidVars P w laid ps → ∀ (n nm : String) (d : DataW Unit) (g : Nat) (t : TypeId) (ms : Array (String × TypeId)),
    (n, .iface nm d) ∈ laid → P.globalNamed n = some g → (P.globals[g]?).map (·.type) = some t → P.underlying t = some (.interface ms) → ∃ u v, w.var? P n = some #[.iface u v]
  | [], ps, h, n, nm, d, g, t, ms, hm, _, _, _ => by cases hm
  | (n', d') :: r, ps, ⟨g', t', cs, fuel, p, q, hg', ht', hv, hd, hr, _⟩, n, nm, d, g, t, ms, hm, hg, ht, hu => by
    rcases List.mem_cons.1 hm with e | hm
    · obtain ⟨rfl, rfl⟩ := Prod.mk.inj e
      obtain rfl := Option.some.inj (hg.symm.trans hg')
      obtain rfl := Option.some.inj (ht.symm.trans ht')
      obtain ⟨u, v, e⟩ := iface_of_trod hu hd
      refine ⟨u, v, ?_⟩
      rw [hv]; obtain ⟨l⟩ := cs; simp only at e; rw [e]
    · exact laid_err r q hr n nm d g t ms hm hg ht hu

def ifaceVarB (P : Program) (n : String) : Bool :=
  match P.globalNamed n with
  | some g => match (P.globals[g]?).map (·.type) with
    | some t => match P.underlying t with
      | some (.interface _) => true
      | _ => false
    | none => false
  | none => false
theorem ifaceVarB_spec {P : Program} {n : String} (h : ifaceVarB P n = true) : ∃ g t ms, P.globalNamed n = some g ∧ (P.globals[g]?).map (·.type) = some t ∧ P.underlying t = some (.interface ms) := by
  unfold ifaceVarB at h
  split at h
  · rename_i g hg
    split at h
    · rename_i t ht
      split at h
      · rename_i ms hu; exact ⟨g, t, ms, hg, ht, hu⟩
      · cases h
    · cases h
  · cases h

/-- Variables of an interface's type read again as tokens, whatever else has turned. -/
theorem vars_again {H : Type} {enc : TypeId × Value → H} {P : Program} {W W' : World} {sp sp' : Nat → Bool} : ∀ (names : List String) (gs : List (DataW H)) (q : List MemPlace),
    DataW.TrodVars enc P W sp names gs q → (names.all (ifaceVarB P)) = true → (∀ n cs, W.var? P n = some cs → n ∈ names → W'.var? P n = some cs) → DataW.TrodVars enc P W' sp' names gs q
  | [], [], q, h, _, _ => h
  | [], _ :: _, q, h, _, _ => by cases h
  | _ :: _, [], q, h, _, _ => by cases h
  | n :: ns, d :: ds, q, ⟨g, t, cs, fuel, p, q', hg, ht, hv, hd, hr, hq⟩, hall, hk => by
    simp only [List.all_cons, Bool.and_eq_true] at hall
    obtain ⟨g2, t2, ms, hg2, ht2, hu⟩ := ifaceVarB_spec hall.1
    obtain rfl := Option.some.inj (hg.symm.trans hg2)
    obtain rfl := Option.some.inj (ht.symm.trans ht2)
    obtain ⟨v, hcs, hi, hy⟩ := held_of_trod_list hu hd
    refine ⟨g, t, cs, 1, p, q', hg, ht, hk n cs hv (by simp), ?_, vars_again ns ds q' hr hall.2 (fun m cs hm hn => hk m cs hm (by simp [hn])), hq⟩
    rw [hcs, hy]
    exact trod_held hu hi 0

theorem var_lt {P : Program} {W : World} {n : String} {g : Nat} {cs : Array Value} (hg : P.globalNamed n = some g) (h : W.var? P n = some cs) : g < W.heap.size := by
  simp only [World.var?, hg, Option.bind_some] at h
  rcases Nat.lt_or_ge g W.heap.size with h' | h'
  · exact h'
  · rw [Array.getElem?_eq_none h'] at h; simp at h

theorem vars_below {P : Program} {W W' : World} (hb : Below W.heap.size W W') {names : List String} (hall : (names.all (ifaceVarB P)) = true) : ∀ n cs, W.var? P n = some cs → n ∈ names → W'.var? P n = some cs := by
  intro n cs hv hn
  obtain ⟨g, t, ms, hg, _, _⟩ := ifaceVarB_spec (List.all_eq_true.1 hall n hn)
  exact var?_below hb hg (var_lt hg hv) hv

theorem bytes_of_row {w : World} {x : Addr} {len cap : Nat} {zs : List Int} (hl : len ≤ cap) (hz : zs.length = cap) (hcell : ∀ i, i < zs.length → w.cell? (x.add i) = some (.int .u8 (zs.getD i 0))) (hwz : ∀ n ∈ zs, (Lit.int .u8 n).wf = true) :
    BytesAt w (some x) len cap (zs.take len) := by
  have hg : ∀ i, i < len → (zs.take len).getD i 0 = zs.getD i 0 := by
    intro i hi
    simp [List.getD_eq_getElem?_getD, hi]
  refine ⟨(by simp; omega), hl, (fun h => by cases h), fun a ha i hi => ?_, fun i => ?_⟩
  · obtain rfl := Option.some.inj ha
    rw [hg i hi]; exact hcell i (by omega)
  · by_cases hi : i < len
    · rw [hg i hi]
      have hm : zs.getD i 0 ∈ zs := by
        rw [List.getD_eq_getElem?_getD, List.getElem?_eq_getElem (by omega), Option.getD_some]
        exact List.getElem_mem _
      have := hwz _ hm
      simp [Lit.wf, IntKind.min, IntKind.max, IntKind.bits, IntKind.signed] at this
      simp only [List.getD_eq_getElem?_getD]
      omega
    · have : (zs.take len).getD i 0 = 0 := by
        rw [List.getD_eq_getElem?_getD, List.getElem?_eq_none (by simp; omega)]; rfl
      rw [this]; omega

theorem vars_length {H : Type} {enc : TypeId × Value → H} {P : Program} {W : World} {sp : Nat → Bool} : ∀ (names : List String) (gs : List (DataW H)) (q : List MemPlace), DataW.TrodVars enc P W sp names gs q → gs.length = names.length
  | [], [], _, _ => rfl
  | [], _ :: _, _, h => by cases h
  | _ :: _, [], _, h => by cases h
  | n :: ns, d :: ds, q, ⟨g, t, cs, fuel, p, q', hg, ht, hv, hd, hr, hq⟩ => by
    simp only [List.length_cons]; rw [vars_length ns ds q' hr]

theorem ints_of_row {w : World} {x : Addr} {len cap : Nat} {zs : List Int} (hl : len ≤ cap) (hz : zs.length = cap) (hcell : ∀ i, i < zs.length → w.cell? (x.add i) = some (.int .i64 (zs.getD i 0))) :
    IntsAt w (some x) len cap (zs.take len) := by
  have hg : ∀ i, i < len → (zs.take len).getD i 0 = zs.getD i 0 := by
    intro i hi
    simp [List.getD_eq_getElem?_getD, hi]
  refine ⟨(by simp; omega), hl, (fun h => by cases h), fun a ha i hi => ?_⟩
  obtain rfl := Option.some.inj ha
  rw [hg i hi]; exact hcell i (by omega)
theorem ints_nil (w : World) : IntsAt w none 0 0 [] := ⟨rfl, Nat.le_refl _, fun _ => rfl, (fun _ h => by cases h)⟩

theorem bytes_nil (w : World) : BytesAt w none 0 0 [] := ⟨rfl, Nat.le_refl _, fun _ => rfl, (fun _ h => by cases h), fun i => ⟨Int.le_refl 0, by show (0 : Int) < 256; omega⟩⟩
theorem own : ownKnob Tryd.prog.godebug = none := by kernel_rfl
theorem laidOut : laidOutB Tryd.prog = true := by kernel_rfl
end Go.Proofs.YtmniikihkpikdaaDoor
