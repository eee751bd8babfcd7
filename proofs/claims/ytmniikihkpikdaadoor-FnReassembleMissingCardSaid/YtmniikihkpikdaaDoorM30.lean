/- Part of the proofs of the three laws on reassembly: messages that came in, read as lists of bytes; conditions: as each theorem states. -/
import Derived.Test.YtmniikihkpikdaaDoorP1
import Derived.ChangeSlices
namespace Go.Proofs.YtmniikihkpikdaaDoor
open Go.ChangeShapes Go.WideShapes Go.ChangeAt Go.RowKit
set_option linter.unusedVariables false

theorem cells29 : Tryd.prog.cellsOf 29 = 1 := by kernel_rfl
theorem cells5 : Tryd.prog.cellsOf 5 = 1 := by kernel_rfl
theorem addr_plain {w : World} {a : Addr} {p : Option Addr} {m c : Nat} (h : w.cell? (a.add 0) = some (.slice p m c)) : ∃ g off, a = ⟨g, off, none⟩ := by
  obtain ⟨b, off, sp⟩ := a
  cases sp with
  | none => exact ⟨b, off, rfl⟩
  | some s => simp [Addr.add, World.cell?] at h; split at h <;> simp at h
theorem add_plain (g off k : Nat) : (⟨g, off, none⟩ : Addr).add k = ⟨g, off + k, none⟩ := by unfold Addr.add; split <;> simp_all

theorem ms_of_trod {H : Type} {enc : TypeId × Value → H} {W : World} {sp : Nat → Bool} {held : Bool} {fuel : Nat} {ao : Option Addr} {n c : Nat} {x : DataW H × List MemPlace} (hf : DataW.trod enc Tryd.prog W 0 sp held fuel 23 [.slice ao n c] = some x) : ∃ ms, MsAt W ao n c ms := by
  rcases DataW.trod_slice Tryd.underlying23 hf with ⟨hcs, _⟩ | ⟨a, len, cap, elems, rest, m, _, hcs, hx, hb, hl, hm, hlen, hel, _⟩
  · obtain ⟨rfl, rfl, rfl⟩ : ao = none ∧ n = 0 ∧ c = 0 := by simpa using hcs
    exact ⟨[], rfl, Nat.le_refl _, fun k hk => by omega⟩
  · obtain ⟨rfl, rfl, rfl⟩ : ao = some a ∧ n = len ∧ c = cap := by simpa using hcs
    have each : ∀ i, i < n → ∃ b : List Int, ∃ mo mc, W.cell? (a.add i) = some (.slice mo b.length mc) ∧ BytesAt W mo b.length mc b := by
      intro i hi
      have h1 := hel i hi
      rw [List.getElem?_eq_getElem (by omega : i < elems.length), cells29, Nat.mul_one, Option.bind_eq_some_iff] at h1
      obtain ⟨cs', hcs', hy⟩ := h1
      rcases open_ints Tryd.underlying29 Tryd.underlying5 cells5 hy with ⟨rfl, _⟩ | ⟨x, l, cp, zs, rfl, _, hl', hm', hz, _, hcell, hwz⟩
      · exact ⟨[], none, 0, cell_of_cells?_one hcs', bytes_nil W⟩
      · have hlz : l ≤ zs.length := by rw [hz]; split <;> omega
        have e : (zs.take l).length = l := by rw [List.length_take]; omega
        refine ⟨zs.take l, some x, cp, by rw [e]; exact cell_of_cells?_one hcs', ?_⟩
        rw [e]
        have hg : ∀ j, j < l → (zs.take l).getD j 0 = zs.getD j 0 := by
          intro j hj; simp [List.getD_eq_getElem?_getD, hj]
        refine ⟨e, hl', (fun h => by cases h), fun y hy j hj => ?_, fun j => ?_⟩
        · obtain rfl := Option.some.inj hy
          rw [hg j hj]; exact hcell j (by omega)
        · by_cases hj : j < l
          · rw [hg j hj]
            have hmm : zs.getD j 0 ∈ zs := by
              rw [List.getD_eq_getElem?_getD, List.getElem?_eq_getElem (by omega), Option.getD_some]
              exact List.getElem_mem _
            have := hwz _ hmm
            simp [Lit.wf, IntKind.min, IntKind.max, IntKind.bits, IntKind.signed] at this
            simp only [List.getD_eq_getElem?_getD]
            omega
          · have : (zs.take l).getD j 0 = 0 := by
              rw [List.getD_eq_getElem?_getD, List.getElem?_eq_none (by omega)]; rfl
            rw [this]; omega
    let F : Nat → List Int := fun i => if h : i < n then Classical.choose (each i h) else []
    refine ⟨(List.range n).map F, by simp, hl, fun k hk => ?_⟩
    have e : ((List.range n).map F).getD k [] = Classical.choose (each k hk) := by
      rw [List.getD_eq_getElem?_getD, List.getElem?_map, List.getElem?_range hk]
      simp [F, hk]
    rw [e]
    obtain ⟨mo, mc, h1, h2⟩ := Classical.choose_spec (each k hk)
    obtain ⟨_, _, _, h0, _⟩ := each 0 (by omega)
    obtain ⟨g, off, rfl⟩ := addr_plain h0
    exact ⟨g, off, mo, mc, rfl, (congrArg W.cell? (add_plain g off k)).symm.trans h1, h2⟩
end Go.Proofs.YtmniikihkpikdaaDoor
