/- Part of the proofs of the three laws on reassembly: impl.Reassemble over pieces in order, and pieces mixed, in one statement each; conditions: as each theorem states. -/
import Derived.Test.YtmniikihkpikdaaDoorM27
namespace Go.Proofs.YtmniikihkpikdaaDoor
open Go.RowKit
set_option linter.unusedVariables false

theorem row_of_recs {w : World} {B g c : Nat} {f si : Int} {rs : List Dk} (h : w.ownsRow B 31 9 (.slice (some ⟨g, 0, none⟩) rs.length c) rs.length (recs f si rs)) : RowAt 0 w (some ⟨g, 0, none⟩) rs.length c 9 (dval f si rs) := by
  obtain ⟨h1, h2, h3, _⟩ := own_cap h
  refine .inr ⟨g, rfl, Nat.zero_le _, h3, h1, fun k hk => ?_⟩
  exact own_cells h k _ (flat_at (dCells f si) (fun _ => rfl) default rs k hk)

theorem re_ord {w : World} {B g c N sc : Nat} {f si : Int} {rs : List Dk} {so : Option Addr} {sz : Nat → Nat} {res : Nat → Res} {R : Nat → List SetSt → Int → Prop}
    (hown : w.ownsRow B 31 9 (.slice (some ⟨g, 0, none⟩) rs.length c) rs.length (recs f si rs)) (hds : ∀ d ∈ rs, DkAt w d) (hg0 : GlobErr w 0) (hg1 : GlobErr w 1) (hpw : (rs.map (·.pc)).Pairwise ApartP) (hun : ∀ d ∈ rs, d.pc.un = false) (hk : ∀ d ∈ rs, d.pc.k < 100)
    (hn0 : 0 < rs.length) (hn1 : rs.length ≤ 1500) (hszs : RowAt 0 w so N sc 1 (fun k => .int .i64 (sz k))) (hN : N ≤ 1000) (hsz : ∀ j, sz j ≤ 65536) (hsi : 0 ≤ si ∧ si < 65536)
    (hres : ∀ k l p, res k = some (l, p) → 0 < l.length ∧ (∀ i, 0 ≤ l.getD i 0 ∧ l.getD i 0 < 256) ∧ 0 ≤ p ∧ p < 4294967296)
    (hR0 : ∀ ord, OrdP ord (rs.map (·.pc)) → R 0 ord 0) (hRs : ∀ j ord nssn, j < N → R j ord nssn → NextO N j (sz j) (res j) R ord nssn) :
    Calls Tryd.prog 9 #[.slice (some ⟨g, 0, none⟩) rs.length c, .slice so N sc] w (ReBack w N res) := by
  have b0 : 0 < w.heap.size := by obtain ⟨u, v, h⟩ := hg0; exact lt_of_cell h
  have b1 : 1 < w.heap.size := by obtain ⟨u, v, h⟩ := hg1; exact lt_of_cell h
  refine re_any (fun W zs hb hz => ?_) (row_of_recs hown) hds hszs hn0 (by omega) hN hsz hsi hres
  have hzm : ∀ z ∈ zs, ∃ d ∈ rs, d.pc = z.pc := fun z hz' => by
    have : z.pc ∈ rs.map (·.pc) := by rw [← hz]; exact List.mem_map.2 ⟨z, hz', rfl⟩
    obtain ⟨d, hd, e⟩ := List.mem_map.1 this
    exact ⟨d, hd, e⟩
  refine ord_hyp (glob_below hg0 hb b0) (glob_below hg1 hb b1) (by rw [hz]; exact hpw) (fun z hz' => ?_) (fun z hz' => ?_) (fun z hz' => ?_) (by have := congrArg List.length hz; simp at this; omega) hsz (fun ord h => hR0 ord (by rw [← hz]; exact h)) hRs
  · obtain ⟨d, hd, e⟩ := hzm z hz'; rw [← e]; exact hun d hd
  · obtain ⟨d, hd, e⟩ := hzm z hz'; rw [← e]; exact ⟨(hds d hd).kb.1, hk d hd⟩
  · obtain ⟨d, hd, e⟩ := hzm z hz'; rw [← e]; exact (hds d hd).pos

/-- The messages of a list of one. -/
theorem ms_one {w : World} {mo : Option Addr} {n mc : Nat} {b : List Int} (h : BytesAt w mo n mc b) : MsAt (w.alloc (.cells #[.slice mo n mc] 29)) (some ⟨w.heap.size, 0, none⟩) 1 1 [b] := by
  have hM : Mod (fun _ => False) w (w.alloc (.cells #[.slice mo n mc] 29)) := (Mod.refl _ w).alloc _
  refine ⟨rfl, Nat.le_refl _, fun k hk => ?_⟩
  obtain rfl : k = 0 := by omega
  have hl : b.length = n := h.len
  refine ⟨w.heap.size, 0, mo, mc, rfl, ?_, ?_⟩
  · rw [cell_of_block (heap_new w _)]; show some (Value.slice mo n mc) = some (Value.slice mo b.length mc); rw [hl]
  · show BytesAt _ mo b.length mc b
    rw [hl]; exact h.mod hM (fun _ _ h => h)
theorem sizes_one {w : World} {r : Nat} : RowAt 0 (w.alloc (.cells #[.int .i64 r] 3)) (some ⟨w.heap.size, 0, none⟩) 1 1 1 (fun _ => .int .i64 r) := by
  refine .inr ⟨w.heap.size, rfl, Nat.zero_le _, by simp, Nat.le_refl _, fun k hk => ?_⟩
  obtain rfl : k = 0 := by omega
  rw [cell_of_block (heap_new w _)]; rfl
def IsTrue (w : World) (e : Ending) (w' : World) : Prop := e = .returned (.bool true) ∧ Below w.heap.size w w'
theorem upTo_k {ms : List (List Int)} {s n : Nat} {x : Pc} (h : x ∈ upTo ms s n) : x.un = false ∧ x.k < n := by
  obtain ⟨k, hk, i, _, rfl⟩ := upTo_mem h
  refine ⟨rfl, ?_⟩
  show (k : Int) < n
  omega
end Go.Proofs.YtmniikihkpikdaaDoor
