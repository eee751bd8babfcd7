/- Part of the proofs of the three laws on reassembly: the search for a whole message among chunks that have no place in an order, where none is whole; conditions: as each theorem states. -/
import Derived.Test.YtmniikihkpikdaaDoorM28
namespace Go.Proofs.YtmniikihkpikdaaDoor
open Go.RowKit
set_option linter.unusedVariables false

/-- A queue with chunks that have no place in an order. -/
structure UQ (w : World) (B : Nat) (f si : Int) (x : QSt) (U : List Ck) : Prop where
  q : QAt w B f si x
  row : w.ownsRow B 51 1 x.v5 U.length (U.map fun c => ptr c.b)
  ck : ∀ c ∈ U, CkAt w f si c
  len : U.length ≤ 1000
/-- The pieces of one message of m pieces, sorted. -/
structure OneMsg (m : Nat) (U : List Ck) : Prop where
  beg : ∀ c ∈ U, c.pc.beg = decide (c.pc.p = 0)
  fin : ∀ c ∈ U, c.pc.fin = decide (c.pc.p + 1 = (m : Int))
  rng : ∀ c ∈ U, 0 ≤ c.pc.p ∧ c.pc.p < m
  srt : U.Pairwise fun a b => a.pc.p < b.pc.p
theorem OneMsg.ge {m : Nat} {U : List Ck} (h : OneMsg m U) : ∀ j (hj : j < U.length), (j : Int) ≤ (U.getD j default).pc.p := by
  intro j
  induction j with
  | zero => intro hj; rw [List.getD_eq_getElem?_getD, List.getElem?_eq_getElem hj]; exact (h.rng _ (List.getElem_mem hj)).1
  | succ j ih =>
    intro hj
    have h1 := ih (by omega)
    have h2 := List.pairwise_iff_getElem.1 h.srt j (j + 1) (by omega) hj (by omega)
    rw [List.getD_eq_getElem?_getD, List.getElem?_eq_getElem (by omega : j < U.length)] at h1
    rw [List.getD_eq_getElem?_getD, List.getElem?_eq_getElem hj]
    simp only [Option.getD_some] at h1 ⊢
    omega
/-- The search so far. -/
def FindRel (w : World) (f : Int) (U : List Ck) (n : Nat) (v3 v4 v5 v6 v16 : Value) (wr : World) : Prop :=
  ∃ (i : Nat) (s nc lt : Int), i ≤ n ∧ v16 = .int .i64 i ∧ v3 = .int .i64 s ∧ v4 = .int .i64 nc ∧ v5 = .int .u32 lt ∧ v6 = .bool false ∧ wr = w ∧
    (s = -1 ∨ (s = 0 ∧ 0 < i ∧ nc = i ∧ lt = Go.Proofs.YtmniikihkpikdaaDoor.U f ((i : Int) - 1) ∧ ∀ j : Nat, j < i → (U.getD j default).pc.p = j))
/-- Nothing was found. -/
def NoSet (w : World) (e : Ending) (w' : World) : Prop := e = .returned (.pointer none) ∧ w' = w

set_option maxHeartbeats 2000000 in
set_option maxRecDepth 20000 in
theorem find_none {w : World} {B : Nat} {f si : Int} {x : QSt} {U : List Ck} {m : Nat} (h : UQ w B f si x U) (hO : OneMsg m U) (hlt : U.length < m) : Calls Tryd.prog 32 #[ptr x.q] w (NoSet w) := by
  have H := Lib.hid h; have HO := Lib.hid hO
  obtain ⟨va, vc, hv5, hvc, hvat⟩ := own_form h.row
  have q5 : w.cell? ⟨x.q, 5, none⟩ = some (.slice va U.length vc) := by rw [h.q.cell 5, ← hv5]; rfl
  have HAT := Lib.hid hvat
  obtain ⟨q, hq⟩ : ∃ q, q = x.q := ⟨_, rfl⟩
  rw [← hq] at q5 ⊢
  obtain ⟨n, hn⟩ : ∃ n, n = U.length := ⟨_, rfl⟩
  have HN := Lib.hid hn
  have hl := h.len
  rw [← hn] at q5 hlt hvc hl
  unfold ptr
  clear h hO hv5 hvat hq hn
  go_enter Tryd.func32, Tryd.ntmps32
  go_wp2_with fail
  go_loopw [3, 4, 5, 6, 16] (fun v3 v4 v5 v6 v16 wr => FindRel w f U n v3 v4 v5 v6 v16 wr) (fun _ _ _ _ vi _ => n - (intOf vi).toNat)
  case atStart => exact ⟨0, -1, 0, 0, Nat.zero_le _, rfl, rfl, rfl, rfl, rfl, rfl, .inl rfl⟩
  case round =>
    obtain ⟨i, s, nc, lt, hi, rfl, rfl, rfl, rfl, rfl, hwr, hcase⟩ := hrel
    obtain rfl := hwr.symm
    by_cases hin : i < n
    · have hiI : (i : Int) < n := by omega
      have hiU : i < U.length := by rw [← HN.out]; exact hin
      obtain ⟨c, hc⟩ : ∃ c, c = U.getD i default := ⟨_, rfl⟩
      have hce : U[i]? = some c := by rw [hc, List.getD_eq_getElem?_getD, List.getElem?_eq_getElem hiU]; rfl
      have hcm : c ∈ U := List.mem_of_getElem? hce
      obtain ⟨g, rfl, _, hgc⟩ := HAT.out i (ptr c.b) (by rw [List.getElem?_map, hce]; rfl)
      unfold ptr at hgc
      have hck := H.out.ck c hcm
      have c5 : w.cell? ⟨c.b, 5, none⟩ = some (.bool c.pc.beg) := hck.cell 5
      have c6 : w.cell? ⟨c.b, 6, none⟩ = some (.bool c.pc.fin) := hck.cell 6
      have c8 : w.cell? ⟨c.b, 8, none⟩ = some (.int .u32 (Go.Proofs.YtmniikihkpikdaaDoor.U f c.pc.p)) := hck.cell 8
      have hbeg := HO.out.beg c hcm
      have hfin := HO.out.fin c hcm
      have hrng := HO.out.rng c hcm
      have hge := HO.out.ge i hiU
      rw [← hc] at hge
      have hpb := hck.pb
      have hivc : (i : Int) < vc := by omega
      have w1i := wraps_i64 ((i : Int) + 1) (by omega) (by omega)
      obtain ⟨t, ht⟩ : ∃ t, t = Go.Proofs.YtmniikihkpikdaaDoor.U f c.pc.p := ⟨_, rfl⟩
      rw [← ht] at c8
      obtain ⟨cb, hcb⟩ : ∃ cb, cb = c.b := ⟨_, rfl⟩
      rw [← hcb] at c5 c6 c8 hgc
      have HC := Lib.hid hc; have HT := Lib.hid ht
      by_cases hp0 : c.pc.p = 0
      · -- it begins here
        have hi0 : i = 0 := by omega
        have hb : c.pc.beg = true := by rw [hbeg]; simp [hp0]
        have hf : c.pc.fin = false := by rw [hfin]; simp; omega
        rw [hb] at c5; rw [hf] at c6
        have HP0 := Lib.hid hp0
        have HI0 := Lib.hid hi0
        clear hc hce hcm hck hbeg hfin hrng hge hpb ht hcb hb hf hp0 hcase hi0
        go_wp2_with fail
        go_roundw
        case rel =>
          have := HI0.out
          subst this
          refine ⟨1, 0, 1, t, hin, by go_num, rfl, rfl, rfl, rfl, rfl, .inr ⟨rfl, by omega, rfl, by rw [HT.out, HP0.out]; rfl, fun j hj => ?_⟩⟩
          obtain rfl : j = 0 := by omega
          rw [← HC.out]; exact HP0.out
        case measure => simp [intOf]; omega
      · have hb : c.pc.beg = false := by rw [hbeg]; simp [hp0]
        rw [hb] at c5
        rcases hcase with hs | ⟨hs, hi0, hnc, hlt', hall⟩
        · subst hs
          clear hc hce hcm hck hbeg hfin hrng hge hpb ht hcb hb hp0
          go_wp2_with fail
          go_roundw
          case rel => exact ⟨i + 1, -1, nc, lt, hin, by go_num, rfl, rfl, rfl, rfl, rfl, .inl rfl⟩
          case measure => simp [intOf]; omega
        · subst hs hnc
          have hU1 : (lt + 1) % 4294967296 = Go.Proofs.YtmniikihkpikdaaDoor.U f i := by rw [hlt']; unfold Go.Proofs.YtmniikihkpikdaaDoor.U; omega
          obtain ⟨u, hu⟩ : ∃ u, u = Go.Proofs.YtmniikihkpikdaaDoor.U f i := ⟨_, rfl⟩
          rw [← hu] at hU1
          have HALL := Lib.hid hall
          by_cases hpi : c.pc.p = i
          · have hf : c.pc.fin = false := by rw [hfin, hpi]; simp; omega
            rw [hf] at c6
            have hne : (t != u) = false := by rw [ht, hu, hpi]; simp
            have hi0I : (0 : Int) < i := by omega
            have HPI := Lib.hid hpi
            have w2i := wraps_i64 ((i : Int) + 1) (by omega) (by omega)
            clear hc hce hcm hck hbeg hfin hrng hge hpb ht hcb hb hp0 hpi hf hu hlt' hall
            go_wp2_with fail
            go_roundw
            case rel =>
              refine ⟨i + 1, 0, (i : Int) + 1, t, hin, by go_num, rfl, rfl, rfl, rfl, rfl, .inr ⟨rfl, by omega, by omega, by rw [HT.out, HPI.out]; congr 1; omega, fun j hj => ?_⟩⟩
              by_cases hji : j < i
              · exact HALL.out j hji
              · obtain rfl : j = i := by omega
                rw [← HC.out]; exact HPI.out
            case measure => simp [intOf]; omega
          · have hne : (t != u) = true := by
              simp only [bne_iff_ne, ne_eq]
              rw [ht, hu, U_inj _ _ _ (by omega)]
              exact hpi
            clear hc hce hcm hck hbeg hfin hrng hge hpb ht hcb hb hp0 hpi hu hlt' hall
            go_wp2_with fail
            go_roundw
            case rel => exact ⟨i + 1, -1, i, lt, hin, by go_num, rfl, rfl, rfl, rfl, rfl, .inl rfl⟩
            case measure => simp [intOf]; omega
    · obtain rfl : i = n := by omega
      have hii : (i : Int) ≤ i := Int.le_refl _
      clear hcase
      go_wp2_with fail
      go_ret
      exact ⟨rfl, rfl⟩
end Go.Proofs.YtmniikihkpikdaaDoor
