/- Part of the proofs of the three laws on reassembly: the search for a whole message among chunks that have no place in an order, where all its pieces are there; conditions: as each theorem states. -/
import Derived.Test.YtmniikihkpikdaaDoorM32
import Derived.Test.YtmniikihkpikdaaDoorN7
namespace Go.Proofs.YtmniikihkpikdaaDoor
open Go.RowKit
set_option linter.unusedVariables false

theorem OneMsg.step {m : Nat} {L : List Ck} (h : OneMsg m L) (j : Nat) : ∀ d, j + d < L.length → (L.getD j default).pc.p + d ≤ (L.getD (j + d) default).pc.p := by
  intro d
  induction d with
  | zero => intro _; simp
  | succ d ih =>
    intro hj
    have h1 := ih (by omega)
    have h2 := List.pairwise_iff_getElem.1 h.srt (j + d) (j + d + 1) (by omega) hj (by omega)
    rw [List.getD_eq_getElem?_getD (l := L) (i := j + d), List.getElem?_eq_getElem (by omega : j + d < L.length)] at h1
    rw [show j + (d + 1) = j + d + 1 by omega] at hj ⊢
    rw [List.getD_eq_getElem?_getD (l := L) (i := j + d + 1), List.getElem?_eq_getElem hj]
    simp only [Option.getD_some] at h1 ⊢
    omega
theorem OneMsg.eq {m : Nat} {L : List Ck} (h : OneMsg m L) (hl : L.length = m) (j : Nat) (hj : j < L.length) : (L.getD j default).pc.p = j := by
  have h1 := h.ge j hj
  have h2 := h.step j (L.length - 1 - j) (by omega)
  have h3 := h.rng (L.getD (j + (L.length - 1 - j)) default) (by
    rw [List.getD_eq_getElem?_getD, List.getElem?_eq_getElem (by omega)]; exact List.getElem_mem _)
  omega
theorem QAt.turned {S : Nat → Prop} {w w' : World} {B : Nat} {f si : Int} {x x' : QSt} (h : QAt w B f si x) (ho : x.ord = []) (hM : Mod S w w') (hgo : ¬ S x.go) (hb : w'.heap[x.q]? = some (.cells (qCells si x') 64 (0, 0))) (hq : x'.q = x.q) (hg : x'.go = x.go) (hc : x'.co = x.co) (ho' : x'.ord = []) (hnb : 0 ≤ x'.nb ∧ x'.nb ≤ 100000000) : QAt w' B f si x' := by
  have hr := h.row
  rw [ho] at hr
  refine ⟨by rw [hq]; exact hb, ?_, (fun t ht => by rw [ho'] at ht; cases ht), (by rw [ho']; exact List.Pairwise.nil), (by rw [ho']; exact List.Pairwise.nil), by rw [hq]; exact h.qB, (by rw [ho']; exact Nat.zero_le _), hnb⟩
  rw [ho', hg, hc]
  exact owned_modS hr hM (fun g e hk => hgo (by have e : x.go = g := by simpa [Value.ownBlock] using e
                                                rw [e]; exact hk))
theorem QAt.keep {S : Nat → Prop} {w w' : World} {B : Nat} {f si : Int} {x : QSt} (h : QAt w B f si x) (ho : x.ord = []) (hM : Mod S w w') (hq : ¬ S x.q) (hgo : ¬ S x.go) : QAt w' B f si x :=
  h.turned ho hM hgo ((hM.block _ h.lt hq).trans h.blk) rfl rfl rfl ho h.nb
/-- The search so far. -/
def FindRel2 (w : World) (f : Int) (n : Nat) (v3 v4 v5 v6 v16 : Value) (wr : World) : Prop :=
  ∃ (i : Nat) (s nc lt : Int), i < n ∧ v16 = .int .i64 i ∧ v3 = .int .i64 s ∧ v4 = .int .i64 nc ∧ v5 = .int .u32 lt ∧ v6 = .bool false ∧ wr = w ∧
    ((i = 0 ∧ s = -1) ∨ (0 < i ∧ s = 0 ∧ nc = i ∧ lt = U f ((i : Int) - 1)))
/-- What was found. -/
def FoundBack (w : World) (B : Nat) (f si : Int) (x : QSt) (L : List Ck) (e : Ending) (w' : World) : Prop :=
  ∃ (t : SetSt) (ga : Option Addr) (c5 : Nat), e = .returned (ptr t.s) ∧ t.l = L ∧ t.k = 0 ∧ t.ppi = (L.getD 0 default).pc.proto ∧ SetAt w' B f si t ∧ QAt w' B f si { x with v5 := .slice ga 0 c5 } ∧ Kp B w w' ∧ (w.heap.size ≤ t.s ∧ w.heap.size ≤ t.g) ∧
    Mod (fun k => k = x.q ∨ x.v5.ownBlock = some k) w w'

set_option maxHeartbeats 4000000 in
set_option maxRecDepth 20000 in
theorem find_all {w : World} {B : Nat} {f si : Int} {x : QSt} {L : List Ck} {m : Nat} (h : UQ w B f si x L) (hO : OneMsg m L) (hlt : L.length = m) (hm0 : 0 < m) (hord : x.ord = []) (hB : B ≤ w.heap.size) : Calls Tryd.prog 32 #[ptr x.q] w (FoundBack w B f si x L) := by
  obtain ⟨i51, hi51, hz51, hzz1, hzz2⟩ := info_parts (show (Tryd.prog.info? 51).map (fun i => (i.zero, i.size, i.bytes)) = some (some (.pointer none), 1, 8) by kernel_rfl)
  have H := Lib.hid h; have HO := Lib.hid hO; have HORD := Lib.hid hord
  have hrow := h.row
  obtain ⟨gu, vc, hv5, hvc, hguB, hgul⟩ : ∃ gu vc, x.v5 = .slice (some ⟨gu, 0, none⟩) L.length vc ∧ L.length ≤ vc ∧ B ≤ gu ∧ gu < w.heap.size := by
    rcases hrow.2 with ⟨_, h0⟩ | ⟨g, cap, cur, e, hb, hg, hnc, _⟩
    · omega
    · exact ⟨g, cap, e, hnc, hb, (Array.getElem?_eq_some_iff.1 hg).1⟩
  rw [hv5] at hrow
  have q5 : w.cell? ⟨x.q, 5, none⟩ = some (.slice (some ⟨gu, 0, none⟩) L.length vc) := by rw [h.q.cell 5, ← hv5]; rfl
  have HROW := Lib.hid hrow
  have hqgu : x.q ≠ gu := by
    obtain ⟨_, cs, hg, _, _⟩ := own_row hrow
    exact ne_of_type h.q.blk hg (by decide)
  obtain ⟨q, hq⟩ : ∃ q, q = x.q := ⟨_, rfl⟩
  have HQ := Lib.hid hq; have HV5 := Lib.hid hv5; have HV5' := Lib.hid hv5.symm
  rw [← hq] at q5 hqgu ⊢
  have hql : q < w.heap.size := by rw [hq]; exact h.q.lt
  obtain ⟨n, hn⟩ : ∃ n, n = L.length := ⟨_, rfl⟩
  have HN := Lib.hid hn
  have hl := h.len
  rw [← hn] at q5 hlt hvc hl HROW HV5'
  obtain rfl : n = m := hlt
  have Q5 := Lib.hid q5; have HQG := Lib.hid hqgu
  unfold ptr
  clear h hO hrow hv5 hq hn hqgu hord
  go_enter Tryd.func32, Tryd.ntmps32
  go_wp2_with fail
  go_loopw [3, 4, 5, 6, 16] (fun v3 v4 v5 v6 v16 wr => FindRel2 w f n v3 v4 v5 v6 v16 wr) (fun _ _ _ _ vi _ => n - (intOf vi).toNat)
  case atStart => exact ⟨0, -1, 0, 0, hm0, rfl, rfl, rfl, rfl, rfl, rfl, .inl ⟨rfl, rfl⟩⟩
  case round =>
    obtain ⟨i, s, nc, lt, hin, rfl, rfl, rfl, rfl, rfl, hwr, hcase⟩ := hrel
    obtain rfl := hwr.symm
    have hiI : (i : Int) < n := by omega
    have hiU : i < L.length := by rw [← HN.out]; exact hin
    obtain ⟨c, hc⟩ : ∃ c, c = L.getD i default := ⟨_, rfl⟩
    have hce : L[i]? = some c := by rw [hc, List.getD_eq_getElem?_getD, List.getElem?_eq_getElem hiU]; rfl
    have hcm : c ∈ L := List.mem_of_getElem? hce
    have hgc : w.cell? ⟨gu, i, none⟩ = some (ptr c.b) := own_cell HROW.out (by rw [List.getElem?_map, hce]; rfl)
    unfold ptr at hgc
    have hck := H.out.ck c hcm
    have c5 : w.cell? ⟨c.b, 5, none⟩ = some (.bool c.pc.beg) := hck.cell 5
    have c6 : w.cell? ⟨c.b, 6, none⟩ = some (.bool c.pc.fin) := hck.cell 6
    have c8 : w.cell? ⟨c.b, 8, none⟩ = some (.int .u32 (U f c.pc.p)) := hck.cell 8
    have hp := HO.out.eq HN.out.symm i hiU
    rw [← hc] at hp
    have hbeg := HO.out.beg c hcm
    have hfin := HO.out.fin c hcm
    rw [hp] at hbeg hfin c8
    have hivc : (i : Int) < vc := by omega
    have w1i := wraps_i64 ((i : Int) + 1) (by omega) (by omega)
    obtain ⟨t, ht⟩ : ∃ t, t = U f i := ⟨_, rfl⟩
    rw [← ht] at c8
    obtain ⟨cb, hcb⟩ : ∃ cb, cb = c.b := ⟨_, rfl⟩
    rw [← hcb] at c5 c6 c8 hgc
    have HT := Lib.hid ht
    have hnvI : (n : Int) ≤ vc := by omega
    have wn : IntKind.i64.wrap (n : Int) = n := wraps_i64 _ (by omega) (by omega)
    have hn0I : (0 : Int) ≤ n := by omega
    rcases hcase with ⟨hi0, hs⟩ | ⟨hi0, hs, hnc, hlt'⟩
    · subst hi0 hs
      have hb : c.pc.beg = true := by rw [hbeg]; simp
      rw [hb] at c5
      by_cases hn1 : n = 1
      · have hf : c.pc.fin = true := by rw [hfin, hn1]; simp
        rw [hf] at c6
        clear hc hce hcm hck hbeg hfin ht hcb hb hf hp
        subst hn1
        have w11 : IntKind.i64.wrap (1 : Int) = 1 := wraps_i64 1 (by omega) (by omega)
        have HLEN : Hid ((L.map fun c => ptr c.b).length = 1 * 1) := Lib.hid (by rw [List.length_map, ← HN.out, Nat.mul_one])
        have HNEW : Hid (∀ j u, (L.map fun c => ptr c.b)[j]? = some u → w.cell? ((⟨gu, 0, none⟩ : Addr).add j) = some u) := Lib.hid (fun j u hu => by
          rw [show (⟨gu, 0, none⟩ : Addr).add j = ⟨gu, j, none⟩ from by unfold Addr.add; split <;> simp_all]
          exact own_cell HROW.out hu)
        have HONE : Hid (∀ u ∈ L.map (fun c => ptr c.b), u.oneCell' = true) := Lib.hid (fun u hu => by obtain ⟨_, _, rfl⟩ := List.mem_map.1 hu; rfl)
        go_wp2_with (first | (at_builtin; refine wpList_append_lies _ rfl _ _ 61 rfl B 51 i51 (.pointer none) 1 8 Tryd.underlying61 hi51 hz51 hzz1 hzz2 rfl (by decide) (.slice none 0 0) 0 [] rfl (World.ownsRow_nil _ _ _ _) ⟨gu, 0, none⟩ 1 vc (L.map fun c => ptr c.b) rfl HLEN.out HNEW.out HONE.out (by omega) (by unfold maxLen; omega) (by omega) hB w.heap.size rfl ?_; intro g6 cap6 w6 h6 hg6 hat6 hlt6; have HO6 := Lib.hid h6; have HG6 := Lib.hid hg6; have HAT6 := Lib.hid hat6; clear h6 hg6 hat6))
        have M6 : Mod (fun _ => False) w w6 := Mod.of_grown HG6.out
        have hq6 := (M6.block q hql (fun h => h)).trans (by rw [HQ.out]; exact H.out.q.blk : w.heap[q]? = some (.cells (qCells si x) 64 (0, 0)))
        have q6 : w6.cell? ⟨q, 5, none⟩ = some (.slice (some ⟨gu, 0, none⟩) 1 vc) := by rw [cell_of_block hq6, HV5'.out]; rfl
        have z6 : w6.frozen? ⟨q, 5, none⟩ = false := frozen_of_block hq6
        have OGU : Hid (w6.ownsRow B 51 1 (.slice (some ⟨gu, 0, none⟩) 0 vc) 0 []) := Lib.hid (by
          have ho := owned_mod HROW.out M6
          rcases ho.2 with ⟨h0, _⟩ | ⟨g', cap', cs, e', hb, hg, hnc, hm, hs, _⟩
          · cases h0
          · obtain ⟨rfl, rfl⟩ : gu = g' ∧ vc = cap' := by simpa using e'
            exact ⟨rfl, .inr ⟨gu, vc, cs, rfl, hb, hg, Nat.zero_le _, hm, hs, rfl⟩⟩)
        have hs6 : B ≤ w6.heap.size := Nat.le_trans hB M6.size
        have hql6 : q < w6.heap.size := Nat.lt_of_lt_of_le hql M6.size
        have HQ6 := Lib.hid hq6; have HM6 := Lib.hid M6
        clear hq6 M6
        obtain ⟨y, hy⟩ : ∃ y, y = L.getD 0 default := ⟨_, rfl⟩
        have hL0 : 0 < L.length := by rw [← HN.out]; omega
        have hye : L[0]? = some y := by rw [hy, List.getD_eq_getElem?_getD, List.getElem?_eq_getElem hL0]; rfl
        have hyk := H.out.ck y (List.mem_of_getElem? hye)
        have HY := Lib.hid hy; have HYE := Lib.hid hye; have HYK := Lib.hid hyk
        have hg6w : w.heap.size = g6 := by rcases HAT6.out with h | h; (simp [Value.ownBlock] at h); exact h.symm
        have hg6gu : g6 ≠ gu := by omega
        have hg6q : g6 ≠ q := by omega
        have hyq : y.b ≠ q := by rw [HQ.out]; exact ne_of_type hyk.blk H.out.q.blk (by decide)
        have hygu : y.b ≠ gu := by
          obtain ⟨_, cs, hg, _, _⟩ := own_row HROW.out
          exact ne_of_type hyk.blk hg (by decide)
        obtain ⟨yb, hyb⟩ : ∃ yb, yb = y.b := ⟨_, rfl⟩
        have HYB := Lib.hid hyb
        rw [← hyb] at hyq hygu
        have d6 : w6.cell? ⟨g6, 0, none⟩ = some (.pointer (some ⟨yb, 0, none⟩)) := by
          rw [hyb]; exact own_cells HO6.out 0 _ (by rw [List.nil_append, List.getElem?_map, hye]; rfl)
        have e6 : w6.cell? ⟨yb, 13, none⟩ = some (.int .u32 y.pc.proto) := by
          rw [hyb]; exact (HM6.out.cell (p := ⟨y.b, 13, none⟩) hyk.lt (fun h => h)).trans (hyk.cell 13)
        have hybl : yb < w6.heap.size := lt_of_cell e6
        have D6 := Lib.hid d6; have E6 := Lib.hid e6
        have hcap6 : (0 : Int) < 1 := by omega
        have hcap6' : (1 : Nat) ≤ cap6 := by have := (own_cap HO6.out).1; omega
        clear hy hye hyk hyb d6 e6
        by_cases hvn : vc = 1
        · go_region_law (first | (refine step_append_blk rfl _ _ 61 rfl B 51 i51 (.pointer none) 1 8 Tryd.underlying61 hi51 hz51 hzz1 hzz2 rfl (by decide) gu 0 1 [] rfl (by have ho := OGU.out; rw [hvn] at ho; exact ho) ⟨gu, 0, none⟩ 0 _ [] rfl rfl (fun j u h => by cases h) (fun u h => by cases h) (by unfold maxLen; omega) (by omega) hs6 ?_; intro g7 cap7 w7 h7 hM7 hat7; have hq7 := (hM7.block q hql6 HQG.out).trans HQ6.out; have c7 : w7.cell? ⟨q, 5, none⟩ = some (.slice (some ⟨gu, 0, none⟩) 1 vc) := (by rw [cell_of_block hq7, HV5'.out]; rfl); have z7 : w7.frozen? ⟨q, 5, none⟩ = false := frozen_of_block hq7; have HQ7 := Lib.hid hq7; have HM7 := Lib.hid hM7; have HO7 := Lib.hid h7; clear h7 hM7 hat7 hq7))
          all_goals
            have d7 : w7.cell? ⟨g6, 0, none⟩ = some (.pointer (some ⟨yb, 0, none⟩)) := (HM7.out.cell (p := ⟨g6, 0, none⟩) hlt6 hg6gu).trans D6.out
            have e7 : w7.cell? ⟨yb, 13, none⟩ = some (.int .u32 y.pc.proto) := (HM7.out.cell (p := ⟨yb, 13, none⟩) hybl hygu).trans E6.out
            go_wp2_with fail
            generalize hW8 : w7.setCell ⟨q, 5, none⟩ (.slice (some ⟨g7, 0, none⟩) 0 cap7) = w8
            have M78 : Mod (· = q) w7 w8 := by rw [← hW8]; exact (Mod.refl (· = q) w7).set1 _
            have hq8 : w8.heap[q]? = some (.cells (qCells si { x with v5 := .slice (some ⟨g7, 0, none⟩) 0 cap7 }) 64 (0, 0)) := by
              rw [← hW8]
              have := heap_setCell_same (i := 5) HQ7.out (.slice (some ⟨g7, 0, none⟩) 0 cap7)
              rw [this]; simp [qCells]
            have M08 : Mod (fun k => k = q ∨ k = gu) w w8 := (((HM6.out.drew).mono (fun _ h => h.elim)).trans (HM7.out.mono (fun _ e => .inr e))).trans (M78.mono (fun _ e => .inl e))
            have hgo : x.go ≠ gu := by
              obtain ⟨_, cs, hg, _, _⟩ := own_row H.out.q.row
              obtain ⟨_, cs', hg', _, _⟩ := own_row HROW.out
              exact ne_of_type hg hg' (by decide)
            have hgq : x.go ≠ q := by rw [HQ.out]; exact H.out.q.q_ne_go.symm
            have Q8 : QAt w8 B f si { x with v5 := .slice (some ⟨g7, 0, none⟩) 0 cap7 } := H.out.q.turned HORD.out M08 (fun e => by rcases e with e | e; exact hgq e; exact hgo e) (by rw [← HQ.out]; exact hq8) rfl rfl rfl HORD.out H.out.q.nb
            have O8 := owned_modS (owned_modS (w := w6.drew) (S := (· = gu)) HO6.out HM7.out (fun b hb hk => by have e : g6 = b := (by simpa [Value.ownBlock] using hb); exact hg6gu (e.trans hk))) M78 (fun b hb hk => by have e : g6 = b := (by simpa [Value.ownBlock] using hb); exact hg6q (e.trans hk))
            have K08 : Kp B w w8 := Kp.of_mod M08 (fun k hk => by
              rcases hk with rfl | rfl
              · exact .inr ⟨by rw [HQ.out]; exact H.out.q.qB, _, _, _, by rw [HQ.out]; exact H.out.q.blk, by unfold qT; decide⟩
              · obtain ⟨hb, cs, hg, _, _⟩ := own_row HROW.out
                exact .inr ⟨hb, _, _, _, hg, by unfold qT; decide⟩)
            have HM08 := Lib.hid M08; have HQ8 := Lib.hid Q8; have HO8 := Lib.hid O8; have HK08 := Lib.hid K08
            clear hW8 M78 hq8 M08 hgo hgq Q8 O8 K08 d7 e7 c7 z7 q6 z6
            refine newSet_any.mono ?_
            rintro e w9 ⟨rfl, hw9⟩
            have M89 : Mod (fun _ => False) w8 w9 := by rw [hw9]; exact ((Mod.refl _ w8).alloc _).alloc _
            obtain ⟨s, hs⟩ : ∃ s, s = w8.heap.size + 1 := ⟨_, rfl⟩
            rw [← hs]
            have hs9 : w9.heap[s]? = some (.cells #[.int .u16 0, .int .u32 y.pc.proto, .slice (some ⟨w8.heap.size, 0, none⟩) 0 0] 81 (0, 0)) := by
              rw [hw9, hs]
              have e : (w8.alloc (.cells #[] 51)).heap.size = w8.heap.size + 1 := by simp
              rw [← e]; exact heap_new _ _
            have s2 : w9.cell? ⟨s, 2, none⟩ = some (.slice (some ⟨w8.heap.size, 0, none⟩) 0 0) := by rw [cell_of_block hs9]; rfl
            have z2 : w9.frozen? ⟨s, 2, none⟩ = false := frozen_of_block hs9
            have HS9 := Lib.hid hs9; have HM89 := Lib.hid M89; have HS := Lib.hid hs
            unfold ptr
            clear hw9 hs9 M89 hs
            go_wp2_with fail
            go_ret
            generalize hW10 : w9.setCell ⟨s, 2, none⟩ _ = w10
            have hs := HS.out
            have hsz8 := HM08.out.size
            have hsz9 := HM89.out.size
            have MS : Mod (· = s) w9 w10 := by rw [← hW10]; exact (Mod.refl (· = s) w9).set1 _
            have MF : Mod (fun k => k = q ∨ k = gu) w w10 := (HM08.out.trans (HM89.out.mono (fun _ h => h.elim))).fresh MS (fun k hk => by have hk : k = s := hk; omega)
            have K10 : Kp B w w10 := ((HK08.out.trans (Kp.same B HM89.out))).trans (Kp.of_mod MS (fun k hk => by
              obtain rfl := hk
              exact .inr ⟨by omega, _, _, _, HS9.out, by unfold qT; decide⟩))
            have hq8l := HQ8.out.lt
            have hgo8 : x.go < w8.heap.size := by obtain ⟨_, cs, hg, _, _⟩ := own_row HQ8.out.row; exact (Array.getElem?_eq_some_iff.1 hg).1
            have hg68 := (own_cap HO8.out).2.2.1
            have Q10 := (HQ8.out.mod' HM89.out).keep HORD.out MS (fun e => by have e : x.q = s := e; have : x.q < w8.heap.size := hq8l; omega) (fun e => by have e : x.go = s := e; omega)
            have hb10 : w10.heap[s]? = some (.cells #[.int .u16 0, .int .u32 y.pc.proto, .slice (some ⟨g6, 0, none⟩) 1 cap6] 81 (0, 0)) := by
              rw [← hW10, heap_setCell_same HS9.out]; simp
            have O10 := owned_modS (owned_modS HO8.out HM89.out (fun _ _ h => h)) MS (fun b hb hk => by have e : g6 = b := (by simpa [Value.ownBlock] using hb); have hk : b = s := hk; omega)
            have hnn : L.length = 1 := HN.out.symm
            refine ⟨⟨s, g6, cap6, 0, y.pc.proto, L⟩, some ⟨g7, 0, none⟩, cap7, rfl, rfl, rfl, by rw [HY.out], ⟨?_, ?_, fun c hc => (H.out.ck c hc).kp K10, by show B ≤ s; omega, ⟨Int.le_refl 0, by show (0 : Int) < 1000; omega⟩, by show L.length ≤ 5000; omega⟩, Q10, K10, ⟨by show w.heap.size ≤ s; omega, by show w.heap.size ≤ g6; omega⟩, ?_⟩
            · show w10.heap[s]? = some (.cells #[.int .u16 0, .int .u32 y.pc.proto, .slice (some ⟨g6, 0, none⟩) L.length cap6] 81 (0, 0))
              rw [hnn]; exact hb10
            · show w10.ownsRow B 51 1 (.slice (some ⟨g6, 0, none⟩) L.length cap6) L.length (L.map fun c => ptr c.b)
              rw [hnn]
              have := O10
              rw [List.nil_append, Nat.zero_add] at this
              exact this
            · refine MF.mono (fun k hk => ?_)
              rcases hk with rfl | rfl
              · exact .inl HQ.out
              · exact .inr (by rw [HV5.out]; rfl)
        · go_region_law (first | (refine step_append_blk rfl _ _ 61 rfl B 51 i51 (.pointer none) 1 8 Tryd.underlying61 hi51 hz51 hzz1 hzz2 rfl (by decide) gu 0 vc [] rfl OGU.out ⟨gu, 1, none⟩ 0 _ [] rfl rfl (fun j u h => by cases h) (fun u h => by cases h) (by unfold maxLen; omega) (by omega) hs6 ?_; intro g7 cap7 w7 h7 hM7 hat7; have hq7 := (hM7.block q hql6 HQG.out).trans HQ6.out; have c7 : w7.cell? ⟨q, 5, none⟩ = some (.slice (some ⟨gu, 0, none⟩) 1 vc) := (by rw [cell_of_block hq7, HV5'.out]; rfl); have z7 : w7.frozen? ⟨q, 5, none⟩ = false := frozen_of_block hq7; have HQ7 := Lib.hid hq7; have HM7 := Lib.hid hM7; have HO7 := Lib.hid h7; clear h7 hM7 hat7 hq7))
          all_goals
            have d7 : w7.cell? ⟨g6, 0, none⟩ = some (.pointer (some ⟨yb, 0, none⟩)) := (HM7.out.cell (p := ⟨g6, 0, none⟩) hlt6 hg6gu).trans D6.out
            have e7 : w7.cell? ⟨yb, 13, none⟩ = some (.int .u32 y.pc.proto) := (HM7.out.cell (p := ⟨yb, 13, none⟩) hybl hygu).trans E6.out
            go_wp2_with fail
            generalize hW8 : w7.setCell ⟨q, 5, none⟩ (.slice (some ⟨g7, 0, none⟩) 0 cap7) = w8
            have M78 : Mod (· = q) w7 w8 := by rw [← hW8]; exact (Mod.refl (· = q) w7).set1 _
            have hq8 : w8.heap[q]? = some (.cells (qCells si { x with v5 := .slice (some ⟨g7, 0, none⟩) 0 cap7 }) 64 (0, 0)) := by
              rw [← hW8]
              have := heap_setCell_same (i := 5) HQ7.out (.slice (some ⟨g7, 0, none⟩) 0 cap7)
              rw [this]; simp [qCells]
            have M08 : Mod (fun k => k = q ∨ k = gu) w w8 := (((HM6.out.drew).mono (fun _ h => h.elim)).trans (HM7.out.mono (fun _ e => .inr e))).trans (M78.mono (fun _ e => .inl e))
            have hgo : x.go ≠ gu := by
              obtain ⟨_, cs, hg, _, _⟩ := own_row H.out.q.row
              obtain ⟨_, cs', hg', _, _⟩ := own_row HROW.out
              exact ne_of_type hg hg' (by decide)
            have hgq : x.go ≠ q := by rw [HQ.out]; exact H.out.q.q_ne_go.symm
            have Q8 : QAt w8 B f si { x with v5 := .slice (some ⟨g7, 0, none⟩) 0 cap7 } := H.out.q.turned HORD.out M08 (fun e => by rcases e with e | e; exact hgq e; exact hgo e) (by rw [← HQ.out]; exact hq8) rfl rfl rfl HORD.out H.out.q.nb
            have O8 := owned_modS (owned_modS (w := w6.drew) (S := (· = gu)) HO6.out HM7.out (fun b hb hk => by have e : g6 = b := (by simpa [Value.ownBlock] using hb); exact hg6gu (e.trans hk))) M78 (fun b hb hk => by have e : g6 = b := (by simpa [Value.ownBlock] using hb); exact hg6q (e.trans hk))
            have K08 : Kp B w w8 := Kp.of_mod M08 (fun k hk => by
              rcases hk with rfl | rfl
              · exact .inr ⟨by rw [HQ.out]; exact H.out.q.qB, _, _, _, by rw [HQ.out]; exact H.out.q.blk, by unfold qT; decide⟩
              · obtain ⟨hb, cs, hg, _, _⟩ := own_row HROW.out
                exact .inr ⟨hb, _, _, _, hg, by unfold qT; decide⟩)
            have HM08 := Lib.hid M08; have HQ8 := Lib.hid Q8; have HO8 := Lib.hid O8; have HK08 := Lib.hid K08
            clear hW8 M78 hq8 M08 hgo hgq Q8 O8 K08 d7 e7 c7 z7 q6 z6
            refine newSet_any.mono ?_
            rintro e w9 ⟨rfl, hw9⟩
            have M89 : Mod (fun _ => False) w8 w9 := by rw [hw9]; exact ((Mod.refl _ w8).alloc _).alloc _
            obtain ⟨s, hs⟩ : ∃ s, s = w8.heap.size + 1 := ⟨_, rfl⟩
            rw [← hs]
            have hs9 : w9.heap[s]? = some (.cells #[.int .u16 0, .int .u32 y.pc.proto, .slice (some ⟨w8.heap.size, 0, none⟩) 0 0] 81 (0, 0)) := by
              rw [hw9, hs]
              have e : (w8.alloc (.cells #[] 51)).heap.size = w8.heap.size + 1 := by simp
              rw [← e]; exact heap_new _ _
            have s2 : w9.cell? ⟨s, 2, none⟩ = some (.slice (some ⟨w8.heap.size, 0, none⟩) 0 0) := by rw [cell_of_block hs9]; rfl
            have z2 : w9.frozen? ⟨s, 2, none⟩ = false := frozen_of_block hs9
            have HS9 := Lib.hid hs9; have HM89 := Lib.hid M89; have HS := Lib.hid hs
            unfold ptr
            clear hw9 hs9 M89 hs
            go_wp2_with fail
            go_ret
            generalize hW10 : w9.setCell ⟨s, 2, none⟩ _ = w10
            have hs := HS.out
            have hsz8 := HM08.out.size
            have hsz9 := HM89.out.size
            have MS : Mod (· = s) w9 w10 := by rw [← hW10]; exact (Mod.refl (· = s) w9).set1 _
            have MF : Mod (fun k => k = q ∨ k = gu) w w10 := (HM08.out.trans (HM89.out.mono (fun _ h => h.elim))).fresh MS (fun k hk => by have hk : k = s := hk; omega)
            have K10 : Kp B w w10 := ((HK08.out.trans (Kp.same B HM89.out))).trans (Kp.of_mod MS (fun k hk => by
              obtain rfl := hk
              exact .inr ⟨by omega, _, _, _, HS9.out, by unfold qT; decide⟩))
            have hq8l := HQ8.out.lt
            have hgo8 : x.go < w8.heap.size := by obtain ⟨_, cs, hg, _, _⟩ := own_row HQ8.out.row; exact (Array.getElem?_eq_some_iff.1 hg).1
            have hg68 := (own_cap HO8.out).2.2.1
            have Q10 := (HQ8.out.mod' HM89.out).keep HORD.out MS (fun e => by have e : x.q = s := e; have : x.q < w8.heap.size := hq8l; omega) (fun e => by have e : x.go = s := e; omega)
            have hb10 : w10.heap[s]? = some (.cells #[.int .u16 0, .int .u32 y.pc.proto, .slice (some ⟨g6, 0, none⟩) 1 cap6] 81 (0, 0)) := by
              rw [← hW10, heap_setCell_same HS9.out]; simp
            have O10 := owned_modS (owned_modS HO8.out HM89.out (fun _ _ h => h)) MS (fun b hb hk => by have e : g6 = b := (by simpa [Value.ownBlock] using hb); have hk : b = s := hk; omega)
            have hnn : L.length = 1 := HN.out.symm
            refine ⟨⟨s, g6, cap6, 0, y.pc.proto, L⟩, some ⟨g7, 0, none⟩, cap7, rfl, rfl, rfl, by rw [HY.out], ⟨?_, ?_, fun c hc => (H.out.ck c hc).kp K10, by show B ≤ s; omega, ⟨Int.le_refl 0, by show (0 : Int) < 1000; omega⟩, by show L.length ≤ 5000; omega⟩, Q10, K10, ⟨by show w.heap.size ≤ s; omega, by show w.heap.size ≤ g6; omega⟩, ?_⟩
            · show w10.heap[s]? = some (.cells #[.int .u16 0, .int .u32 y.pc.proto, .slice (some ⟨g6, 0, none⟩) L.length cap6] 81 (0, 0))
              rw [hnn]; exact hb10
            · show w10.ownsRow B 51 1 (.slice (some ⟨g6, 0, none⟩) L.length cap6) L.length (L.map fun c => ptr c.b)
              rw [hnn]
              have := O10
              rw [List.nil_append, Nat.zero_add] at this
              exact this
            · refine MF.mono (fun k hk => ?_)
              rcases hk with rfl | rfl
              · exact .inl HQ.out
              · exact .inr (by rw [HV5.out]; rfl)
      · have hf : c.pc.fin = false := by rw [hfin]; simp; omega
        rw [hf] at c6
        clear hc hce hcm hck hbeg hfin ht hcb hb hf hp
        go_wp2_with fail
        go_roundw
        case rel => exact ⟨1, 0, 1, t, by omega, by go_num, rfl, rfl, rfl, rfl, rfl, .inr ⟨by omega, rfl, rfl, by rw [HT.out]; rfl⟩⟩
        case measure => simp [intOf]; omega
    · subst hs hnc
      have hb : c.pc.beg = false := by rw [hbeg]; simp; omega
      rw [hb] at c5
      have hU1 : (lt + 1) % 4294967296 = U f i := by rw [hlt']; unfold U; omega
      rw [← ht] at hU1
      have hne : (t != t) = false := by simp
      have hi0I : (0 : Int) < i := by omega
      have w2i := wraps_i64 ((i : Int) + 1) (by omega) (by omega)
      by_cases hil : i + 1 = n
      · have hf : c.pc.fin = true := by rw [hfin]; simp; omega
        rw [hf] at c6
        clear hc hce hcm hck hbeg hfin ht hcb hb hf hp hlt'
        have hilI : (i : Int) + 1 = n := by omega
        have HLEN : Hid ((L.map fun c => ptr c.b).length = n * 1) := Lib.hid (by rw [List.length_map, ← HN.out, Nat.mul_one])
        have HNEW : Hid (∀ j u, (L.map fun c => ptr c.b)[j]? = some u → w.cell? ((⟨gu, 0, none⟩ : Addr).add j) = some u) := Lib.hid (fun j u hu => by
          rw [show (⟨gu, 0, none⟩ : Addr).add j = ⟨gu, j, none⟩ from by unfold Addr.add; split <;> simp_all]
          exact own_cell HROW.out hu)
        have HONE : Hid (∀ u ∈ L.map (fun c => ptr c.b), u.oneCell' = true) := Lib.hid (fun u hu => by obtain ⟨_, _, rfl⟩ := List.mem_map.1 hu; rfl)
        go_wp2_with (first | (at_builtin; refine wpList_append_lies _ rfl _ _ 61 rfl B 51 i51 (.pointer none) 1 8 Tryd.underlying61 hi51 hz51 hzz1 hzz2 rfl (by decide) (.slice none 0 0) 0 [] rfl (World.ownsRow_nil _ _ _ _) ⟨gu, 0, none⟩ n vc (L.map fun c => ptr c.b) rfl HLEN.out HNEW.out HONE.out (by omega) (by unfold maxLen; omega) (by omega) hB w.heap.size rfl ?_; intro g6 cap6 w6 h6 hg6 hat6 hlt6; have HO6 := Lib.hid h6; have HG6 := Lib.hid hg6; have HAT6 := Lib.hid hat6; clear h6 hg6 hat6))
        have M6 : Mod (fun _ => False) w w6 := Mod.of_grown HG6.out
        have hq6 := (M6.block q hql (fun h => h)).trans (by rw [HQ.out]; exact H.out.q.blk : w.heap[q]? = some (.cells (qCells si x) 64 (0, 0)))
        have q6 : w6.cell? ⟨q, 5, none⟩ = some (.slice (some ⟨gu, 0, none⟩) n vc) := by rw [cell_of_block hq6, HV5'.out]; rfl
        have z6 : w6.frozen? ⟨q, 5, none⟩ = false := frozen_of_block hq6
        have OGU : Hid (w6.ownsRow B 51 1 (.slice (some ⟨gu, 0, none⟩) 0 vc) 0 []) := Lib.hid (by
          have ho := owned_mod HROW.out M6
          rcases ho.2 with ⟨h0, _⟩ | ⟨g', cap', cs, e', hb, hg, hnc, hm, hs, _⟩
          · cases h0
          · obtain ⟨rfl, rfl⟩ : gu = g' ∧ vc = cap' := by simpa using e'
            exact ⟨rfl, .inr ⟨gu, vc, cs, rfl, hb, hg, Nat.zero_le _, hm, hs, rfl⟩⟩)
        have hs6 : B ≤ w6.heap.size := Nat.le_trans hB M6.size
        have hql6 : q < w6.heap.size := Nat.lt_of_lt_of_le hql M6.size
        have HQ6 := Lib.hid hq6; have HM6 := Lib.hid M6
        clear hq6 M6
        obtain ⟨y, hy⟩ : ∃ y, y = L.getD 0 default := ⟨_, rfl⟩
        have hL0 : 0 < L.length := by rw [← HN.out]; omega
        have hye : L[0]? = some y := by rw [hy, List.getD_eq_getElem?_getD, List.getElem?_eq_getElem hL0]; rfl
        have hyk := H.out.ck y (List.mem_of_getElem? hye)
        have HY := Lib.hid hy; have HYE := Lib.hid hye; have HYK := Lib.hid hyk
        have hg6w : w.heap.size = g6 := by rcases HAT6.out with h | h; (simp [Value.ownBlock] at h); exact h.symm
        have hg6gu : g6 ≠ gu := by omega
        have hg6q : g6 ≠ q := by omega
        have hyq : y.b ≠ q := by rw [HQ.out]; exact ne_of_type hyk.blk H.out.q.blk (by decide)
        have hygu : y.b ≠ gu := by
          obtain ⟨_, cs, hg, _, _⟩ := own_row HROW.out
          exact ne_of_type hyk.blk hg (by decide)
        obtain ⟨yb, hyb⟩ : ∃ yb, yb = y.b := ⟨_, rfl⟩
        have HYB := Lib.hid hyb
        rw [← hyb] at hyq hygu
        have d6 : w6.cell? ⟨g6, 0, none⟩ = some (.pointer (some ⟨yb, 0, none⟩)) := by
          rw [hyb]; exact own_cells HO6.out 0 _ (by rw [List.nil_append, List.getElem?_map, hye]; rfl)
        have e6 : w6.cell? ⟨yb, 13, none⟩ = some (.int .u32 y.pc.proto) := by
          rw [hyb]; exact (HM6.out.cell (p := ⟨y.b, 13, none⟩) hyk.lt (fun h => h)).trans (hyk.cell 13)
        have hybl : yb < w6.heap.size := lt_of_cell e6
        have D6 := Lib.hid d6; have E6 := Lib.hid e6
        have hcap6 : (0 : Int) < n := by omega
        have hcap6' : (n : Nat) ≤ cap6 := by have := (own_cap HO6.out).1; omega
        clear hy hye hyk hyb d6 e6
        by_cases hvn : vc = n
        · go_region_law (first | (refine step_append_blk rfl _ _ 61 rfl B 51 i51 (.pointer none) 1 8 Tryd.underlying61 hi51 hz51 hzz1 hzz2 rfl (by decide) gu 0 n [] rfl (by have ho := OGU.out; rw [hvn] at ho; exact ho) ⟨gu, 0, none⟩ 0 _ [] rfl rfl (fun j u h => by cases h) (fun u h => by cases h) (by unfold maxLen; omega) (by omega) hs6 ?_; intro g7 cap7 w7 h7 hM7 hat7; have hq7 := (hM7.block q hql6 HQG.out).trans HQ6.out; have c7 : w7.cell? ⟨q, 5, none⟩ = some (.slice (some ⟨gu, 0, none⟩) n vc) := (by rw [cell_of_block hq7, HV5'.out]; rfl); have z7 : w7.frozen? ⟨q, 5, none⟩ = false := frozen_of_block hq7; have HQ7 := Lib.hid hq7; have HM7 := Lib.hid hM7; have HO7 := Lib.hid h7; clear h7 hM7 hat7 hq7))
          all_goals
            have d7 : w7.cell? ⟨g6, 0, none⟩ = some (.pointer (some ⟨yb, 0, none⟩)) := (HM7.out.cell (p := ⟨g6, 0, none⟩) hlt6 hg6gu).trans D6.out
            have e7 : w7.cell? ⟨yb, 13, none⟩ = some (.int .u32 y.pc.proto) := (HM7.out.cell (p := ⟨yb, 13, none⟩) hybl hygu).trans E6.out
            go_wp2_with fail
            generalize hW8 : w7.setCell ⟨q, 5, none⟩ (.slice (some ⟨g7, 0, none⟩) 0 cap7) = w8
            have M78 : Mod (· = q) w7 w8 := by rw [← hW8]; exact (Mod.refl (· = q) w7).set1 _
            have hq8 : w8.heap[q]? = some (.cells (qCells si { x with v5 := .slice (some ⟨g7, 0, none⟩) 0 cap7 }) 64 (0, 0)) := by
              rw [← hW8]
              have := heap_setCell_same (i := 5) HQ7.out (.slice (some ⟨g7, 0, none⟩) 0 cap7)
              rw [this]; simp [qCells]
            have M08 : Mod (fun k => k = q ∨ k = gu) w w8 := (((HM6.out.drew).mono (fun _ h => h.elim)).trans (HM7.out.mono (fun _ e => .inr e))).trans (M78.mono (fun _ e => .inl e))
            have hgo : x.go ≠ gu := by
              obtain ⟨_, cs, hg, _, _⟩ := own_row H.out.q.row
              obtain ⟨_, cs', hg', _, _⟩ := own_row HROW.out
              exact ne_of_type hg hg' (by decide)
            have hgq : x.go ≠ q := by rw [HQ.out]; exact H.out.q.q_ne_go.symm
            have Q8 : QAt w8 B f si { x with v5 := .slice (some ⟨g7, 0, none⟩) 0 cap7 } := H.out.q.turned HORD.out M08 (fun e => by rcases e with e | e; exact hgq e; exact hgo e) (by rw [← HQ.out]; exact hq8) rfl rfl rfl HORD.out H.out.q.nb
            have O8 := owned_modS (owned_modS (w := w6.drew) (S := (· = gu)) HO6.out HM7.out (fun b hb hk => by have e : g6 = b := (by simpa [Value.ownBlock] using hb); exact hg6gu (e.trans hk))) M78 (fun b hb hk => by have e : g6 = b := (by simpa [Value.ownBlock] using hb); exact hg6q (e.trans hk))
            have K08 : Kp B w w8 := Kp.of_mod M08 (fun k hk => by
              rcases hk with rfl | rfl
              · exact .inr ⟨by rw [HQ.out]; exact H.out.q.qB, _, _, _, by rw [HQ.out]; exact H.out.q.blk, by unfold qT; decide⟩
              · obtain ⟨hb, cs, hg, _, _⟩ := own_row HROW.out
                exact .inr ⟨hb, _, _, _, hg, by unfold qT; decide⟩)
            have HM08 := Lib.hid M08; have HQ8 := Lib.hid Q8; have HO8 := Lib.hid O8; have HK08 := Lib.hid K08
            clear hW8 M78 hq8 M08 hgo hgq Q8 O8 K08 d7 e7 c7 z7 q6 z6
            refine newSet_any.mono ?_
            rintro e w9 ⟨rfl, hw9⟩
            have M89 : Mod (fun _ => False) w8 w9 := by rw [hw9]; exact ((Mod.refl _ w8).alloc _).alloc _
            obtain ⟨s, hs⟩ : ∃ s, s = w8.heap.size + 1 := ⟨_, rfl⟩
            rw [← hs]
            have hs9 : w9.heap[s]? = some (.cells #[.int .u16 0, .int .u32 y.pc.proto, .slice (some ⟨w8.heap.size, 0, none⟩) 0 0] 81 (0, 0)) := by
              rw [hw9, hs]
              have e : (w8.alloc (.cells #[] 51)).heap.size = w8.heap.size + 1 := by simp
              rw [← e]; exact heap_new _ _
            have s2 : w9.cell? ⟨s, 2, none⟩ = some (.slice (some ⟨w8.heap.size, 0, none⟩) 0 0) := by rw [cell_of_block hs9]; rfl
            have z2 : w9.frozen? ⟨s, 2, none⟩ = false := frozen_of_block hs9
            have HS9 := Lib.hid hs9; have HM89 := Lib.hid M89; have HS := Lib.hid hs
            unfold ptr
            clear hw9 hs9 M89 hs
            go_wp2_with fail
            go_ret
            generalize hW10 : w9.setCell ⟨s, 2, none⟩ _ = w10
            have hs := HS.out
            have hsz8 := HM08.out.size
            have hsz9 := HM89.out.size
            have MS : Mod (· = s) w9 w10 := by rw [← hW10]; exact (Mod.refl (· = s) w9).set1 _
            have MF : Mod (fun k => k = q ∨ k = gu) w w10 := (HM08.out.trans (HM89.out.mono (fun _ h => h.elim))).fresh MS (fun k hk => by have hk : k = s := hk; omega)
            have K10 : Kp B w w10 := ((HK08.out.trans (Kp.same B HM89.out))).trans (Kp.of_mod MS (fun k hk => by
              obtain rfl := hk
              exact .inr ⟨by omega, _, _, _, HS9.out, by unfold qT; decide⟩))
            have hq8l := HQ8.out.lt
            have hgo8 : x.go < w8.heap.size := by obtain ⟨_, cs, hg, _, _⟩ := own_row HQ8.out.row; exact (Array.getElem?_eq_some_iff.1 hg).1
            have hg68 := (own_cap HO8.out).2.2.1
            have Q10 := (HQ8.out.mod' HM89.out).keep HORD.out MS (fun e => by have e : x.q = s := e; have : x.q < w8.heap.size := hq8l; omega) (fun e => by have e : x.go = s := e; omega)
            have hb10 : w10.heap[s]? = some (.cells #[.int .u16 0, .int .u32 y.pc.proto, .slice (some ⟨g6, 0, none⟩) n cap6] 81 (0, 0)) := by
              rw [← hW10, heap_setCell_same HS9.out]; simp
            have O10 := owned_modS (owned_modS HO8.out HM89.out (fun _ _ h => h)) MS (fun b hb hk => by have e : g6 = b := (by simpa [Value.ownBlock] using hb); have hk : b = s := hk; omega)
            have hnn : L.length = n := HN.out.symm
            refine ⟨⟨s, g6, cap6, 0, y.pc.proto, L⟩, some ⟨g7, 0, none⟩, cap7, rfl, rfl, rfl, by rw [HY.out], ⟨?_, ?_, fun c hc => (H.out.ck c hc).kp K10, by show B ≤ s; omega, ⟨Int.le_refl 0, by show (0 : Int) < 1000; omega⟩, by show L.length ≤ 5000; omega⟩, Q10, K10, ⟨by show w.heap.size ≤ s; omega, by show w.heap.size ≤ g6; omega⟩, ?_⟩
            · show w10.heap[s]? = some (.cells #[.int .u16 0, .int .u32 y.pc.proto, .slice (some ⟨g6, 0, none⟩) L.length cap6] 81 (0, 0))
              rw [hnn]; exact hb10
            · show w10.ownsRow B 51 1 (.slice (some ⟨g6, 0, none⟩) L.length cap6) L.length (L.map fun c => ptr c.b)
              rw [hnn]
              have := O10
              rw [List.nil_append, Nat.zero_add] at this
              exact this
            · refine MF.mono (fun k hk => ?_)
              rcases hk with rfl | rfl
              · exact .inl HQ.out
              · exact .inr (by rw [HV5.out]; rfl)
        · go_region_law (first | (refine step_append_blk rfl _ _ 61 rfl B 51 i51 (.pointer none) 1 8 Tryd.underlying61 hi51 hz51 hzz1 hzz2 rfl (by decide) gu 0 vc [] rfl OGU.out ⟨gu, n, none⟩ 0 _ [] rfl rfl (fun j u h => by cases h) (fun u h => by cases h) (by unfold maxLen; omega) (by omega) hs6 ?_; intro g7 cap7 w7 h7 hM7 hat7; have hq7 := (hM7.block q hql6 HQG.out).trans HQ6.out; have c7 : w7.cell? ⟨q, 5, none⟩ = some (.slice (some ⟨gu, 0, none⟩) n vc) := (by rw [cell_of_block hq7, HV5'.out]; rfl); have z7 : w7.frozen? ⟨q, 5, none⟩ = false := frozen_of_block hq7; have HQ7 := Lib.hid hq7; have HM7 := Lib.hid hM7; have HO7 := Lib.hid h7; clear h7 hM7 hat7 hq7))
          all_goals
            have d7 : w7.cell? ⟨g6, 0, none⟩ = some (.pointer (some ⟨yb, 0, none⟩)) := (HM7.out.cell (p := ⟨g6, 0, none⟩) hlt6 hg6gu).trans D6.out
            have e7 : w7.cell? ⟨yb, 13, none⟩ = some (.int .u32 y.pc.proto) := (HM7.out.cell (p := ⟨yb, 13, none⟩) hybl hygu).trans E6.out
            go_wp2_with fail
            generalize hW8 : w7.setCell ⟨q, 5, none⟩ (.slice (some ⟨g7, 0, none⟩) 0 cap7) = w8
            have M78 : Mod (· = q) w7 w8 := by rw [← hW8]; exact (Mod.refl (· = q) w7).set1 _
            have hq8 : w8.heap[q]? = some (.cells (qCells si { x with v5 := .slice (some ⟨g7, 0, none⟩) 0 cap7 }) 64 (0, 0)) := by
              rw [← hW8]
              have := heap_setCell_same (i := 5) HQ7.out (.slice (some ⟨g7, 0, none⟩) 0 cap7)
              rw [this]; simp [qCells]
            have M08 : Mod (fun k => k = q ∨ k = gu) w w8 := (((HM6.out.drew).mono (fun _ h => h.elim)).trans (HM7.out.mono (fun _ e => .inr e))).trans (M78.mono (fun _ e => .inl e))
            have hgo : x.go ≠ gu := by
              obtain ⟨_, cs, hg, _, _⟩ := own_row H.out.q.row
              obtain ⟨_, cs', hg', _, _⟩ := own_row HROW.out
              exact ne_of_type hg hg' (by decide)
            have hgq : x.go ≠ q := by rw [HQ.out]; exact H.out.q.q_ne_go.symm
            have Q8 : QAt w8 B f si { x with v5 := .slice (some ⟨g7, 0, none⟩) 0 cap7 } := H.out.q.turned HORD.out M08 (fun e => by rcases e with e | e; exact hgq e; exact hgo e) (by rw [← HQ.out]; exact hq8) rfl rfl rfl HORD.out H.out.q.nb
            have O8 := owned_modS (owned_modS (w := w6.drew) (S := (· = gu)) HO6.out HM7.out (fun b hb hk => by have e : g6 = b := (by simpa [Value.ownBlock] using hb); exact hg6gu (e.trans hk))) M78 (fun b hb hk => by have e : g6 = b := (by simpa [Value.ownBlock] using hb); exact hg6q (e.trans hk))
            have K08 : Kp B w w8 := Kp.of_mod M08 (fun k hk => by
              rcases hk with rfl | rfl
              · exact .inr ⟨by rw [HQ.out]; exact H.out.q.qB, _, _, _, by rw [HQ.out]; exact H.out.q.blk, by unfold qT; decide⟩
              · obtain ⟨hb, cs, hg, _, _⟩ := own_row HROW.out
                exact .inr ⟨hb, _, _, _, hg, by unfold qT; decide⟩)
            have HM08 := Lib.hid M08; have HQ8 := Lib.hid Q8; have HO8 := Lib.hid O8; have HK08 := Lib.hid K08
            clear hW8 M78 hq8 M08 hgo hgq Q8 O8 K08 d7 e7 c7 z7 q6 z6
            refine newSet_any.mono ?_
            rintro e w9 ⟨rfl, hw9⟩
            have M89 : Mod (fun _ => False) w8 w9 := by rw [hw9]; exact ((Mod.refl _ w8).alloc _).alloc _
            obtain ⟨s, hs⟩ : ∃ s, s = w8.heap.size + 1 := ⟨_, rfl⟩
            rw [← hs]
            have hs9 : w9.heap[s]? = some (.cells #[.int .u16 0, .int .u32 y.pc.proto, .slice (some ⟨w8.heap.size, 0, none⟩) 0 0] 81 (0, 0)) := by
              rw [hw9, hs]
              have e : (w8.alloc (.cells #[] 51)).heap.size = w8.heap.size + 1 := by simp
              rw [← e]; exact heap_new _ _
            have s2 : w9.cell? ⟨s, 2, none⟩ = some (.slice (some ⟨w8.heap.size, 0, none⟩) 0 0) := by rw [cell_of_block hs9]; rfl
            have z2 : w9.frozen? ⟨s, 2, none⟩ = false := frozen_of_block hs9
            have HS9 := Lib.hid hs9; have HM89 := Lib.hid M89; have HS := Lib.hid hs
            unfold ptr
            clear hw9 hs9 M89 hs
            go_wp2_with fail
            go_ret
            generalize hW10 : w9.setCell ⟨s, 2, none⟩ _ = w10
            have hs := HS.out
            have hsz8 := HM08.out.size
            have hsz9 := HM89.out.size
            have MS : Mod (· = s) w9 w10 := by rw [← hW10]; exact (Mod.refl (· = s) w9).set1 _
            have MF : Mod (fun k => k = q ∨ k = gu) w w10 := (HM08.out.trans (HM89.out.mono (fun _ h => h.elim))).fresh MS (fun k hk => by have hk : k = s := hk; omega)
            have K10 : Kp B w w10 := ((HK08.out.trans (Kp.same B HM89.out))).trans (Kp.of_mod MS (fun k hk => by
              obtain rfl := hk
              exact .inr ⟨by omega, _, _, _, HS9.out, by unfold qT; decide⟩))
            have hq8l := HQ8.out.lt
            have hgo8 : x.go < w8.heap.size := by obtain ⟨_, cs, hg, _, _⟩ := own_row HQ8.out.row; exact (Array.getElem?_eq_some_iff.1 hg).1
            have hg68 := (own_cap HO8.out).2.2.1
            have Q10 := (HQ8.out.mod' HM89.out).keep HORD.out MS (fun e => by have e : x.q = s := e; have : x.q < w8.heap.size := hq8l; omega) (fun e => by have e : x.go = s := e; omega)
            have hb10 : w10.heap[s]? = some (.cells #[.int .u16 0, .int .u32 y.pc.proto, .slice (some ⟨g6, 0, none⟩) n cap6] 81 (0, 0)) := by
              rw [← hW10, heap_setCell_same HS9.out]; simp
            have O10 := owned_modS (owned_modS HO8.out HM89.out (fun _ _ h => h)) MS (fun b hb hk => by have e : g6 = b := (by simpa [Value.ownBlock] using hb); have hk : b = s := hk; omega)
            have hnn : L.length = n := HN.out.symm
            refine ⟨⟨s, g6, cap6, 0, y.pc.proto, L⟩, some ⟨g7, 0, none⟩, cap7, rfl, rfl, rfl, by rw [HY.out], ⟨?_, ?_, fun c hc => (H.out.ck c hc).kp K10, by show B ≤ s; omega, ⟨Int.le_refl 0, by show (0 : Int) < 1000; omega⟩, by show L.length ≤ 5000; omega⟩, Q10, K10, ⟨by show w.heap.size ≤ s; omega, by show w.heap.size ≤ g6; omega⟩, ?_⟩
            · show w10.heap[s]? = some (.cells #[.int .u16 0, .int .u32 y.pc.proto, .slice (some ⟨g6, 0, none⟩) L.length cap6] 81 (0, 0))
              rw [hnn]; exact hb10
            · show w10.ownsRow B 51 1 (.slice (some ⟨g6, 0, none⟩) L.length cap6) L.length (L.map fun c => ptr c.b)
              rw [hnn]
              have := O10
              rw [List.nil_append, Nat.zero_add] at this
              exact this
            · refine MF.mono (fun k hk => ?_)
              rcases hk with rfl | rfl
              · exact .inl HQ.out
              · exact .inr (by rw [HV5.out]; rfl)
      · have hf : c.pc.fin = false := by rw [hfin]; simp; omega
        rw [hf] at c6
        clear hc hce hcm hck hbeg hfin ht hcb hb hf hp hlt'
        go_wp2_with fail
        go_roundw
        case rel => exact ⟨i + 1, 0, (i : Int) + 1, t, by omega, by go_num, rfl, rfl, rfl, rfl, rfl, .inr ⟨by omega, rfl, by omega, by rw [HT.out]; congr 1; omega⟩⟩
        case measure => simp [intOf]; omega
end Go.Proofs.YtmniikihkpikdaaDoor
