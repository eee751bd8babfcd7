/- Part of the proofs of the three laws on reassembly: a chunk that has no place in an order is pushed; conditions: as each theorem states. -/
import Derived.Test.YtmniikihkpikdaaDoorM33
namespace Go.Proofs.YtmniikihkpikdaaDoor
open Go.RowKit
set_option linter.unusedVariables false

/-- The row of whole messages without an order is empty. -/
def V4 (w : World) (B : Nat) (x : QSt) : Prop := ∃ g, x.v4 = .slice (some ⟨g, 0, none⟩) 0 0 ∧ w.heap[g]? = some (.cells #[] 72 (0, 0)) ∧ B ≤ g ∧ g ≠ x.go
/-- A whole message is there. -/
def UDone (w : World) (B : Nat) (f si : Int) (x : QSt) (t : SetSt) : Prop :=
  QAt w B f si x ∧ x.ord = [] ∧ SetAt w B f si t ∧ ∃ ub uc, x.v4 = .slice (some ⟨ub, 0, none⟩) 1 uc ∧ 1 ≤ uc ∧ w.ownsRow B 72 1 (.slice (some ⟨ub, 0, none⟩) 1 uc) 1 [ptr t.s] ∧ ub ≠ x.go
/-- What a push of a chunk without a place leaves. -/
def PushU (w : World) (B : Nat) (f si : Int) (m : Nat) (x : QSt) (L : List Ck) (c : Ck) (e : Ending) (w' : World) : Prop :=
  (∃ r : Bool, e = .returned (.tuple #[.bool r, Value.nilIface])) ∧ ∃ (x' : QSt) (L' : List Ck), x'.q = x.q ∧ x'.nssn = x.nssn ∧ x'.ord = [] ∧ L'.Perm (L ++ [c]) ∧ OneMsg m L' ∧ x'.nb = x.nb + c.pc.bytes.length ∧ Kp B w w' ∧
    ((L'.length < m ∧ UQ w' B f si x' L' ∧ V4 w' B x') ∨ (L'.length = m ∧ ∃ t, UDone w' B f si x' t ∧ t.l = L' ∧ t.k = 0 ∧ t.ppi = (L'.getD 0 default).pc.proto))
theorem UQ.mod' {w w' : World} {B : Nat} {f si : Int} {x : QSt} {L : List Ck} (h : UQ w B f si x L) (hM : Mod (fun _ => False) w w') : UQ w' B f si x L :=
  ⟨h.q.mod' hM, owned_mod h.row hM, fun c hc => (h.ck c hc).mod' hM, h.len⟩
theorem V4.mod {S : Nat → Prop} {w w' : World} {B : Nat} {x x' : QSt} (h : V4 w B x) (hM : Mod S w w') (hS : ∀ k, S k → ∀ (cs : Array Value) (T : TypeId), w.heap[k]? = some (Obj.cells cs T (0, 0)) → T ≠ 72) (h4 : x'.v4 = x.v4) (hg : x'.go = x.go) : V4 w' B x' := by
  obtain ⟨g, h1, h2, h3, h5⟩ := h
  exact ⟨g, h4.trans h1, (hM.block g (Array.getElem?_eq_some_iff.1 h2).1 (fun hs => hS g hs _ _ h2 rfl)).trans h2, h3, by rw [hg]; exact h5⟩
theorem own_type {w : World} {B e n k : Nat} {v : Value} {xs : List Value} (h : w.ownsRow B e 1 v n xs) (hk : v.ownBlock = some k) : B ≤ k ∧ ∃ cs, w.heap[k]? = some (Obj.cells cs e (0, 0)) := by
  rcases h.2 with ⟨rfl, _⟩ | ⟨g, cap, cur, rfl, hb, hg, _⟩
  · cases hk
  · have e1 : g = k := by simpa [Value.ownBlock] using hk
    subst e1; exact ⟨hb, cur, hg⟩
theorem type_eq {w : World} {k : Nat} {cs cs' : Array Value} {T T' : TypeId} (h : w.heap[k]? = some (Obj.cells cs T (0, 0))) (h' : w.heap[k]? = some (Obj.cells cs' T' (0, 0))) : T = T' := by
  rw [h] at h'; exact (by simpa using h' : cs = cs' ∧ T = T').2
theorem strict_of {L : List Ck} (h : L.Pairwise fun a b => a.pc.p ≤ b.pc.p) (hd : (L.map (·.pc.p)).Nodup) : L.Pairwise fun a b => a.pc.p < b.pc.p := by
  rw [List.Nodup, List.pairwise_map] at hd
  rw [List.pairwise_iff_getElem] at h hd ⊢
  intro i j hi hj hij
  have h1 := h i j hi hj hij
  have h2 := hd i j hi hj hij
  omega

set_option maxHeartbeats 4000000 in
set_option maxRecDepth 20000 in
theorem pushU_any {w : World} {B : Nat} {f si : Int} {x : QSt} {L : List Ck} {c : Ck} {m : Nat} (h : UQ w B f si x L) (h4 : V4 w B x) (hord : x.ord = []) (hc : CkAt w f si c) (hun : c.pc.un = true) (hO : OneMsg m L) (hbeg : c.pc.beg = decide (c.pc.p = 0)) (hfin : c.pc.fin = decide (c.pc.p + 1 = (m : Int))) (hrng : 0 ≤ c.pc.p ∧ c.pc.p < m)
    (hnew : ∀ y ∈ L, y.pc.p ≠ c.pc.p) (hlen : L.length < m) (hm : m ≤ 900) (hnb : x.nb ≤ 90000000) (hB : B ≤ w.heap.size) :
    Calls Tryd.prog 19 #[ptr x.q, ptr c.b] w (PushU w B f si m x L c) := by
  obtain ⟨i51, hi51, hz51, hzz1, hzz2⟩ := info_parts (show (Tryd.prog.info? 51).map (fun i => (i.zero, i.size, i.bytes)) = some (some (.pointer none), 1, 8) by kernel_rfl)
  obtain ⟨i72, hi72, hz72, hzy1, hzy2⟩ := info_parts (show (Tryd.prog.info? 72).map (fun i => (i.zero, i.size, i.bytes)) = some (some (.pointer none), 1, 8) by kernel_rfl)
  have HD := Lib.hid (isIData_any hc)
  have H := Lib.hid h; have HC := Lib.hid hc; have H4 := Lib.hid h4; have HORD := Lib.hid hord; have HOM := Lib.hid hO; have HBEG := Lib.hid hbeg; have HFIN := Lib.hid hfin; have HRNG := Lib.hid hrng; have HNEW := Lib.hid hnew
  have c9 : w.cell? ⟨c.b, 7, none⟩ = some (.bool false) := hc.cell 7
  have c9 : w.cell? ⟨c.b, 9, none⟩ = some (.int .u16 si) := hc.cell 9
  have c4 : w.cell? ⟨c.b, 4, none⟩ = some (.bool true) := by rw [hc.cell 4, ← hun]; rfl
  have q0 : w.cell? ⟨x.q, 0, none⟩ = some (.int .u16 si) := h.q.cell 0
  have q5 : w.cell? ⟨x.q, 5, none⟩ = some x.v5 := h.q.cell 5
  have N0 := Lib.hid (noLimit_any (w := w.drewN 0) (q := x.q) (h.q.cell 12))
  obtain ⟨n, hn⟩ : ∃ n, n = L.length := ⟨_, rfl⟩
  have HN := Lib.hid hn
  rw [← hn] at hlen
  have HROW : Hid (w.ownsRow B 51 1 x.v5 n (L.map fun c => ptr c.b)) := Lib.hid (by rw [hn]; exact h.row)
  obtain ⟨b, hb⟩ : ∃ b, b = c.b := ⟨_, rfl⟩
  obtain ⟨q, hq⟩ : ∃ q, q = x.q := ⟨_, rfl⟩
  unfold ptr at HD ⊢
  rw [← hb] at HD c9 c4 ⊢
  rw [← hq] at q0 q5 ⊢
  have HBB := Lib.hid hb; have HQQ := Lib.hid hq
  have hql : q < w.heap.size := by rw [hq]; exact h.q.lt
  obtain ⟨v5, hv5⟩ : ∃ v5, v5 = x.v5 := ⟨_, rfl⟩
  rw [← hv5] at q5 HROW
  have HV5 := Lib.hid hv5
  clear h hc h4 hord hO hbeg hfin hrng hnew hun hn hb hq hv5 N0
  go_enter Tryd.func19, Tryd.ntmps19
  go_wp2_with fail
  refine HD.out.mono ?_
  rintro e w1 ⟨rfl, hw⟩
  obtain rfl := hw.symm
  clear hw HD
  go_wp2_with fail
  go_quiet (fail)
  go_wp2_with fail
  generalize hWA : w.drewN nq = wa
  have hsa : Mod (fun _ => False) w wa := by rw [← hWA]; exact (Mod.refl _ w).drewN _
  have HA := Lib.hid (H.out.mod' hsa)
  have HCA := Lib.hid (HC.out.mod' hsa)
  have H4A := Lib.hid (H4.out.mod hsa (fun _ h => h.elim) rfl rfl)
  have HROWA := Lib.hid (owned_mod HROW.out hsa)
  have HMA := Lib.hid hsa
  have hBa : B ≤ wa.heap.size := Nat.le_trans hB hsa.size
  have hqla : q < wa.heap.size := Nat.lt_of_lt_of_le hql hsa.size
  have N0 := noLimit_any (w := wa) (q := x.q) (HA.out.q.cell 12)
  unfold ptr at N0
  rw [← HQQ.out] at N0
  have HN0 := Lib.hid N0
  have q5a : wa.cell? ⟨q, 5, none⟩ = some v5 := by rw [HQQ.out, HV5.out]; exact HA.out.q.cell 5
  have hqv : ∀ k, v5.ownBlock = some k → q ≠ k := fun k hk e => by
    obtain ⟨_, cs, hg⟩ := own_type HROWA.out hk
    have h1 := HA.out.q.blk
    rw [← HQQ.out, e] at h1
    have := type_eq h1 hg
    simp at this
  have HQV := Lib.hid hqv
  clear hWA hsa N0 c9 c4 q0 q5 hqv
  refine HN0.out.mono ?_
  rintro e w2 ⟨rfl, hw2⟩
  obtain rfl := hw2.symm
  clear hw2 HN0
  go_wp2_with (first | (at_builtin; refine wpList_append_one rfl _ _ 61 rfl B 51 i51 (.pointer none) 8 Tryd.underlying61 hi51 hz51 hzz1 hzz2 rfl v5 n _ (.pointer (some ⟨b, 0, none⟩)) rfl HROWA.out rfl rfl (by omega) (by omega) hBa ?_; intro g3 cap3 w3 hown hM hat; have hq3 := (hM.block q hqla (fun e => HQV.out q e rfl)).trans (HQQ.out ▸ HA.out.q.blk); have c3 : w3.cell? ⟨q, 5, none⟩ = some v5 := (by rw [cell_of_block hq3, HV5.out]; rfl); have f3 : w3.frozen? ⟨q, 5, none⟩ = false := frozen_of_block hq3))
  have hg3q : q ≠ g3 := by
    obtain ⟨_, cs, hg, _, _⟩ := own_row hown
    exact ne_of_type hq3 hg (by decide)
  generalize hW4 : w3.setCell ⟨q, 5, none⟩ (.slice (some ⟨g3, 0, none⟩) (n + 1) cap3) = w4
  have M34 : Mod (· = q) w3 w4 := by rw [← hW4]; exact (Mod.refl (· = q) w3).set1 _
  have hq4 : w4.heap[q]? = some (.cells (qCells si { x with v5 := .slice (some ⟨g3, 0, none⟩) (n + 1) cap3 }) 64 (0, 0)) := by
    rw [← hW4, heap_setCell_same hq3]; simp [qCells]
  have M04 : Mod (fun k => v5.ownBlock = some k ∨ k = q) wa w4 := (hM.mono (fun _ e => .inl e)).trans (M34.mono (fun _ e => .inr e))
  have hS04 : ∀ k, (v5.ownBlock = some k ∨ k = q) → ∃ cs T, wa.heap[k]? = some (Obj.cells cs T (0, 0)) ∧ (T = 51 ∨ T = 64) ∧ B ≤ k := fun k hk => by
    rcases hk with hk | hk
    · obtain ⟨hb, cs, hg⟩ := own_type HROWA.out hk
      exact ⟨cs, 51, hg, .inl rfl, hb⟩
    · subst hk
      exact ⟨_, 64, HQQ.out ▸ HA.out.q.blk, .inr rfl, HQQ.out ▸ HA.out.q.qB⟩
  have Q4 : QAt w4 B f si { x with v5 := .slice (some ⟨g3, 0, none⟩) (n + 1) cap3 } := HA.out.q.turned HORD.out M04 (fun e => by
    obtain ⟨cs, T, h1, h2, _⟩ := hS04 _ e
    obtain ⟨_, cs', hg, _, _⟩ := own_row HA.out.q.row
    have := type_eq h1 hg
    rcases h2 with h2 | h2 <;> (rw [h2] at this; exact absurd this (by decide))) (by rw [← HQQ.out]; exact hq4) rfl rfl rfl HORD.out HA.out.q.nb
  have K04 : Kp B wa w4 := Kp.of_mod M04 (fun k hk => by
    obtain ⟨cs, T, h1, h2, h3⟩ := hS04 k hk
    exact .inr ⟨h3, _, _, _, h1, by unfold qT; rcases h2 with h2 | h2 <;> (rw [h2]; decide)⟩)
  have V4' : V4 w4 B { x with v5 := .slice (some ⟨g3, 0, none⟩) (n + 1) cap3 } := H4A.out.mod M04 (fun k hk cs T hcs e => by
    obtain ⟨cs', T', h1, h2, _⟩ := hS04 k hk
    have := type_eq h1 hcs
    rcases h2 with h2 | h2 <;> (rw [h2, e] at this; exact absurd this (by decide))) rfl rfl
  have O4 := owned_modS hown M34 (fun k e hk => by have e : g3 = k := (by simpa [Value.ownBlock] using e); have hk : k = q := hk; exact hg3q (hk.symm.trans e.symm))
  have HQ4 := Lib.hid Q4; have HK4 := Lib.hid K04; have HV4 := Lib.hid V4'; have HO4 := Lib.hid O4
  have a11 : w4.cell? ⟨q, 11, none⟩ = some (.int .u64 x.nb) := by rw [HQQ.out]; exact Q4.cell 11
  have y11 : w4.frozen? ⟨q, 11, none⟩ = false := frozen_of_block hq4
  have q54 : w4.cell? ⟨q, 5, none⟩ = some (.slice (some ⟨g3, 0, none⟩) (n + 1) cap3) := by rw [cell_of_block hq4]; rfl
  have HG3Q := Lib.hid hg3q
  have hC4 := HCA.out.kp K04
  have b14 : w4.cell? ⟨b, 14, none⟩ = some (.slice (some ⟨c.ug, 0, none⟩) c.pc.bytes.length c.uc) := by rw [HBB.out]; exact hC4.cell 14
  have HC4 := Lib.hid hC4
  have hnl := HC.out.small
  have hnb0 := HA.out.q.nb
  obtain ⟨bl, hbl⟩ : ∃ bl, bl = c.pc.bytes.length := ⟨_, rfl⟩
  rw [← hbl] at b14 hnl
  have HBL := Lib.hid hbl
  obtain ⟨hnb1, hnb2⟩ := hnb0
  have wn : IntKind.u64.wrap (bl : Int) = bl := by rw [IntKind.wrap_u64]; omega
  have hadd := run_call_add (P := Tryd.prog) (f := 30) Tryd.func30 (by kernel_rfl) (by kernel_rfl) (by kernel_rfl) .u64 (by kernel_rfl) (y := bl) (s := x.nb + bl) (a := ⟨q, 11, none⟩) (w := w4.drew) a11 y11 (by
    have : IntKind.u64.wrap (x.nb + bl) = x.nb + bl := by rw [IntKind.wrap_u64]; omega
    simp [go_sem, this])
  clear hown hM hat hq3 c3 f3 hg3q hW4 M34 hq4 M04 hS04 Q4 K04 V4' O4 hC4 hbl hnb1 hnb2 q5a
  go_region_law (fail)
  go_wp2_with fail
  have hcn := HQ4.out.countedM (n := x.nb + bl) (by have := HA.out.q.nb; show 0 ≤ x.nb + bl ∧ x.nb + bl ≤ 100000000; omega)
  rw [show ({ x with v5 := .slice (some ⟨g3, 0, none⟩) (n + 1) cap3 } : QSt).q = q from HQQ.out.symm] at hcn
  generalize hW5 : (w4.setCell ⟨q, 11, none⟩ (.int .u64 (x.nb + bl))) = w5 at hcn ⊢
  obtain ⟨hQ5, hK5, hM5⟩ := hcn
  have MD : Mod (fun _ => False) w5 w5.drew := (Mod.refl _ w5).drew
  have hQ5' := hQ5.mod' MD
  have hK5' := hK5.trans (Kp.same B MD)
  have hO5 := owned_mod (owned_modS HO4.out hM5 (fun k e hk => by have e : g3 = k := (by simpa [Value.ownBlock] using e); have hk : k = q := hk; exact HG3Q.out (hk.symm.trans e.symm))) MD
  have hq4b : ∀ cs T, w4.heap[q]? = some (Obj.cells cs T (0, 0)) → T ≠ 72 := fun cs T hcs e => by
    have h1 : w4.heap[q]? = some (.cells (qCells si { x with v5 := .slice (some ⟨g3, 0, none⟩) (n + 1) cap3 }) 64 (0, 0)) := by rw [HQQ.out]; exact HQ4.out.blk
    have h2 := type_eq h1 hcs
    rw [e] at h2
    exact absurd h2 (by decide)
  have hV5 : V4 w5.drew B { x with v5 := .slice (some ⟨g3, 0, none⟩) (n + 1) cap3, nb := x.nb + bl } := (HV4.out.mod hM5 (fun k hk cs T hcs => by have hk : k = q := hk; subst hk; exact hq4b cs T hcs) rfl rfl).mod MD (fun _ h => h.elim) rfl rfl
  have hck5 : ∀ y ∈ L ++ [c], CkAt w5.drew f si y := by
    intro y hy
    rcases List.mem_append.1 hy with hy | hy
    · exact ((HA.out.ck y hy).kp HK4.out).kp hK5'
    · obtain rfl := List.mem_singleton.1 hy; exact HC4.out.kp hK5'
  obtain ⟨bs, hbs⟩ : ∃ bs : List (Nat × Int), bs = (L ++ [c]).map fun y => (y.b, y.pc.p) := ⟨_, rfl⟩
  have hbsl : bs.length = n + 1 := by rw [hbs, HN.out]; simp
  obtain ⟨_, csg, hgg, _, _⟩ := own_row hO5
  have hrow5 : w5.drew.ownsRow B 51 1 (.slice (some ⟨g3, 0, none⟩) bs.length cap3) bs.length (bs.map fun y => ptr y.1) := by
    rw [hbsl, hbs, List.map_map]
    have e : (L.map fun c => ptr c.b) ++ [.pointer (some ⟨b, 0, none⟩)] = (L ++ [c]).map ((fun y : Nat × Int => ptr y.1) ∘ fun y : Ck => (y.b, y.pc.p)) := by
      rw [List.map_append, HBB.out]; rfl
    rw [← e]; exact hO5
  have HSO := Lib.hid (sortTSN (f := f) hrow5 (fun y hy => by
      rw [hbs] at hy
      obtain ⟨z, hz, rfl⟩ := List.mem_map.1 hy
      exact ⟨ne_of_type (hck5 z hz).blk hgg (by decide), (hck5 z hz).cell 8⟩) (fun y hy => by
      rw [hbs] at hy
      obtain ⟨z, hz, rfl⟩ := List.mem_map.1 hy
      have := (hck5 z hz).pb
      exact ⟨this.1, by show z.pc.p < 50000; omega⟩) (by omega))
  rw [hbsl] at HSO
  have HQ5 := Lib.hid hQ5'; have HK5 := Lib.hid hK5'; have HV5' := Lib.hid hV5; have HCK5 := Lib.hid hck5; have HBS := Lib.hid hbs; have HGG := Lib.hid hgg
  have hg3B := (own_row hO5).1
  have hs45 : wa.heap.size ≤ w5.drew.heap.size := Nat.le_trans HK4.out.size hK5'.size
  generalize hW5d : w5.drew = w6 at HSO HQ5 HK5 HV5' HCK5 HGG hs45 ⊢
  clear hQ5 hK5 hM5 MD hQ5' hK5' hO5 hq4b hV5 hck5 hbs hbsl hgg hrow5 hW5d hW5 a11 y11 q54 b14 wn hadd
  refine HSO.out.mono ?_
  rintro e w7 ⟨rfl, bs', hp, hpw, hrow7, hM7⟩
  rw [HBS.out] at hp
  obtain ⟨L', hpl, hml⟩ := perm_lift _ hp
  have hLl : L'.length = n + 1 := by rw [hpl.length_eq, HN.out]; simp
  obtain ⟨x7, hx7⟩ : ∃ x7 : QSt, x7 = { x with v5 := .slice (some ⟨g3, 0, none⟩) (n + 1) cap3, nb := x.nb + bl } := ⟨_, rfl⟩
  have e7q : x7.q = q := by rw [hx7, HQQ.out]
  have hgo3 : x.go ≠ g3 := by
    obtain ⟨_, cs, hg, _, _⟩ := own_row HQ5.out.row
    exact ne_of_type hg HGG.out (by decide)
  have K67 : Kp B w6 w7 := Kp.of_mod hM7 (fun k hk => by have hk : k = g3 := hk; subst hk; exact .inr ⟨hg3B, _, _, _, HGG.out, by unfold qT; decide⟩)
  have Q7 : QAt w7 B f si x7 := by
    rw [hx7]
    have h5 := HQ5.out
    rw [HQQ.out] at h5
    exact h5.keep HORD.out hM7 (fun e => HG3Q.out (HQQ.out.trans e)) (fun e => hgo3 e)
  have U7 : UQ w7 B f si x7 L' := by
    refine ⟨Q7, ?_, fun y hy => (HCK5.out y (hpl.mem_iff.1 hy)).kp K67, by omega⟩
    rw [hLl, show (L'.map fun c => ptr c.b) = bs'.map fun y => ptr y.1 from by rw [← hml, List.map_map]; rfl, hx7]
    exact hrow7
  have hmemL : ∀ y ∈ L', y ∈ L ∨ y = c := fun y hy => by
    rcases List.mem_append.1 (hpl.mem_iff.1 hy) with h | h
    · exact .inl h
    · exact .inr (List.mem_singleton.1 h)
  have O7 : OneMsg m L' := by
    refine ⟨fun y hy => ?_, fun y hy => ?_, fun y hy => ?_, strict_of (by rw [← hml, List.pairwise_map] at hpw; exact hpw) ?_⟩
    · rcases hmemL y hy with h | rfl
      · exact HOM.out.beg y h
      · exact HBEG.out
    · rcases hmemL y hy with h | rfl
      · exact HOM.out.fin y h
      · exact HFIN.out
    · rcases hmemL y hy with h | rfl
      · exact HOM.out.rng y h
      · exact HRNG.out
    · refine ((hpl.map (·.pc.p)).nodup_iff).2 ?_
      rw [List.map_append, List.map_cons, List.map_nil]
      refine List.nodup_append.2 ⟨?_, by simp, fun a ha d hd => ?_⟩
      · rw [List.Nodup, List.pairwise_map]
        exact HOM.out.srt.imp (fun h e => by omega)
      · obtain ⟨y, hy, rfl⟩ := List.mem_map.1 ha
        obtain rfl := List.mem_singleton.1 hd
        exact HNEW.out y hy
  have V7 : V4 w7 B x7 := by
    rw [hx7]
    exact HV5'.out.mod hM7 (fun k hk cs T hcs e => by have hk : k = g3 := hk; subst hk; have := type_eq HGG.out hcs; rw [e] at this; exact absurd this (by decide)) rfl rfl
  have hB7 : B ≤ w7.heap.size := Nat.le_trans hBa (Nat.le_trans hs45 hM7.size)
  have K07 : Kp B w w7 := (((Kp.same B HMA.out).trans HK4.out).trans HK5.out).trans K67
  have HU7 := Lib.hid U7; have HO7 := Lib.hid O7; have HV7 := Lib.hid V7; have HK7 := Lib.hid K07; have HPL := Lib.hid hpl; have HLL := Lib.hid hLl; have HX7 := Lib.hid hx7; have HE7 := Lib.hid e7q
  have e7o : x7.ord = [] := by rw [hx7]; exact HORD.out
  have HE7O := Lib.hid e7o
  clear hp hpw hrow7 hM7 hpl hml hLl hx7 e7q hgo3 K67 Q7 U7 hmemL O7 V7 K07 e7o HSO
  by_cases hfull : n + 1 = m
  · have hfa := find_all HU7.out HO7.out (by rw [HLL.out]; exact hfull) (by omega) HE7O.out hB7
    unfold ptr at hfa
    rw [HE7.out] at hfa
    have HFA := Lib.hid hfa
    clear hfa
    go_wp2_with fail
    refine HFA.out.mono ?_
    rintro e w8 ⟨t, ga, c5, rfl, htl, htk, htp, hS8, hQ8, hK8, hts, hM8⟩
    have hV8 : V4 w8 B { x7 with v5 := .slice ga 0 c5 } := HV7.out.mod hM8 (fun k hk cs T hcs e => by
      rcases hk with hk | hk
      · subst hk
        have := type_eq HU7.out.q.blk hcs
        rw [e] at this; exact absurd this (by decide)
      · obtain ⟨_, cs', hg⟩ := own_type HU7.out.row hk
        have := type_eq hg hcs
        rw [e] at this; exact absurd this (by decide)) rfl rfl
    obtain ⟨g4, hg4, hg4h, hg4B, hg4o⟩ := hV8
    have hg4 : x7.v4 = .slice (some ⟨g4, 0, none⟩) 0 0 := hg4
    have hg4o : g4 ≠ x7.go := hg4o
    have OV4 := Lib.hid (World.ownsRow_of_empty hg4h hg4B)
    have hq8b : w8.heap[q]? = some (.cells (qCells si { x7 with v5 := .slice ga 0 c5 }) 64 (0, 0)) := by rw [← HE7.out]; exact hQ8.blk
    have q48 : w8.cell? ⟨q, 4, none⟩ = some (.slice (some ⟨g4, 0, none⟩) 0 0) := by rw [cell_of_block hq8b, ← hg4]; rfl
    have z48 : w8.frozen? ⟨q, 4, none⟩ = false := frozen_of_block hq8b
    have hq8l : q < w8.heap.size := (Array.getElem?_eq_some_iff.1 hq8b).1
    have hqg4 : q ≠ g4 := ne_of_type hq8b hg4h (by decide)
    have hB8 : B ≤ w8.heap.size := Nat.le_trans hB7 hK8.size
    obtain ⟨ts, hts'⟩ : ∃ ts, ts = t.s := ⟨_, rfl⟩
    have HTS := Lib.hid hts'
    rw [← hts']
    have HQ8B := Lib.hid hq8b; have HQG4 := Lib.hid hqg4; have HG4 := Lib.hid hg4; have HG4O := Lib.hid hg4o; have HG4H := Lib.hid hg4h; have HS8 := Lib.hid hS8; have HQ8 := Lib.hid hQ8; have HK8 := Lib.hid hK8; have HTL := Lib.hid htl; have HTK := Lib.hid htk; have HTP := Lib.hid htp
    clear hq8b hqg4 hg4 hg4o hg4h hg4B hS8 hQ8 hK8 htl htk htp hts hM8 hts' HFA
    unfold ptr
    go_wp2_with (first | (at_builtin; refine wpList_append_one rfl _ _ 58 rfl B 72 i72 (.pointer none) 8 Tryd.underlying58 hi72 hz72 hzy1 hzy2 rfl (.slice (some ⟨g4, 0, none⟩) 0 0) 0 [] (.pointer (some ⟨ts, 0, none⟩)) rfl OV4.out rfl rfl (by omega) (by omega) hB8 ?_; intro ub uc w9 hown9 hM9 hat9; have hq9 := (hM9.block q hq8l (fun e => HQG4.out (by simp [Value.ownBlock] at e; omega))).trans HQ8B.out; have c49 : w9.cell? ⟨q, 4, none⟩ = some (.slice (some ⟨g4, 0, none⟩) 0 0) := (by rw [cell_of_block hq9, ← HG4.out]; rfl); have z49 : w9.frozen? ⟨q, 4, none⟩ = false := frozen_of_block hq9))
    go_ret2
    generalize hW10 : w9.setCell ⟨q, 4, none⟩ _ = w10
    have hM9 : Mod (· = g4) w8 w9 := hM9.mono (fun k e => by have e : g4 = k := (by simpa [Value.ownBlock] using e); exact e.symm)
    have hqub : q ≠ ub := by
      obtain ⟨_, cs, hg, _, _⟩ := own_row hown9
      exact ne_of_type hq9 hg (by decide)
    have M910 : Mod (· = q) w9 w10 := by rw [← hW10]; exact (Mod.refl (· = q) w9).set1 _
    have M810 : Mod (fun k => k = g4 ∨ k = q) w8 w10 := (hM9.mono (fun _ e => .inl e)).trans (M910.mono (fun _ e => .inr e))
    have hq10 : w10.heap[q]? = some (.cells (qCells si { x7 with v5 := .slice ga 0 c5, v4 := .slice (some ⟨ub, 0, none⟩) (0 + 1) uc }) 64 (0, 0)) := by
      rw [← hW10, heap_setCell_same hq9]; simp [qCells]
    have hgoq : x7.go ≠ q := by have := HQ8.out.q_ne_go; rw [← HE7.out]; exact fun e => this e.symm
    have Q10 : QAt w10 B f si { x7 with v5 := .slice ga 0 c5, v4 := .slice (some ⟨ub, 0, none⟩) (0 + 1) uc } := HQ8.out.turned HE7O.out M810 (fun e => by
      rcases e with e | e
      · exact HG4O.out e.symm
      · exact hgoq e) (by show w10.heap[x7.q]? = _; rw [HE7.out]; exact hq10) rfl rfl rfl HE7O.out HQ8.out.nb
    have K810 : Kp B w8 w10 := Kp.of_mod M810 (fun k hk => by
      rcases hk with rfl | rfl
      · exact .inr ⟨(own_row OV4.out).1, _, _, _, HG4H.out, by unfold qT; decide⟩
      · exact .inr ⟨by rw [← HE7.out]; exact HQ8.out.qB, _, _, _, HQ8B.out, by unfold qT; decide⟩)
    obtain ⟨htgB, csg, htg⟩ := HS8.out.g_blk
    have S10 : SetAt w10 B f si t := HS8.out.mod M810 (fun e => by
      rcases e with e | e
      · exact ne_of_type HS8.out.blk HG4H.out (by decide) e
      · exact ne_of_type HS8.out.blk HQ8B.out (by decide) e) (fun e => by
      rcases e with e | e
      · exact ne_of_type htg HG4H.out (by decide) e
      · exact ne_of_type htg HQ8B.out (by decide) e) (fun c hc => (HS8.out.ck c hc).kp K810)
    have O10 := owned_modS hown9 M910 (fun k e hk => by have e : ub = k := (by simpa [Value.ownBlock] using e); have hk : k = q := hk; exact hqub (hk.symm.trans e.symm))
    have huc := (own_cap hown9).1
    have hubgo : ub ≠ x7.go := by
      obtain ⟨_, cs, hg, _, _⟩ := own_row HQ8.out.row
      have hgl : x7.go < w8.heap.size := (Array.getElem?_eq_some_iff.1 hg).1
      rcases hat9 with h | h
      · have h : g4 = ub := by simpa [Value.ownBlock] using h
        rw [← h]; exact HG4O.out
      · omega
    refine ⟨⟨_, rfl⟩, { x7 with v5 := .slice ga 0 c5, v4 := .slice (some ⟨ub, 0, none⟩) (0 + 1) uc }, L', HE7.out.trans HQQ.out, by show x7.nssn = x.nssn; rw [HX7.out], HE7O.out, HPL.out, HO7.out, by show x7.nb = _; rw [HX7.out, ← HBL.out], (HK7.out.trans HK8.out).trans K810, .inr ⟨by rw [HLL.out]; exact hfull, t, ⟨Q10, HE7O.out, S10, ub, uc, rfl, huc, ?_, hubgo⟩, HTL.out, HTK.out, HTP.out⟩⟩
    have ho := O10
    rw [List.nil_append, HTS.out] at ho
    exact ho
  · have hfn := find_none HU7.out HO7.out (by rw [HLL.out]; omega)
    unfold ptr at hfn
    rw [HE7.out] at hfn
    have HFN := Lib.hid hfn
    clear hfn
    go_wp2_with fail
    refine HFN.out.mono ?_
    rintro e w8 ⟨rfl, hw8⟩
    obtain rfl := hw8.symm
    clear hw8
    go_wp2_with fail
    go_ret2
    exact ⟨⟨_, rfl⟩, x7, L', HE7.out.trans HQQ.out, by rw [HX7.out], HE7O.out, HPL.out, HO7.out, by rw [HX7.out, ← HBL.out], HK7.out, .inl ⟨by rw [HLL.out]; omega, HU7.out, HV7.out⟩⟩
end Go.Proofs.YtmniikihkpikdaaDoor
