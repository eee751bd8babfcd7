/- Part of the proof of laws.FnReceivedAny: what ZZReceived returns; conditions: the package's table is there (Tab). -/
import Derived.Test.YthnalicohdmlfaaDoorR10
namespace Go.Proofs.YthnalicohdmlfaaDoor
open Go.RowKit
set_option linter.unusedVariables false

set_option maxHeartbeats 400000 in
theorem cum_any {w : World} {q mb : Nat} {f : Int} {R : Nat → Bool} {C M : Nat} {m : Nat → Nat} {dv : Value} (h : QAt w q mb f R C M m dv) :
    Calls Tryd.prog 14 #[.pointer (some ⟨q, 0, none⟩)] w fun e w' => e = .returned (.int .u32 (U f C)) ∧ w' = w := by
  have g5 : w.cell? ⟨q, 5, none⟩ = some (.int .u32 (U f C)) := by rw [cell_of_block h.blk]; rfl
  clear h
  go_enter Tryd.func14, Tryd.ntmps14
  go_wp2_with fail
  go_ret
  exact ⟨rfl, rfl⟩

set_option maxHeartbeats 400000 in
theorem dups_any {w : World} {q mb : Nat} {f : Int} {R : Nat → Bool} {C M : Nat} {m : Nat → Nat} {dv : Value} (h : QAt w q mb f R C M m dv) :
    Calls Tryd.prog 17 #[.pointer (some ⟨q, 0, none⟩)] w fun e w' => e = .returned dv ∧ Mod (· = q) w w' := by
  have g3 : w.cell? ⟨q, 3, none⟩ = some dv := by rw [cell_of_block h.blk]; rfl
  have f3 : w.frozen? ⟨q, 3, none⟩ = false := frozen_of_block h.blk
  have hq := lt_of_cell g3
  simp only at hq
  clear h
  go_enter Tryd.func17, Tryd.ntmps17
  go_wp2_with fail
  go_ret
  exact ⟨rfl, ((Mod.refl _ w).set1 _).alloc _⟩

/-- What came, number by number. -/
def stepR (f : Int) (s : (Nat → Bool) × List Int) (p : Int) : (Nat → Bool) × List Int :=
  if p < 1 ∨ s.1 p.toNat = true then (s.1, s.2 ++ [U f p]) else (putR s.1 p.toNat, s.2)
def recv (f : Int) (ps : List Int) : (Nat → Bool) × List Int := ps.foldl (stepR f) (fun _ => false, [])
theorem recv_snoc (f : Int) (ps : List Int) (p : Int) : recv f (ps ++ [p]) = stepR f (recv f ps) p := by simp [recv]
theorem recv_take (f : Int) (ps : List Int) (j : Nat) (hj : j < ps.length) : recv f (ps.take (j + 1)) = stepR f (recv f (ps.take j)) ps[j] := by
  rw [List.take_succ_eq_append_getElem hj, recv_snoc]
theorem recv_len (f : Int) (ps : List Int) : ∀ j, j ≤ ps.length → (recv f (ps.take j)).2.length ≤ j
  | 0, _ => by simp [recv]
  | j + 1, h => by
    have ih := recv_len f ps j (by omega)
    rw [recv_take f ps j h]
    unfold stepR
    split
    · simp; omega
    · show (recv f (ps.take j)).2.length ≤ j + 1; omega

/-- How far the numbers go without a gap, and how far at all. -/
structure Ends (R : Nat → Bool) (C M : Nat) : Prop where
  run : ∀ k, 1 ≤ k → k ≤ C → R k = true
  stop : R (C + 1) = false
  top : ∀ k, R k = true → 1 ≤ k ∧ k ≤ M
  last : M = 0 ∨ R M = true
theorem Ends.one {R : Nat → Bool} {C M C' M' : Nat} (h : Ends R C M) (h' : Ends R C' M') : C = C' ∧ M = M' := by
  constructor
  · rcases Nat.lt_trichotomy C C' with hl | hl | hl
    · have := h'.run (C + 1) (by omega) (by omega); rw [h.stop] at this; cases this
    · exact hl
    · have := h.run (C' + 1) (by omega) (by omega); rw [h'.stop] at this; cases this
  · have a : M ≤ M' := by
      rcases h.last with h0 | h0
      · omega
      · exact (h'.top M h0).2
    have b : M' ≤ M := by
      rcases h'.last with h0 | h0
      · omega
      · exact (h.top M' h0).2
    omega
theorem Que.ends {R : Nat → Bool} {C M : Nat} {f : Int} {m : Nat → Nat} (h : Que R C M f m) (hs : R (C + 1) = false) : Ends R C M := ⟨h.run, hs, h.top, h.last⟩

def ZRel (w : World) (q mb B : Nat) (f : Int) (ps : List Int) (i : Value) (wr : World) : Prop :=
  ∃ j : Nat, ∃ C M : Nat, ∃ m : Nat → Nat, ∃ dv : Value, j ≤ ps.length ∧ i = .int .i64 j ∧ QSt w wr q mb B f (recv f (ps.take j)).1 C M m dv (recv f (ps.take j)).2 ∧ (recv f (ps.take j)).1 (C + 1) = false
def PRel (w : World) (q mb B : Nat) (f : Int) (R : Nat → Bool) (dl : List Int) (wr : World) : Prop :=
  ∃ C M : Nat, ∃ m : Nat → Nat, ∃ dv : Value, QSt w wr q mb B f R C M m dv dl
def cOf (f : Int) (q : Nat) (wr : World) : Nat := match wr.cell? ⟨q, 5, none⟩ with | some (.int _ x) => ((x - f) % 4294967296).toNat | _ => 0
theorem cOf_at {w wr : World} {q mb B : Nat} {f : Int} {R : Nat → Bool} {C M : Nat} {m : Nat → Nat} {dv : Value} {dl : List Int} (h : QSt w wr q mb B f R C M m dv dl) : cOf f q wr = C := by
  have g5 : wr.cell? ⟨q, 5, none⟩ = some (.int .u32 (U f C)) := by rw [cell_of_block h.at_.blk]; rfl
  have := h.at_.que.most; have := h.at_.que.lo
  unfold cOf
  rw [g5]
  show ((U f C - f) % 4294967296).toNat = C
  unfold U; omega

theorem gap_any {w : World} {q mb : Nat} {f : Int} {R : Nat → Bool} {C M : Nat} {m : Nat → Nat} {dv : Value} (h : QAt w q mb f R C M m dv) (hT : Tab w) :
    Calls Tryd.prog 16 #[.pointer (some ⟨q, 0, none⟩), .int .i64 65535] w (GapBack w C (gl (above R C) M)) := by
  by_cases h0 : cnt R C = 0
  · exact gap_none h h0
  · refine gap_some h h0 ?_ hT
    apply Nat.lt_of_not_le
    intro hle
    apply h0
    unfold cnt
    rw [List.countP_eq_zero]
    intro k _
    simp only [Bool.and_eq_true, decide_eq_true_eq, not_and]
    intro hC hR
    have := (h.que.top k hR).2
    omega
theorem row_list (dl : List Int) : dl.map (Value.int .u32) = (List.range (dl.length * 1)).map (fun k => .int .u32 (dl.getD k 0)) := by
  apply List.ext_getElem
  · simp
  · intro i h1 h2
    have hi : i < dl.length := by simpa using h1
    simp [List.getD_eq_getElem?_getD, List.getElem?_eq_getElem hi]
theorem gaps_ok {R : Nat → Bool} {C M : Nat} {f : Int} {m : Nat → Nat} (h : Que R C M f m) : ∀ p ∈ gl (above R C) M, C < p.1 ∧ C < p.2 ∧ p.1 ≤ 1000 ∧ p.2 ≤ 1000 := by
  intro p hp
  have := gl_mem (r := above R C) (C := C) (fun k hk => by unfold above at hk; simp only [Bool.and_eq_true, decide_eq_true_eq] at hk; exact hk.1) M p hp
  have := h.most
  omega

/-- What ZZReceived hands back. -/
def RecvBack (w : World) (f : Int) (ps : List Int) (e : Ending) (w' : World) : Prop :=
  ∃ C M : Nat, Ends (recv f ps).1 C M ∧ M ≤ 1000 ∧ ∃ ga gc da dc, e = .returned (.tuple #[.int .u32 (U f C), .slice ga (gl (above (recv f ps).1 C) M).length gc, .slice da (recv f ps).2.length dc]) ∧
    RowAt w.heap.size w' ga (gl (above (recv f ps).1 C) M).length gc 2 (fun k => .int .u16 (gval C (gl (above (recv f ps).1 C) M) k)) ∧
    RowAt w.heap.size w' da (recv f ps).2.length dc 1 (fun k => .int .u32 ((recv f ps).2.getD k 0)) ∧ Below w.heap.size w w'

set_option maxHeartbeats 1000000 in
set_option maxRecDepth 20000 in
theorem zzrecv_any {w : World} {B0 : Nat} {ao : Option Addr} {c : Nat} {f : Int} {ps : List Int} (hl : RowAt B0 w ao ps.length c 1 (fun k => .int .u32 (U f (ps.getD k 0)))) (hn : ps.length ≤ 1000) (hp : ∀ p ∈ ps, -1000 ≤ p ∧ p ≤ 1000) (hT : Tab w) :
    Calls Tryd.prog 8 #[.int .u32 (U f 0), .slice ao ps.length c] w (RecvBack w f ps) := by
  have HN := Lib.hid (new_any w)
  have HI := Lib.hid (init_any w f)
  have HL := Lib.hid hl; have HP := Lib.hid hp; have HT := Lib.hid hT
  obtain ⟨n, hnn⟩ : ∃ n, n = ps.length := ⟨_, rfl⟩
  have HNN := Lib.hid hnn
  rw [← hnn] at hn ⊢
  obtain ⟨t, ht⟩ : ∃ t, t = U f 0 := ⟨_, rfl⟩
  rw [← ht] at HI ⊢
  obtain ⟨q, hq⟩ : ∃ q, q = w.heap.size + 1 := ⟨_, rfl⟩
  obtain ⟨mb, hmb⟩ : ∃ mb, mb = w.heap.size := ⟨_, rfl⟩
  obtain ⟨B, hB⟩ : ∃ B, B = w.heap.size + 2 := ⟨_, rfl⟩
  rw [← hq] at HN HI
  rw [← hB, ← hmb] at HI
  have HQ := Lib.hid hq; have HMB := Lib.hid hmb; have HBB := Lib.hid hB
  clear hl hp hT hnn ht hq hmb hB
  go_enter Tryd.func8, Tryd.ntmps8
  go_wp2_with fail
  refine HN.out.mono ?_
  rintro e w1 ⟨rfl, rfl⟩
  go_wp2_with fail
  refine HI.out.mono ?_
  rintro e w2 ⟨rfl, hst⟩
  have HST := Lib.hid hst
  clear hst
  go_wp2_with fail
  go_loopw [16] (fun i wr => ZRel w q mb B f ps i wr) (fun i _ => n - (intOf i).toNat)
  case atStart => exact ⟨0, 0, 0, _, _, Nat.zero_le _, rfl, by simpa [recv] using HST.out, by simp [recv]⟩
  case round =>
    clear HST
    obtain ⟨j, C, M, m, dv, hj, rfl, hst, hstop⟩ := hrel
    rw [← HNN.out] at hj
    have HST := Lib.hid hst
    have HSTOP := Lib.hid hstop
    clear hst hstop
    by_cases hjn : j < n
    · have hjI : (j : Int) < n := by omega
      have hjl : j < ps.length := by rw [← HNN.out]; exact hjn
      obtain ⟨p, hp⟩ : ∃ p, p = ps[j] := ⟨_, rfl⟩
      have hpb := HP.out ps[j] (List.getElem_mem hjl)
      rw [← hp] at hpb
      have hg := (HL.out.mod (Mod.of_below (S := fun _ => False) HST.out.below) (fun _ h => h.elim)).at (by omega)
      obtain ⟨g, rfl, hgc, hcell⟩ := hg
      have c0 : wr.cell? ⟨g, j, none⟩ = some (.int .u32 (U f p)) := by
        rw [hcell j (by omega), hp, List.getD_eq_getElem?_getD, List.getElem?_eq_getElem hjl]; rfl
      have HRT := Lib.hid (recv_take f ps j hjl)
      rw [← hp] at HRT
      have hlen := recv_len f ps j (by omega)
      have HPP := Lib.hid hp
      obtain ⟨R, hR⟩ : ∃ R, R = (recv f (ps.take j)).1 := ⟨_, rfl⟩
      obtain ⟨dl, hdl⟩ : ∃ dl, dl = (recv f (ps.take j)).2 := ⟨_, rfl⟩
      rw [← hR, ← hdl] at HST
      rw [← hdl] at hlen
      have HPUSH : Hid (∃ R' : Nat → Bool, ∃ dl' : List Int, ∃ Q : World → Prop, stepR f (R, dl) p = (R', dl') ∧ (Calls Tryd.prog 12 #[.pointer (some ⟨q, 0, none⟩), .int .u32 (U f p)] wr fun e w' => (∃ b, e = .returned (.bool b)) ∧ Q w') ∧ ∀ w', Q w' → PRel w q mb B f R' dl' w') := Lib.hid (by
        by_cases hd : p < 1 ∨ R p.toNat = true
        · refine ⟨R, dl ++ [U f p], PRel w q mb B f R (dl ++ [U f p]), by unfold stepR; rw [if_pos hd], ?_, fun _ h => h⟩
          refine (push_dup HST.out p hpb ?_ (by omega)).mono ?_
          · rcases hd with h | h
            · exact .inl (by omega)
            · exact .inr h
          · rintro e w' ⟨rfl, dv', h⟩
            exact ⟨⟨_, rfl⟩, C, M, m, dv', h⟩
        · have h1 : 1 ≤ p := by
            rcases Int.lt_or_le p 1 with h | h
            · exact absurd (.inl h) hd
            · exact h
          have h2 : R p.toNat = false := by
            cases hh : R p.toNat with
            | false => rfl
            | true => exact absurd (.inr hh) hd
          have hC : C < p.toNat := by
            apply Nat.lt_of_not_le
            intro hle
            have := HST.out.at_.que.run p.toNat (by omega) hle
            rw [h2] at this; cases this
          refine ⟨putR R p.toNat, dl, PRel w q mb B f (putR R p.toNat) dl, by unfold stepR; rw [if_neg hd], ?_, fun _ h => h⟩
          have := push_new HST.out p.toNat hC (by omega) h2
          rw [Int.toNat_of_nonneg (by omega)] at this
          refine this.mono ?_
          rintro e w' ⟨rfl, h⟩
          exact ⟨⟨_, rfl⟩, C, _, _, dv, h⟩)
      have RR := Lib.hid hR.symm; have DD := Lib.hid hdl.symm
      clear hcell hp hR hdl
      obtain ⟨R', dl', Q, hstep, hpush, hQ⟩ := HPUSH.out
      have HS := Lib.hid hstep; have HPU := Lib.hid hpush; have HQQ := Lib.hid hQ
      clear hstep hpush hQ HPUSH
      go_wp2_with fail
      refine HPU.out.mono ?_
      rintro e w3 ⟨⟨bb, rfl⟩, hq3⟩
      have HP3 := Lib.hid (HQQ.out _ hq3)
      clear hq3
      go_wp2_with fail
      go_loopw [24] (fun _ wr => PRel w q mb B f R' dl' wr) (fun _ wr => 1001 - cOf f q wr)
      case atStart => exact HP3.out
      case round =>
        clear HP3
        obtain ⟨C', M', m', dv', hst'⟩ := hrel
        have hMC := hst'.at_.que.most; have hCM := hst'.at_.que.lo
        cases hRC : R' (C' + 1) with
        | true =>
          have htop := (hst'.at_.que.top _ hRC).2
          have HY := Lib.hid (pop_yes hst' hRC)
          have hcc := cOf_at hst'
          have HCC := Lib.hid hcc
          clear hst' hRC hcc
          go_wp2_with fail
          refine HY.out.mono ?_
          rintro e w4 ⟨rfl, h4⟩
          have H4 := Lib.hid h4
          clear h4
          go_wp2_with fail
          go_roundw
          case rel => exact ⟨_, _, _, _, H4.out⟩
          case measure => rw [cOf_at H4.out, HCC.out]; omega
        | false =>
          have HY := Lib.hid (pop_no hst' hRC)
          have HS' := Lib.hid hst'
          have HRC := Lib.hid hRC
          have w1j := wraps_i64 ((j : Int) + 1) (by omega) (by omega)
          clear hst' hRC
          go_wp2_with fail
          refine HY.out.mono ?_
          rintro e w4 ⟨rfl, rfl⟩
          go_wp2_with fail
          go_roundw
          case rel =>
            refine ⟨j + 1, C', M', m', dv', hjl, by go_num, ?_, ?_⟩
            · rw [HRT.out, show recv f (ps.take j) = ((recv f (ps.take j)).1, (recv f (ps.take j)).2) from rfl, RR.out, DD.out, HS.out]
              exact HS'.out
            · rw [HRT.out, show recv f (ps.take j) = ((recv f (ps.take j)).1, (recv f (ps.take j)).2) from rfl, RR.out, DD.out, HS.out]
              exact HRC.out
          case measure => simp [intOf]; omega
    · obtain rfl : j = n := by omega
      have hjj : (j : Int) ≤ j := Int.le_refl _
      rw [show ps.take j = ps from by rw [HNN.out]; exact List.take_length] at HST HSTOP
      have hM1 := HST.out.at_.que.most
      have HG := Lib.hid (cum_any HST.out.at_)
      clear HN HI
      go_wp2_with fail
      refine HG.out.mono ?_
      rintro e w3 ⟨rfl, rfl⟩
      go_wp2_with fail
      have hTb := HT.out.mod (Mod.of_below (S := fun _ => False) HST.out.below) (fun h => h)
      have HGA := Lib.hid (gap_any HST.out.at_ hTb)
      have HGO := Lib.hid (gaps_ok HST.out.at_.que)
      obtain ⟨gs, hgs⟩ : ∃ gs, gs = gl (above (recv f ps).1 C) M := ⟨_, rfl⟩
      rw [← hgs] at HGA HGO
      have HGS := Lib.hid hgs
      have hgl : gs.length ≤ 1000 := by rw [hgs]; have := gl_len (above (recv f ps).1 C) M; omega
      have hrow := HST.out.row
      rw [row_list] at hrow
      obtain ⟨da, dc, rfl, hda⟩ := RowAt.of_owns hrow
      have HDA := Lib.hid hda
      clear hTb hgs hrow hda
      refine HGA.out.mono ?_
      rintro e w4 ⟨xa, xc, rfl, hown, hx4⟩
      rw [cells16_map] at hown
      obtain ⟨xa', xc', e', hxr⟩ := RowAt.of_owns hown
      obtain ⟨rfl, rfl⟩ : xa = xa' ∧ xc = xc' := by simpa using e'
      have HZ := Lib.hid (zzgaps_any hxr (by omega) (gval_bound HGO.out))
      have HX4 := Lib.hid hx4
      clear hown e' hxr hx4
      go_wp2_with fail
      refine HZ.out.mono ?_
      rintro e w5 ⟨ya, yc, rfl, hyr, hx5⟩
      have M35 : Mod (fun _ => False) w3 w5 := (Mod.of_below HX4.out).trans (Mod.of_below hx5)
      have HD := Lib.hid (dups_any (HST.out.at_.mod M35 (fun h => h) (fun h => h)))
      have HYR := Lib.hid hyr; have HM35 := Lib.hid M35
      clear hyr hx5 M35
      go_wp2_with fail
      refine HD.out.mono ?_
      rintro e w6 ⟨rfl, hm6⟩
      have HM6 := Lib.hid hm6
      clear hm6
      go_wp2_with fail
      go_ret3
      have hqlt := HST.out.q1
      have hb3 := HST.out.b1
      have h34 := HX4.out.size
      have hb := HBB.out; have hqq := HQ.out
      have M36 : Mod (· = q) w3 w6 := (HM35.out.mono (fun _ h => h.elim)).trans HM6.out
      refine ⟨C, M, HST.out.at_.que.ends HSTOP.out, hM1, ya, yc, da, dc, by rw [← HGS.out]; rfl, ?_, ?_, HST.out.below.trans (M36.below HST.out.below.size (fun k e => by omega))⟩
      · rw [← HGS.out]
        exact (HYR.out.mod HM6.out (fun k e => .inl (by omega))).mono (by omega)
      · exact (HDA.out.mod M36 (fun k e => .inl (by omega))).mono (by omega)
end Go.Proofs.YthnalicohdmlfaaDoor
