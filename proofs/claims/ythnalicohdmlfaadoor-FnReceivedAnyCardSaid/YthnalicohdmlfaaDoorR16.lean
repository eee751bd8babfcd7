/- laws.FnReceivedAny returns true for every number and every list of numbers, and leaves the memory that was there as it was; conditions: the table of math/bits is laid (Tab). -/
import Derived.Test.YthnalicohdmlfaaDoorR15
import Derived.ChangeKeysEq
namespace Go.Proofs.YthnalicohdmlfaaDoor
open Go.RowKit
set_option linter.unusedVariables false

def IsTrue (w : World) (e : Ending) (w' : World) : Prop := e = .returned (.bool true) ∧ Below w.heap.size w w'

theorem eq32 (w : World) (x y : Int) : (Op.equalIn 10000 32 (.agg #[.int .i64 x, .int .i64 y]) (.agg #[.int .i64 x, .int .i64 y])).run Tryd.prog w = .ok true w := by
  obtain ⟨i0, hi, hz0, hz1, hz2⟩ := info_parts (show (Tryd.prog.info? 3).map (fun i => (i.zero, i.size, i.bytes)) = some (some (.int .i64 0), 1, 8) by kernel_rfl)
  have hc : Tryd.prog.cellsOf 3 = 1 := by kernel_rfl
  rw [run_equalIn_array w 9999 _ _ Tryd.underlying32 hi, hc]
  simp only [List.range, List.range.loop, Op.eqItems]
  have hu := Tryd.underlying3
  simp [go_sem, part, run_equalIn_int _ _ _ _ _ _ _ hu]

def CmpRel (w7 : World) (G : Nat) (i : Value) (wr : World) : Prop := ∃ j : Nat, j ≤ G ∧ i = .int .i64 j ∧ Same w7 wr
theorem Same.mod {w w' : World} (h : Same w w') : Mod (fun _ => False) w w' := ⟨h.2.1, h.2.2.1, h.2.2.2, by rw [h.1]; exact Nat.le_refl _, fun _ _ _ => by rw [h.1]⟩

theorem recv_top (f : Int) (ps : List Int) (hp : ∀ p ∈ ps, p ≤ 1000) (k : Nat) (h : (recv f ps).1 k = true) : k ≤ 1000 := by
  have e := bhs_recv f ps ps.length (Nat.le_refl _)
  have ok := bhs_ok f ps hp ps.length (Nat.le_refl _)
  rw [List.take_length] at e ok
  rw [← e, ok.mem] at h
  have := (ok.pos _ h).2
  omega

set_option maxHeartbeats 400000 in
theorem recv_great (w : World) (t : Int) (ao : Option Addr) (n c : Nat) (hs : 100 < n) : Calls Tryd.prog 3 #[.int .u32 t, .slice ao n c] w (IsTrue w) := by
  by_cases h2 : (n : Int) ≤ 2147483647
  · go_enter Tryd.func3, Tryd.ntmps3
    go_wp2_with fail
    go_ret
    exact ⟨rfl, Below.refl _ _⟩
  · go_enter Tryd.func3, Tryd.ntmps3
    go_wp2_with fail
    go_ret
    exact ⟨rfl, Below.refl _ _⟩

set_option maxHeartbeats 2000000 in
set_option maxRecDepth 20000 in
theorem recv_all {w : World} {t : Int} {ao : Option Addr} {n c : Nat} {l : List Int} (h : IntsAt w ao n c l) (ht : 0 ≤ t ∧ t < 4294967296) (hT : Tab w) :
    Calls Tryd.prog 3 #[.int .u32 t, .slice ao n c] w (IsTrue w) := by
  by_cases hbig : 100 < n
  · exact recv_great w t ao n c hbig
  have hU0 : U t 0 = t := by unfold U; omega
  obtain ⟨ht0, ht1⟩ := ht
  obtain rfl := h.len
  have HB := Lib.hid h; have HT := Lib.hid hT
  have hn : l.length ≤ 100 := by omega
  have HA := fun (hp : ∀ p ∈ l, -1000 ≤ p ∧ p ≤ 1000) => all_any (f := t) h (by omega) hp
  have HU0 := Lib.hid hU0
  rw [hU0] at HA
  have HAA := Lib.hid HA
  obtain ⟨n, hnn⟩ : ∃ n, n = l.length := ⟨_, rfl⟩
  have HNN := Lib.hid hnn
  rw [← hnn] at hn hbig HB HAA
  rw [← hnn]
  clear h hT hU0 HA hnn
  go_enter Tryd.func3, Tryd.ntmps3
  go_wp2_with fail
  go_loopw [20] (fun v wr => ∃ j : Nat, j ≤ n ∧ v = .int .i64 j ∧ wr = w ∧ ∀ k, k < j → -1000 ≤ l.getD k 0 ∧ l.getD k 0 ≤ 1000) (fun v _ => n - (intOf v).toNat)
  case atStart => exact ⟨0, Nat.zero_le _, rfl, rfl, fun k hk => by omega⟩
  case round =>
    obtain ⟨j, hj, rfl, hwr, hrng⟩ := hrel
    obtain rfl := hwr.symm
    by_cases hjn : j < n
    · have hjI : (j : Int) < n := by omega
      obtain ⟨g, off, rfl, hgc, hcell⟩ := HB.out.open (by omega)
      obtain ⟨x, hx⟩ : ∃ x, x = l.getD j 0 := ⟨_, rfl⟩
      have c0 := hcell j hjn
      rw [← hx] at c0
      have HX := Lib.hid hx; have HR := Lib.hid hrng
      have w1j := wraps_i64 ((j : Int) + 1) (by omega) (by omega)
      clear hcell hx hrng
      by_cases hlo : x < -1000
      · go_wp2_with fail
        go_ret
        exact ⟨rfl, Below.refl _ _⟩
      · by_cases hhi : 1000 < x
        · go_wp2_with fail
          go_ret
          exact ⟨rfl, Below.refl _ _⟩
        · have hhi' : x ≤ 1000 := by omega
          go_wp2_with fail
          go_roundw
          case rel =>
            refine ⟨j + 1, hjn, by go_num, trivial, fun k hk => ?_⟩
            by_cases hkj : k = j
            · subst hkj; rw [← HX.out]; omega
            · exact HR.out k (by omega)
          case measure => simp [intOf]; omega
    · obtain rfl : j = n := by omega
      have hjj : (j : Int) ≤ j := Int.le_refl _
      have hp : ∀ p ∈ l, -1000 ≤ p ∧ p ≤ 1000 := by
        intro p hp
        obtain ⟨k, hk, rfl⟩ := List.getElem_of_mem hp
        have := hrng k (by rw [HNN.out]; exact hk)
        rwa [List.getD_eq_getElem?_getD, List.getElem?_eq_getElem hk, Option.getD_some] at this
      have HP := Lib.hid hp
      have HS := Lib.hid (HAA.out hp)
      clear hrng hp HAA
      go_wp2_with fail
      refine HS.out.mono ?_
      rintro e w1 ⟨C, M, hE, ga, gc, da, dc, rfl, hg, hd, hb1⟩
      obtain ⟨gs, hgs⟩ : ∃ gs, gs = gl (above (recv t l).1 C) M := ⟨_, rfl⟩
      obtain ⟨G, hG⟩ : ∃ G, G = gs.length := ⟨_, rfl⟩
      obtain ⟨D, hD⟩ : ∃ D, D = (recv t l).2.length := ⟨_, rfl⟩
      rw [← hgs] at hg ⊢
      rw [← hG] at hg ⊢
      rw [← hD] at hd ⊢
      have hDl : D ≤ 100 := by have := recv_len t l l.length (Nat.le_refl _); rw [List.take_length] at this; have := HNN.out; omega
      have HE := Lib.hid hE; have HG := Lib.hid hg; have HD := Lib.hid hd; have HB1 := Lib.hid hb1
      have HGS := Lib.hid hgs; have HGG := Lib.hid hG; have HDD := Lib.hid hD
      clear hE hg hd hb1 hgs hG hD HS
      go_wp2_with fail
      generalize hW2 : World.alloc w1 _ = w2
      have bX : w2.heap[w1.heap.size]? = some (.cells #[.int .u32 (U t C), .int .u32 0, .slice ga G gc, .slice da D dc] 27 (0, 0)) := by rw [← hW2]; exact heap_new w1 _
      have L2 : Below w.heap.size w w2 := by rw [← hW2]; exact HB1.out.alloc HB1.out.size _
      have M12 : Mod (fun _ => False) w1 w2 := by rw [← hW2]; exact (Mod.refl _ w1).alloc _
      have M2 := Mod.of_below (S := fun _ => False) L2
      have hx2 : w1.heap.size < w2.heap.size := (Array.getElem?_eq_some_iff.1 bX).1
      have HN := numbers_any (f := t) (ps := l) ((by have := HB.out.mod M2 (fun _ _ h => h); rwa [HNN.out] at this) : IntsAt w2 ao l.length c l) (by have := HNN.out; omega) HP.out
      rw [HU0.out, ← HNN.out] at HN
      have HN := Lib.hid HN
      have HL2 := Lib.hid L2; have BX2 := Lib.hid bX
      have HG2 := Lib.hid (HG.out.mod M12 (fun _ h => h.elim)); have HD2 := Lib.hid (HD.out.mod M12 (fun _ h => h.elim))
      clear hW2 L2 bX M12 M2 HB1 HG HD
      refine HN.out.mono ?_
      rintro e w3 ⟨na, nc, rfl, hna, hb3⟩
      have M23 := Mod.of_below (S := fun _ => False) hb3
      have HL3 := Lib.hid (HL2.out.trans (hb3.mono HL2.out.size))
      have BX3 := Lib.hid ((hb3.block _ hx2).trans BX2.out)
      have hx3 : w1.heap.size < w3.heap.size := Nat.lt_of_lt_of_le hx2 hb3.size
      have HG3 := Lib.hid (HG2.out.mod M23 (fun _ h => h.elim)); have HD3 := Lib.hid (HD2.out.mod M23 (fun _ h => h.elim))
      have HI := implrecv_any (f := t) (ps := l) ((by have := hna; rwa [HNN.out] at this) : RowAt w2.heap.size w3 na l.length nc 1 _) (by have := HNN.out; omega) HP.out (HT.out.mod (Mod.of_below (S := fun _ => False) HL3.out) (fun h => h))
      rw [HU0.out, ← HNN.out] at HI
      have HI := Lib.hid HI
      clear hna hb3 M23 HL2 BX2 HG2 HD2 HN hx2
      go_wp2_with fail
      refine HI.out.mono ?_
      rintro e w4 ⟨C', M', hE', ga', gc', da', dc', rfl, hg, hd, hb4⟩
      obtain ⟨rfl, rfl⟩ := hE'.one HE.out
      rw [← HGS.out] at hg ⊢
      rw [← HGG.out] at hg ⊢
      rw [← HDD.out] at hd ⊢
      have M34 := Mod.of_below (S := fun _ => False) hb4
      have HL4 := Lib.hid (HL3.out.trans (hb4.mono HL3.out.size))
      have BX4 := Lib.hid ((hb4.block _ hx3).trans BX3.out)
      have hx4 : w1.heap.size < w4.heap.size := Nat.lt_of_lt_of_le hx3 hb4.size
      have HG4 := Lib.hid (HG3.out.mod M34 (fun _ h => h.elim)); have HD4 := Lib.hid (HD3.out.mod M34 (fun _ h => h.elim))
      have HQG4 := Lib.hid hg; have HQD4 := Lib.hid hd
      clear hE' hg hd hb4 M34 HL3 BX3 HG3 HD3 HI hx3
      have hG1 : G ≤ 2147483647 := by
        have := gl_len (above (recv t l).1 C') M'
        rw [← HGS.out, ← HGG.out] at this
        have hM : M' ≤ 1000 := by
          rcases HE.out.last with h0 | h0
          · omega
          · exact recv_top t l (fun p hp => (HP.out p hp).2) M' h0
        omega
      have r0 : w4.cell? ⟨w1.heap.size, 0, none⟩ = some (.int .u32 (U t C')) := by rw [cell_of_block BX4.out]; rfl
      have r2 : w4.cell? ⟨w1.heap.size, 2, none⟩ = some (.slice ga G gc) := by rw [cell_of_block BX4.out]; rfl
      have r3 : w4.cell? ⟨w1.heap.size, 3, none⟩ = some (.slice da D dc) := by rw [cell_of_block BX4.out]; rfl
      go_wp2_with fail
      generalize hW5 : World.alloc w4 _ = w5
      have bY : w5.heap[w4.heap.size]? = some (.cells #[.int .u32 (U t C'), .int .u32 0, .slice ga' G gc', .slice da' D dc'] 27 (0, 0)) := by rw [← hW5]; exact heap_new w4 _
      have HL5 : Hid (Below w.heap.size w w5) := Lib.hid (by rw [← hW5]; exact HL4.out.alloc HL4.out.size _)
      have M45 : Mod (fun _ => False) w4 w5 := by rw [← hW5]; exact (Mod.refl _ w4).alloc _
      have bX := (M45.block _ hx4 (fun h => h)).trans BX4.out
      have HPG := Lib.hid (HG4.out.mod M45 (fun _ h => h.elim)); have HPD := Lib.hid (HD4.out.mod M45 (fun _ h => h.elim))
      have HQG := Lib.hid (HQG4.out.mod M45 (fun _ h => h.elim)); have HQD := Lib.hid (HQD4.out.mod M45 (fun _ h => h.elim))
      have s0 : w5.cell? ⟨w1.heap.size, 0, none⟩ = some (.int .u32 (U t C')) := by rw [cell_of_block bX]; rfl
      have s2 : w5.cell? ⟨w1.heap.size, 2, none⟩ = some (.slice ga G gc) := by rw [cell_of_block bX]; rfl
      have s3 : w5.cell? ⟨w1.heap.size, 3, none⟩ = some (.slice da D dc) := by rw [cell_of_block bX]; rfl
      have t0 : w5.cell? ⟨w4.heap.size, 0, none⟩ = some (.int .u32 (U t C')) := by rw [cell_of_block bY]; rfl
      have t2 : w5.cell? ⟨w4.heap.size, 2, none⟩ = some (.slice ga' G gc') := by rw [cell_of_block bY]; rfl
      have t3 : w5.cell? ⟨w4.heap.size, 3, none⟩ = some (.slice da' D dc') := by rw [cell_of_block bY]; rfl
      clear hW5 M45 bX bY HG4 HD4 HQG4 HQD4 HL4 BX4 r0 r2 r3
      have S2 := Lib.hid s2; have S3 := Lib.hid s3; have T2 := Lib.hid t2; have T3 := Lib.hid t3
      clear s0 s2 s3 t0 t2 t3
      go_loopw [72] (fun i wq => CmpRel w5 G i wq) (fun i _ => G - (intOf i).toNat)
      case atStart => exact ⟨0, Nat.zero_le _, rfl, rfl, rfl, rfl, rfl⟩
      case round =>
        obtain ⟨i, hi, rfl, hsm⟩ := hrel
        by_cases hik : i < G
        · have hiG : (i : Int) < G := by omega
          obtain ⟨g, rfl, hgc, hcg⟩ := HPG.out.at (by omega)
          obtain ⟨g', rfl, hgc', hcg'⟩ := HQG.out.at (by omega)
          obtain ⟨x, hx⟩ : ∃ x, x = gval C' gs (i * 2) := ⟨_, rfl⟩
          obtain ⟨y, hy⟩ : ∃ y, y = gval C' gs (i * 2 + 1) := ⟨_, rfl⟩
          have s2 := (hsm.cell _).trans S2.out
          have t2 := (hsm.cell _).trans T2.out
          have c0 : wr.cell? ⟨g, i * 2, none⟩ = some (.int .i64 x) := by rw [hsm.cell, hcg (i * 2) (by omega), hx]
          have c1 : wr.cell? ⟨g, i * 2 + 1, none⟩ = some (.int .i64 y) := by rw [hsm.cell, hcg (i * 2 + 1) (by omega), hy]
          have e0 : wr.cell? ⟨g', i * 2, none⟩ = some (.int .i64 x) := by rw [hsm.cell, hcg' (i * 2) (by omega), hx]
          have e1 : wr.cell? ⟨g', i * 2 + 1, none⟩ = some (.int .i64 y) := by rw [hsm.cell, hcg' (i * 2 + 1) (by omega), hy]
          have HSM := Lib.hid hsm
          have w1i := wraps_i64 ((i : Int) + 1) (by omega) (by omega)
          have hq32 := fun w => eq32 w x y
          clear hsm hcg hcg' hx hy
          go_wp2_with fail
          go_quiet (fail)
          go_wp2_with fail
          go_roundw
          case rel => exact ⟨i + 1, hik, by go_num, HSM.out.drewN _⟩
          case measure => simp [intOf]; omega
        · obtain rfl : i = G := by omega
          have hii : (i : Int) ≤ i := Int.le_refl _
          have s3 := (hsm.cell _).trans S3.out
          have HSM := Lib.hid hsm
          clear hsm
          go_wp2_with fail
          go_loopw [90] (fun v wq => CmpRel w5 D v wq) (fun v _ => D - (intOf v).toNat)
          case atStart => exact ⟨0, Nat.zero_le _, rfl, HSM.out⟩
          case round =>
            clear HSM s3
            obtain ⟨k, hk, rfl, hsm⟩ := hrel
            by_cases hkd : k < D
            · have hkD : (k : Int) < D := by omega
              obtain ⟨g, rfl, hgc, hcg⟩ := HPD.out.at (by omega)
              obtain ⟨g', rfl, hgc', hcg'⟩ := HQD.out.at (by omega)
              obtain ⟨x, hx⟩ : ∃ x, x = (recv t l).2.getD k 0 := ⟨_, rfl⟩
              have s3 := (hsm.cell _).trans S3.out
              have t3 := (hsm.cell _).trans T3.out
              have c0 : wr.cell? ⟨g, k, none⟩ = some (.int .u32 x) := by rw [hsm.cell, hcg k (by omega), hx]
              have e0 : wr.cell? ⟨g', k, none⟩ = some (.int .u32 x) := by rw [hsm.cell, hcg' k (by omega), hx]
              have HSM := Lib.hid hsm
              have w1k := wraps_i64 ((k : Int) + 1) (by omega) (by omega)
              clear hsm hcg hcg' hx
              go_wp2_with fail
              go_quiet (fail)
              go_wp2_with fail
              go_roundw
              case rel => exact ⟨k + 1, hkd, by go_num, HSM.out.drewN _⟩
              case measure => simp [intOf]; omega
            · obtain rfl : k = D := by omega
              have hkk : (k : Int) ≤ k := Int.le_refl _
              have HLF := Lib.hid (hsm.below HL5.out HL5.out.size)
              have HN := numbers_any (f := t) (ps := l) ((by have := HB.out.mod (Mod.of_below (S := fun _ => False) HLF.out) (fun _ _ h => h); rwa [HNN.out] at this) : IntsAt wr ao l.length c l) (by have := HNN.out; omega) HP.out
              rw [HU0.out, ← HNN.out] at HN
              have HN := Lib.hid HN
              clear hsm
              go_wp2_with fail
              refine HN.out.mono ?_
              rintro e w9 ⟨na, nc, rfl, hna, hb9⟩
              have HL9 := Lib.hid (HLF.out.trans (hb9.mono HLF.out.size))
              clear hna hb9
              go_wp2_with fail
              go_ret
              exact ⟨rfl, HL9.out⟩
end Go.Proofs.YthnalicohdmlfaaDoor
