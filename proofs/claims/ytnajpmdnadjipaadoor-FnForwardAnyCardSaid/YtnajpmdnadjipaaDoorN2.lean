/- Part of the proofs of laws.FnDataAny, FnSackAny, FnForwardAny: what spec.joined returns; conditions: as the theorem states. -/
import Derived.Test.YtnajpmdnadjipaaDoorN1
namespace Go.Proofs.YtnajpmdnadjipaaDoor
open Go.RowKit
set_option linter.unusedVariables false

/-- A piece: where it lies, and its bytes. -/
structure Piece where
  a : Addr
  n : Nat
  c : Nat
  l : List Int

def flat (ps : List Piece) : List Int := (ps.map Piece.l).flatten
theorem flat_succ (ps : List Piece) (j : Nat) (hj : j < ps.length) : flat (ps.take (j + 1)) = flat (ps.take j) ++ (ps[j]).l := by
  unfold flat
  rw [List.take_succ_eq_append_getElem hj, List.map_append, List.flatten_append]
  simp

theorem flat_le (ps : List Piece) (j : Nat) : (flat (ps.take j)).length ≤ (flat ps).length := by
  have : flat ps = flat (ps.take j) ++ flat (ps.drop j) := by
    unfold flat
    rw [← List.flatten_append, ← List.map_append, List.take_append_drop]
  rw [this, List.length_append]; omega
theorem flat_bytes {w : World} {ps : List Piece} (hp : ∀ i (h : i < ps.length), BytesAt w (some (ps[i]).a) (ps[i]).n (ps[i]).c (ps[i]).l) : ∀ x ∈ flat ps, 0 ≤ x ∧ x < 256 := by
  intro x hx
  unfold flat at hx
  obtain ⟨l, hl, hxl⟩ := List.mem_flatten.1 hx
  obtain ⟨p, hpm, rfl⟩ := List.mem_map.1 hl
  obtain ⟨i, hi, rfl⟩ := List.getElem_of_mem hpm
  obtain ⟨k, hk, rfl⟩ := List.getElem_of_mem hxl
  have := (hp i hi).byte k
  simpa [List.getD_eq_getElem?_getD, List.getElem?_eq_getElem hk] using this
theorem bytes_cells {w : World} {a : Addr} {n c : Nat} {l : List Int} (h : BytesAt w (some a) n c l) : ∀ j u, (l.map (Value.int .u8))[j]? = some u → w.cell? (a.add j) = some u := by
  intro j u hu
  have hj : j < n := by have := (List.getElem?_eq_some_iff.1 hu).1; simpa [h.len] using this
  rw [h.cell a rfl j hj]
  rw [List.getElem?_map] at hu
  have hj' : j < l.length := by rw [h.len]; exact hj
  rw [List.getElem?_eq_getElem hj'] at hu
  rw [← hu]
  simp [List.getD_eq_getElem?_getD, List.getElem?_eq_getElem hj']

/-- The loop's relation. -/
def JoinRel (B : Nat) (w : World) (ps : List Piece) (v : Value) (i : Value) (wr : World) : Prop :=
  ∃ j : Nat, j ≤ ps.length ∧ i = .int .i64 j ∧ wr.ownsRow B 5 1 v (flat (ps.take j)).length ((flat (ps.take j)).map (Value.int .u8)) ∧ Below B w wr

set_option maxHeartbeats 1000000 in
theorem joined_any (g : Nat) (ps : List Piece) (w : World) (hg : ∀ i (h : i < ps.length), w.cell? ⟨g, i, none⟩ = some (.slice (some (ps[i]).a) (ps[i]).n (ps[i]).c))
    (hp : ∀ i (h : i < ps.length), BytesAt w (some (ps[i]).a) (ps[i]).n (ps[i]).c (ps[i]).l) (hk : 0 < ps.length) (hk' : ps.length ≤ 2147483647) (ht : (flat ps).length ≤ 2147483647) :
    Calls Tryd.prog 31 #[.slice (some ⟨g, 0, none⟩) ps.length ps.length] w (Copied w (flat ps).length (flat ps)) := by
  obtain ⟨i0, hi, hz0, hz1, hz2⟩ := info_parts (show (Tryd.prog.info? 5).map (fun i => (i.zero, i.size, i.bytes)) = some (some (.int .u8 0), 1, 1) by kernel_rfl)
  have O0 := Lib.hid (World.ownsRow_made (e := 5) (size := 1) w #[] 0 (Nat.le_refl _) (by unfold maxLen; omega) rfl)
  have L0 := Lib.hid ((Below.refl w.heap.size w).alloc (Nat.le_refl _) (.cells #[] 5))
  have hgB : g < w.heap.size := lt_of_cell (hg 0 hk)
  have HG := Lib.hid hg
  have HP := Lib.hid hp
  obtain ⟨k, hkk⟩ : ∃ k, k = ps.length := ⟨_, rfl⟩
  have HK := Lib.hid hkk
  rw [← hkk] at hk hk'
  rw [← hkk]
  clear hg hp hkk
  go_enter Tryd.func31, Tryd.ntmps31
  go_wp2_with fail
  go_loopw [3, 9] (fun v i wr => JoinRel w.heap.size w ps v i wr) (fun _ i _ => k - (intOf i).toNat)
  case atStart => exact ⟨0, Nat.zero_le _, rfl, by simpa [flat] using O0.out, L0.out⟩
  case round =>
    obtain ⟨j, hj, rfl, hown, hb⟩ := hrel
    rw [← HK.out] at hj
    by_cases hjk : j < k
    · have hjl : j < ps.length := by rw [← HK.out]; exact hjk
      have hc : wr.cell? ⟨g, j, none⟩ = some (.slice (some (ps[j]).a) (ps[j]).n (ps[j]).c) := (hb.cell (by exact hgB)).trans (HG.out j hjl)
      have hB := (HP.out j hjl).mod (Mod.of_below hb) (S := fun _ => False) (fun _ _ h => h)
      have hfs := flat_succ ps j hjl
      have hle : (flat (ps.take (j + 1))).length ≤ (flat ps).length := flat_le ps (j + 1)
      have hn : (flat (ps.take (j + 1))).length = (flat (ps.take j)).length + (ps[j]).n := by rw [hfs, List.length_append, hB.len]
      have hsz : w.heap.size ≤ wr.heap.size := hb.size
      obtain ⟨a, ha⟩ : ∃ a, a = (ps[j]).a := ⟨_, rfl⟩
      obtain ⟨m, hm⟩ : ∃ m, m = (ps[j]).n := ⟨_, rfl⟩
      obtain ⟨c, hcc⟩ : ∃ c, c = (ps[j]).c := ⟨_, rfl⟩
      rw [← ha, ← hm, ← hcc] at hc hB
      rw [← hm] at hn
      obtain ⟨p, hpn⟩ : ∃ p, p = (flat (ps.take j)).length := ⟨_, rfl⟩
      rw [← hpn] at hown hn
      have hlim : p + m ≤ 2147483647 := by omega
      have HN := Lib.hid hn; have HFS := Lib.hid hfs; have HB := Lib.hid hB; have HO := Lib.hid hown; have HBe := Lib.hid hb
      have hj0 : (j : Int) < k := by omega
      clear ha hm hcc hn hfs hB hown hb hle hpn
      go_wp2_with (first | (at_builtin; refine wpList_append_own _ rfl _ _ 22 rfl w.heap.size 5 i0 (.int .u8 0) 1 1 Tryd.underlying22 hi hz0 hz1 hz2 rfl (by decide) _ _ _ rfl HO.out a m c ((ps[j]).l.map (Value.int .u8)) rfl ?c0 ?c1 ?c2 ?c3 ?c4 ?c5 ?_))
      case c0 => simp [HB.out.len]
      case c1 => exact bytes_cells HB.out
      case c2 => exact ints_oneCell _ _
      case c3 => unfold maxLen; omega
      case c4 => omega
      case c5 => exact hsz
      intro v' w1 hown' hgrow _
      have hb' := HBe.out.grown hgrow hsz (fun k hk => (HO.out.lt k hk).1)
      rw [← HN.out, ← List.map_append, ← HFS.out] at hown'
      have HO' := Lib.hid hown'; have HB' := Lib.hid hb'
      clear hown' hgrow hb'
      go_wp2_with fail
      go_roundw
      case rel => exact ⟨j + 1, hjl, by go_num, HO'.out, HB'.out⟩
      case measure => simp [intOf]; omega
    · have hjk' : ps.take j = ps := List.take_of_length_le (by rw [← HK.out]; omega)
      have hj0 : (k : Int) ≤ j := by omega
      rw [hjk'] at hown
      have HO := Lib.hid hown; have HBe := Lib.hid hb
      have HF := Lib.hid (flat_bytes HP.out)
      clear hown hb hjk'
      go_wp2_with fail
      go_ret
      exact copied_owns HO.out (Nat.le_refl _) rfl rfl HF.out HBe.out
end Go.Proofs.YtnajpmdnadjipaaDoor
