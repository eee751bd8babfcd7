/- Part of the proofs of the three laws on reassembly: chunks in memory, and what a set of chunks tells; conditions: as each theorem states. -/
import Derived.Test.YtmniikihkpikdaaDoorM3
namespace Go.Proofs.YtmniikihkpikdaaDoor
open Go.RowKit
set_option linter.unusedVariables false

/-- A piece of a message: its number counted from the first one, its message's number, its marks, and its bytes. -/
structure Pc where
  p : Int
  k : Int
  beg : Bool
  fin : Bool
  un : Bool
  proto : Int
  bytes : List Int
deriving Inhabited
/-- A piece in memory: the chunk's block, and that of its bytes. -/
structure Ck where
  b : Nat
  pc : Pc
  ug : Nat
  uc : Nat
deriving Inhabited
def Pc.frag (x : Pc) : Bool := !x.beg || !x.fin
def ckCells (f si : Int) (c : Ck) : Array Value := #[.int .u8 0, .int .u8 0, .slice none 0 0, .int .u64 0, .bool c.pc.un, .bool c.pc.beg, .bool c.pc.fin, .bool false, .int .u32 (U f c.pc.p), .int .u16 si, .int .u16 c.pc.k, .int .u32 0, .int .u32 0,
  .int .u32 c.pc.proto, .slice (some ⟨c.ug, 0, none⟩) c.pc.bytes.length c.uc, .bool false, .bool false, .int .u32 0, .int .u32 0, .bool false, .bool false, .bool false, .pointer none, .pointer none, .pointer none, .bool false]
structure CkAt (w : World) (f si : Int) (c : Ck) : Prop where
  blk : w.heap[c.b]? = some (.cells (ckCells f si c) 71 (0, 0))
  usr : ∃ cur, w.heap[c.ug]? = some (.cells cur 5 (0, 0)) ∧ cur.toList.take c.pc.bytes.length = c.pc.bytes.map (Value.int .u8)
  cap : c.pc.bytes.length ≤ c.uc
  small : c.pc.bytes.length ≤ 4096
  pb : 0 ≤ c.pc.p ∧ c.pc.p < 5000
  kb : 0 ≤ c.pc.k ∧ c.pc.k < 1000

/-- What stays: all below a base, and all blocks but those of a queue's own types. -/
def qT (T : TypeId) : Prop := T = 64 ∨ T = 81 ∨ T = 51 ∨ T = 72
structure Kp (B : Nat) (w w' : World) : Prop where
  os : w'.os = w.os
  tape : w'.tape = w.tape
  output : w'.output = w.output
  size : w.heap.size ≤ w'.heap.size
  low : ∀ k, k < w.heap.size → k < B → w'.heap[k]? = w.heap[k]?
  oth : ∀ (k : Nat) (cs : Array Value) (T : TypeId), w.heap[k]? = some (Obj.cells cs T (0, 0)) → ¬ qT T → w'.heap[k]? = w.heap[k]?
theorem Kp.refl (B : Nat) (w : World) : Kp B w w := ⟨rfl, rfl, rfl, Nat.le_refl _, fun _ _ _ => rfl, fun _ _ _ _ _ => rfl⟩
theorem Kp.trans {B : Nat} {a b c : World} (h : Kp B a b) (k : Kp B b c) : Kp B a c :=
  ⟨k.os.trans h.os, k.tape.trans h.tape, k.output.trans h.output, Nat.le_trans h.size k.size, fun n hn hB => (k.low n (Nat.lt_of_lt_of_le hn h.size) hB).trans (h.low n hn hB),
    fun n cs T hn hT => (k.oth n cs T ((h.oth n cs T hn hT).trans hn) hT).trans (h.oth n cs T hn hT)⟩
theorem Kp.of_mod {S : Nat → Prop} {B : Nat} {w w' : World} (h : Mod S w w') (hS : ∀ k, S k → w.heap.size ≤ k ∨ (B ≤ k ∧ ∃ (cs : Array Value) (T : TypeId) (fr : Nat × Nat), w.heap[k]? = some (Obj.cells cs T fr) ∧ qT T)) : Kp B w w' := by
  refine ⟨h.os, h.tape, h.output, h.size, fun k hk hB => h.block k hk (fun hs => ?_), fun k cs T hk hT => h.block k (Array.getElem?_eq_some_iff.1 hk).1 (fun hs => ?_)⟩
  · rcases hS k hs with h0 | ⟨h0, _⟩ <;> omega
  · rcases hS k hs with h0 | ⟨_, cs', T', fr', e, hq⟩
    · have := (Array.getElem?_eq_some_iff.1 hk).1; omega
    · rw [hk] at e
      obtain ⟨rfl, rfl, _⟩ : cs = cs' ∧ T = T' ∧ _ := by simpa using e
      exact hT hq
theorem Kp.below {B : Nat} {w w' : World} (h : Kp B w w') (hB : B ≤ w.heap.size) : Below B w w' :=
  ⟨h.os, h.tape, h.output, h.size, fun k hk => h.low k (by omega) hk⟩
theorem CkAt.kp {B : Nat} {w w' : World} {f si : Int} {c : Ck} (h : CkAt w f si c) (hK : Kp B w w') : CkAt w' f si c := by
  obtain ⟨cur, hu, ht⟩ := h.usr
  exact ⟨(hK.oth _ _ _ h.blk (by unfold qT; decide)).trans h.blk, ⟨cur, (hK.oth _ _ _ hu (by unfold qT; decide)).trans hu, ht⟩, h.cap, h.small, h.pb, h.kb⟩
theorem CkAt.lt {w : World} {f si : Int} {c : Ck} (h : CkAt w f si c) : c.b < w.heap.size := (Array.getElem?_eq_some_iff.1 h.blk).1
theorem CkAt.cell {w : World} {f si : Int} {c : Ck} (h : CkAt w f si c) (i : Nat) : w.cell? ⟨c.b, i, none⟩ = (ckCells f si c)[i]? := cell_of_block h.blk

set_option maxHeartbeats 400000 in
theorem isIData_any {w : World} {f si : Int} {c : Ck} (h : CkAt w f si c) : Calls Tryd.prog 25 #[ptr c.b] w fun e w' => e = .returned (.bool false) ∧ w' = w := by
  have c0 : w.cell? ⟨c.b, 0, none⟩ = some (.int .u8 0) := h.cell 0
  have c15 : w.cell? ⟨c.b, 15, none⟩ = some (.bool false) := h.cell 15
  clear h
  unfold ptr
  go_enter Tryd.func25, Tryd.ntmps25
  go_wp2_with fail
  go_ret
  exact ⟨rfl, rfl⟩
set_option maxHeartbeats 400000 in
theorem isFrag_any {w : World} {f si : Int} {c : Ck} (h : CkAt w f si c) : Calls Tryd.prog 34 #[ptr c.b] w fun e w' => e = .returned (.bool c.pc.frag) ∧ w' = w := by
  have c22 : w.cell? ⟨c.b, 22, none⟩ = some (.pointer none) := h.cell 22
  have c5 : w.cell? ⟨c.b, 5, none⟩ = some (.bool c.pc.beg) := h.cell 5
  have c6 : w.cell? ⟨c.b, 6, none⟩ = some (.bool c.pc.fin) := h.cell 6
  unfold Pc.frag
  clear h
  unfold ptr
  cases hb : c.pc.beg <;> cases hf : c.pc.fin <;> rw [hb] at c5 <;> rw [hf] at c6 <;> clear hb hf <;>
    (go_enter Tryd.func34, Tryd.ntmps34; go_wp2_with fail; go_ret; exact ⟨rfl, rfl⟩)

/-- A set's chunks behind its row. -/
def SetIs (w : World) (f si : Int) (s g cap : Nat) (k ppi : Int) (l : List Ck) : Prop :=
  w.heap[s]? = some (.cells #[.int .u16 k, .int .u32 ppi, .slice (some ⟨g, 0, none⟩) l.length cap] 81 (0, 0)) ∧ l.length ≤ cap ∧ (∀ i c, l[i]? = some c → w.cell? ⟨g, i, none⟩ = some (ptr c.b)) ∧ ∀ c ∈ l, CkAt w f si c
/-- A whole set: it begins, it ends, and no number is left out. -/
def Compl (l : List Ck) : Prop := l ≠ [] ∧ (l.getD 0 default).pc.beg = true ∧ (l.getD (l.length - 1) default).pc.fin = true ∧ ∀ j, j + 1 < l.length → (l.getD (j + 1) default).pc.p = (l.getD j default).pc.p + 1

/-- What isComplete hands back. -/
def ComplBack (w : World) (l : List Ck) (e : Ending) (w' : World) : Prop := (∃ r : Bool, e = .returned (.bool r) ∧ (r = true ↔ Compl l)) ∧ w' = w
theorem SetIs.at {w : World} {f si : Int} {s g cap : Nat} {k ppi : Int} {l : List Ck} (h : SetIs w f si s g cap k ppi l) (i : Nat) (hi : i < l.length) :
    w.cell? ⟨g, i, none⟩ = some (ptr (l.getD i default).b) ∧ CkAt w f si (l.getD i default) := by
  have e : l[i]? = some (l.getD i default) := by rw [List.getD_eq_getElem?_getD, List.getElem?_eq_getElem hi]; rfl
  exact ⟨h.2.2.1 i _ e, h.2.2.2 _ (List.mem_of_getElem? e)⟩

set_option maxHeartbeats 1000000 in
theorem hasTSN_no {w : World} {f si : Int} {s g cap : Nat} {k ppi p : Int} {l : List Ck} (h : SetIs w f si s g cap k ppi l) (hp : ∀ c ∈ l, c.pc.p ≠ p) (hpb : 0 ≤ p ∧ p < 5000) (hl : l.length ≤ 100000) :
    Calls Tryd.prog 35 #[ptr s, .int .u32 (U f p)] w fun e w' => e = .returned (.bool false) ∧ w' = w := by
  have H := Lib.hid h; have HP := Lib.hid hp
  have s2 : w.cell? ⟨s, 2, none⟩ = some (.slice (some ⟨g, 0, none⟩) l.length cap) := by rw [cell_of_block h.1]; rfl
  have hcap := h.2.1
  obtain ⟨n, hn⟩ : ∃ n, n = l.length := ⟨_, rfl⟩
  have HN := Lib.hid hn
  rw [← hn] at s2 hcap hl
  obtain ⟨t, ht⟩ : ∃ t, t = U f p := ⟨_, rfl⟩
  have HT := Lib.hid ht
  rw [← ht]
  clear h hp hn ht
  unfold ptr
  go_enter Tryd.func35, Tryd.ntmps35
  go_wp2_with fail
  go_loopw [12] (fun v wr => ∃ j : Nat, j ≤ n ∧ v = .int .i64 j ∧ wr = w) (fun v _ => n - (intOf v).toNat)
  case atStart => exact ⟨0, Nat.zero_le _, rfl, rfl⟩
  case round =>
    obtain ⟨j, hj, rfl, hwr⟩ := hrel
    obtain rfl := hwr.symm
    by_cases hjn : j < n
    · have hjI : (j : Int) < n := by omega
      obtain ⟨hc, hk⟩ := H.out.at j (by rw [← HN.out]; exact hjn)
      unfold ptr at hc
      have c8 := hk.cell 8
      obtain ⟨u, hu⟩ : ∃ u, u = U f (l.getD j default).pc.p := ⟨_, rfl⟩
      have c8 : w.cell? ⟨(l.getD j default).b, 8, none⟩ = some (.int .u32 u) := by rw [c8, hu]; rfl
      obtain ⟨bb, hbb⟩ : ∃ bb, bb = (l.getD j default).b := ⟨_, rfl⟩
      rw [← hbb] at hc c8
      have hne : (u == t) = false := by
        have hm : l.getD j default ∈ l := by
          have hj' : j < l.length := by rw [← HN.out]; exact hjn
          rw [List.getD_eq_getElem?_getD, List.getElem?_eq_getElem hj']; exact List.getElem_mem _
        have h1 := HP.out _ hm
        have h2 := hk.pb
        simp only [beq_eq_false_iff_ne, ne_eq]
        rw [hu, HT.out, U_inj _ _ _ (by omega)]
        exact h1
      have w1j := wraps_i64 ((j : Int) + 1) (by omega) (by omega)
      clear hk hu hbb
      go_wp2_with fail
      go_roundw
      case rel => exact ⟨j + 1, hjn, by go_num, trivial⟩
      case measure => simp [intOf]; omega
    · obtain rfl : j = n := by omega
      have hjj : (j : Int) ≤ j := Int.le_refl _
      go_wp2_with fail
      go_ret
      exact ⟨rfl, rfl⟩

set_option maxHeartbeats 1000000 in
theorem isCompl_any {w : World} {f si : Int} {s g cap : Nat} {k ppi : Int} {l : List Ck} (h : SetIs w f si s g cap k ppi l) (hl : l.length ≤ 100000) :
    Calls Tryd.prog 23 #[ptr s] w (ComplBack w l) := by
  have H := Lib.hid h
  have s2 : w.cell? ⟨s, 2, none⟩ = some (.slice (some ⟨g, 0, none⟩) l.length cap) := by rw [cell_of_block h.1]; rfl
  have hcap := h.2.1
  obtain ⟨n, hn⟩ : ∃ n, n = l.length := ⟨_, rfl⟩
  have HN := Lib.hid hn
  rw [← hn] at s2 hcap hl
  clear h hn
  unfold ptr
  by_cases hn0 : n = 0
  · subst hn0
    go_enter Tryd.func23, Tryd.ntmps23
    go_wp2_with fail
    go_ret
    exact ⟨⟨false, rfl, by simp only [Bool.false_eq_true, false_iff]; intro hc; exact hc.1 (List.eq_nil_of_length_eq_zero HN.out.symm)⟩, rfl⟩
  · have hn1 : 0 < n := by omega
    have hne : ((n : Int) == 0) = false := by simp; omega
    obtain ⟨hc0, hk0⟩ := H.out.at 0 (by rw [← HN.out]; exact hn1)
    have a5 : w.cell? ⟨(l.getD 0 default).b, 5, none⟩ = some (.bool (l.getD 0 default).pc.beg) := hk0.cell 5
    obtain ⟨b0, hb0⟩ : ∃ b0, b0 = (l.getD 0 default).b := ⟨_, rfl⟩
    obtain ⟨bg, hbg⟩ : ∃ bg, bg = (l.getD 0 default).pc.beg := ⟨_, rfl⟩
    rw [← hb0] at hc0 a5
    rw [← hbg] at a5
    unfold ptr at hc0
    obtain ⟨hcz, hkz⟩ := H.out.at (n - 1) (by rw [← HN.out]; omega)
    have z6 : w.cell? ⟨(l.getD (n - 1) default).b, 6, none⟩ = some (.bool (l.getD (n - 1) default).pc.fin) := hkz.cell 6
    obtain ⟨bz, hbz⟩ : ∃ bz, bz = (l.getD (n - 1) default).b := ⟨_, rfl⟩
    obtain ⟨fz, hfz⟩ : ∃ fz, fz = (l.getD (n - 1) default).pc.fin := ⟨_, rfl⟩
    rw [← hbz] at hcz z6
    rw [← hfz] at z6
    unfold ptr at hcz
    have wn1 := wraps_i64 ((n : Int) - 1) (by omega) (by omega)
    have tn1 : ((n : Int) - 1).toNat = n - 1 := by omega
    have HBG := Lib.hid hbg; have HFZ := Lib.hid hfz; have HB0 := Lib.hid hb0
    clear hk0 hkz hb0 hbz hbg hfz
    have hnI : (0 : Int) ≤ (n : Int) - 1 := by omega
    have hnI2 : (n : Int) - 1 < n := by omega
    cases bg with
    | false =>
      go_enter Tryd.func23, Tryd.ntmps23
      go_wp2_with fail
      go_ret
      exact ⟨⟨false, rfl, by simp only [Bool.false_eq_true, false_iff]; intro hc; have := hc.2.1; rw [← HBG.out] at this; cases this⟩, rfl⟩
    | true =>
      cases fz with
      | false =>
        go_enter Tryd.func23, Tryd.ntmps23
        go_wp2_with fail
        go_ret
        exact ⟨⟨false, rfl, by simp only [Bool.false_eq_true, false_iff]; intro hc; have := hc.2.2.1; rw [← HN.out, ← HFZ.out] at this; cases this⟩, rfl⟩
      | true =>
        go_enter Tryd.func23, Tryd.ntmps23
        go_wp2_with fail
        go_loopw [4, 41] (fun v4 v wr => ∃ j : Nat, j ≤ n ∧ v = .int .i64 j ∧ wr = w ∧ (∃ u, v4 = .int .u32 u ∧ (0 < j → u = U f (l.getD (j - 1) default).pc.p)) ∧ ∀ i, i + 1 < j → (l.getD (i + 1) default).pc.p = (l.getD i default).pc.p + 1) (fun _ v _ => n - (intOf v).toNat)
        case atStart => exact ⟨0, Nat.zero_le _, rfl, rfl, ⟨0, rfl, fun h => by omega⟩, fun i hi => by omega⟩
        case round =>
          obtain ⟨j, hj, rfl, hwr, ⟨u, rfl, hu⟩, hcon⟩ := hrel
          obtain rfl := hwr.symm
          by_cases hjn : j < n
          · have hjI : (j : Int) < n := by omega
            obtain ⟨hc, hk⟩ := H.out.at j (by rw [← HN.out]; exact hjn)
            unfold ptr at hc
            obtain ⟨t, ht⟩ : ∃ t, t = U f (l.getD j default).pc.p := ⟨_, rfl⟩
            have c8 : w.cell? ⟨(l.getD j default).b, 8, none⟩ = some (.int .u32 t) := by rw [hk.cell 8, ht]; rfl
            obtain ⟨bb, hbb⟩ : ∃ bb, bb = (l.getD j default).b := ⟨_, rfl⟩
            rw [← hbb] at hc c8
            have w1j := wraps_i64 ((j : Int) + 1) (by omega) (by omega)
            have HT := Lib.hid ht; have HCON := Lib.hid hcon
            by_cases hj0 : j = 0
            · subst hj0
              obtain rfl : b0 = bb := by rw [hbb, HB0.out]
              clear hc
              clear hk ht hbb hu hcon
              go_wp2_with fail
              go_roundw
              case rel => exact ⟨1, hn1, by go_num, trivial, ⟨t, rfl, fun _ => HT.out⟩, fun i hi => by omega⟩
              case measure => simp [intOf]; omega
            · have hjp : (0 : Int) < j := by omega
              have hu' := hu (by omega)
              obtain ⟨hcp, hkp⟩ := H.out.at (j - 1) (by rw [← HN.out]; omega)
              have hpb := hkp.pb; have hpb2 := hk.pb
              have hux : (u + 1) % 4294967296 = U f ((l.getD (j - 1) default).pc.p + 1) := by rw [hu']; unfold U; omega
              obtain ⟨u1, hu1⟩ : ∃ u1, u1 = U f ((l.getD (j - 1) default).pc.p + 1) := ⟨_, rfl⟩
              rw [← hu1] at hux
              by_cases heq : (l.getD j default).pc.p = (l.getD (j - 1) default).pc.p + 1
              · have hne : (t != u1) = false := by rw [ht, hu1, heq]; simp
                have HEQ := Lib.hid heq
                clear hk ht hbb hu hcon hu' hcp hkp hu1 heq hpb hpb2
                go_wp2_with fail
                go_roundw
                case rel =>
                  refine ⟨j + 1, hjn, by go_num, trivial, ⟨t, rfl, fun _ => HT.out⟩, fun i hi => ?_⟩
                  by_cases hij : i + 1 < j
                  · exact HCON.out i hij
                  · obtain rfl : i = j - 1 := by omega
                    rw [show j - 1 + 1 = j by omega]; exact HEQ.out
                case measure => simp [intOf]; omega
              · have hne : (t != u1) = true := by
                  simp only [bne_iff_ne, ne_eq]
                  rw [ht, hu1, U_inj _ _ _ (by omega)]
                  exact heq
                have HEQ := Lib.hid heq
                clear hk ht hbb hu hcon hu' hcp hkp hu1 heq hpb hpb2
                go_wp2_with fail
                go_ret
                refine ⟨⟨false, rfl, ?_⟩, rfl⟩
                simp only [Bool.false_eq_true, false_iff]
                intro hc
                have := hc.2.2.2 (j - 1) (by rw [← HN.out]; omega)
                rw [show j - 1 + 1 = j by omega] at this
                exact HEQ.out this
          · obtain rfl : j = n := by omega
            have hjj : (j : Int) ≤ j := Int.le_refl _
            have HCON := Lib.hid hcon
            clear hu hcon
            go_wp2_with fail
            go_ret
            refine ⟨⟨true, rfl, ?_⟩, rfl⟩
            simp only [true_iff]
            refine ⟨?_, HBG.out.symm, by rw [← HN.out]; exact HFZ.out.symm, fun i hi => HCON.out i (by rw [HN.out]; exact hi)⟩
            rintro rfl
            simp at HN
            exact absurd HN.out hn0
end Go.Proofs.YtmniikihkpikdaaDoor
