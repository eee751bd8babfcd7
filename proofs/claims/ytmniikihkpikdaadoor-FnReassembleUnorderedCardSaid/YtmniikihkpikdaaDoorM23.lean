/- Part of the proofs of the three laws on reassembly: what laws.same, laws.zzFits1 and laws.fits return; conditions: as each theorem states. -/
import Derived.Test.YtmniikihkpikdaaDoorM22
import Derived.Laws.BytesString
namespace Go.Proofs.YtmniikihkpikdaaDoor
open Go.RowKit
set_option linter.unusedVariables false

/-- The string of bytes. -/
def strOf (l : List Int) : ByteArray := l.foldl (fun r n => r.push (UInt8.ofNat n.toNat)) ByteArray.empty
theorem strOf_go (l : List Int) : ∀ s : ByteArray, (l.foldl (fun r n => r.push (UInt8.ofNat n.toNat)) s).data.toList = s.data.toList ++ l.map (fun n => UInt8.ofNat n.toNat) := by
  induction l with
  | nil => intro s; simp
  | cons x l ih => intro s; rw [List.foldl_cons, ih]; simp [ByteArray.push]
theorem strOf_data (l : List Int) : (strOf l).data.toList = l.map (fun n => UInt8.ofNat n.toNat) := by
  unfold strOf; rw [strOf_go]; rfl
theorem map_inj_bytes : ∀ (l r : List Int), (∀ i, 0 ≤ l.getD i 0 ∧ l.getD i 0 < 256) → (∀ i, 0 ≤ r.getD i 0 ∧ r.getD i 0 < 256) →
    l.map (fun n => UInt8.ofNat n.toNat) = r.map (fun n => UInt8.ofNat n.toNat) → l = r := by
  intro l
  induction l with
  | nil => intro r _ _ h; cases r with
    | nil => rfl
    | cons y r => simp at h
  | cons x l ih => intro r hl hr h; cases r with
    | nil => simp at h
    | cons y r =>
      simp only [List.map_cons, List.cons.injEq] at h
      have h0 := hl 0; have h1 := hr 0
      simp only [List.getD_cons_zero] at h0 h1
      have e : x = y := by
        have := congrArg UInt8.toNat h.1
        simp only [UInt8.toNat_ofNat'] at this
        omega
      rw [e, ih r (fun i => by have := hl (i + 1); simpa using this) (fun i => by have := hr (i + 1); simpa using this) h.2]

theorem run_str {w : World} {ao : Option Addr} {n c : Nat} {l : List Int} (h : BytesAt w ao n c l) :
    (convert 29 9 (.slice ao n c)).run Tryd.prog w = .ok (.string (strOf l)) w := by
  rw [run_convert_bytes_string w 29 9 5 ao n c Tryd.underlying29 Tryd.underlying5 Tryd.underlying9]
  cases ao with
  | none =>
    obtain rfl : n = 0 := h.nil rfl
    have : l = [] := List.eq_nil_of_length_eq_zero h.len
    subst this
    rfl
  | some a =>
    refine run_bytesToString w a n c l ?_
    have e : (l.map (Value.int .u8)).length = n := by simp [h.len]
    rw [← e]
    refine run_loadCells_list _ a _ fun j v hv => ?_
    have hj : j < l.length := by have := (List.getElem?_eq_some_iff.1 hv).1; simpa using this
    rw [h.cell a rfl j (by rw [← h.len]; exact hj)]
    rw [List.getElem?_map, List.getElem?_eq_getElem hj] at hv
    rw [← hv]
    simp [List.getD_eq_getElem?_getD, List.getElem?_eq_getElem hj]

set_option maxHeartbeats 400000 in
theorem same_any (ao bo : Option Addr) (n c m k : Nat) (l r : List Int) (w : World) (h : BytesAt w ao n c l) (h' : BytesAt w bo m k r) :
    Calls Tryd.prog 11 #[.slice ao n c, .slice bo m k] w fun e w' => e = .returned (.bool (decide (l = r))) ∧ w' = w := by
  have H := run_str h
  have H' := run_str h'
  have hc : ((strOf l).toList == (strOf r).toList) = decide (l = r) := by
    rw [Bool.eq_iff_iff]
    simp only [beq_iff_eq, decide_eq_true_eq]
    constructor
    · intro e
      rw [ByteArray.toList_eq, ByteArray.toList_eq, strOf_data, strOf_data] at e
      exact map_inj_bytes l r h.byte h'.byte e
    · rintro rfl; rfl
  rw [← hc]
  clear h h' hc
  generalize strOf l = s at *
  generalize strOf r = t at *
  go_enter Tryd.func11, Tryd.ntmps11
  go_wp2_with fail
  go_ret
  exact ⟨rfl, rfl⟩

/-- Some truth value, and the memory as it was. -/
def SomeBool (w : World) (P : Prop) (e : Ending) (w' : World) : Prop := ∃ b : Bool, e = .returned (.bool b) ∧ (b = true → P) ∧ w' = w

set_option maxHeartbeats 1000000 in
theorem zzfits_any {w : World} {ao : Option Addr} {n c : Nat} {ms : List (List Int)} (h : MsAt w ao n c ms) : Calls Tryd.prog 6 #[.slice ao n c] w (SomeBool w True) := by
  have H := Lib.hid h
  have hnc := h.cap
  clear h
  by_cases hbig : (2147483647 : Int) < n
  · go_enter Tryd.func6, Tryd.ntmps6
    go_wp2_with fail
    go_ret
    exact ⟨false, rfl, (fun h => by cases h), rfl⟩
  · have hsm : (n : Int) ≤ 2147483647 := by omega
    go_enter Tryd.func6, Tryd.ntmps6
    go_wp2_with fail
    go_loopw [10] (fun vi wr => ∃ j : Nat, j ≤ n ∧ vi = .int .i64 j ∧ wr = w) (fun vi _ => n - (intOf vi).toNat)
    case atStart => exact ⟨0, Nat.zero_le _, rfl, rfl⟩
    case round =>
      obtain ⟨j, hj, rfl, hwr⟩ := hrel
      obtain rfl := hwr.symm
      by_cases hjn : j < n
      · have hjI : (j : Int) < n := by omega
        obtain ⟨g, off, mo, mc, rfl, hcm, _⟩ := H.out.cell j hjn
        obtain ⟨L, hL⟩ : ∃ L, L = (ms.getD j []).length := ⟨_, rfl⟩
        rw [← hL] at hcm
        have hjc : (j : Int) < c := by omega
        have w1j := wraps_i64 ((j : Int) + 1) (by omega) (by omega)
        clear hL
        by_cases hl : (2147483647 : Int) < L
        · go_wp2_with fail
          go_ret
          exact ⟨false, rfl, (fun h => by cases h), rfl⟩
        · have hl' : (L : Int) ≤ 2147483647 := by omega
          go_wp2_with fail
          go_roundw
          case rel => exact ⟨j + 1, by omega, by go_num, trivial⟩
          case measure => simp [intOf]; omega
      · obtain rfl : j = n := by omega
        have hjj : (j : Int) ≤ j := Int.le_refl _
        go_wp2_with fail
        go_ret
        exact ⟨true, rfl, fun _ => trivial, rfl⟩

/-- What it means that messages fit. -/
structure FitsP (st : Int) (ms : List (List Int)) (n : Nat) (sz : Int) (order : List Int) (on : Nat) : Prop where
  hst : 0 ≤ st ∧ st ≤ 65535
  hn : 1 ≤ n ∧ n ≤ 20
  hsz : 1 ≤ sz ∧ sz ≤ 200
  hon : on ≤ 5000
  len : ∀ m ∈ ms, 0 < m.length ∧ m.length ≤ 200
  tot : (upTo ms sz.toNat n).length ≤ 1000
  ord : ∀ o ∈ order, 0 ≤ o

theorem cnt_int (L s : Nat) (hs : 0 < s) : ((L : Int) + s - 1) / s = (cnt L s : Nat) := by
  unfold cnt
  rw [Int.natCast_ediv]
  congr 1
  omega

set_option maxHeartbeats 2000000 in
theorem fits_any {w : World} {ao oo : Option Addr} {n c on oc : Nat} {ms : List (List Int)} {order : List Int} {st sz : Int} (h : MsAt w ao n c ms) (ho : IntsAt w oo on oc order) :
    Calls Tryd.prog 7 #[.int .i64 st, .slice ao n c, .int .i64 sz, .slice oo on oc] w (SomeBool w (FitsP st ms n sz order on)) := by
  have H := Lib.hid h; have HO := Lib.hid ho
  have hnc := h.cap
  have hoc := ho.cap
  clear h ho
  have bye : ∀ P : Prop, SomeBool w P (.returned (.bool false)) w := fun P => ⟨false, rfl, (fun h => by cases h), rfl⟩
  have BYE := Lib.hid bye
  clear bye
  by_cases h1 : st < 0
  · go_enter Tryd.func7, Tryd.ntmps7
    go_wp2_with fail
    go_ret
    exact BYE.out _
  by_cases h2 : 65535 < st
  · go_enter Tryd.func7, Tryd.ntmps7
    go_wp2_with fail
    go_ret
    exact BYE.out _
  by_cases h3 : (n : Int) < 1
  · go_enter Tryd.func7, Tryd.ntmps7
    go_wp2_with fail
    go_ret
    exact BYE.out _
  by_cases h4 : (20 : Int) < n
  · go_enter Tryd.func7, Tryd.ntmps7
    go_wp2_with fail
    go_ret
    exact BYE.out _
  by_cases h5 : sz < 1
  · go_enter Tryd.func7, Tryd.ntmps7
    go_wp2_with fail
    go_ret
    exact BYE.out _
  by_cases h6 : 200 < sz
  · go_enter Tryd.func7, Tryd.ntmps7
    go_wp2_with fail
    go_ret
    exact BYE.out _
  by_cases h7 : (5000 : Int) < on
  · go_enter Tryd.func7, Tryd.ntmps7
    go_wp2_with fail
    go_ret
    exact BYE.out _
  obtain ⟨s, hs⟩ : ∃ s : Nat, sz = s := ⟨sz.toNat, by omega⟩
  subst hs
  have hs0 : 0 < s := by omega
  have hs1 : s ≤ 200 := by omega
  have hn1 : 1 ≤ n := by omega
  have hn20 : n ≤ 20 := by omega
  have hon : on ≤ 5000 := by omega
  have hsI : (0 : Int) < s := by omega
  have hsne : ¬ (s : Int) = 0 := by omega
  go_enter Tryd.func7, Tryd.ntmps7
  go_wp2_with fail
  go_loopw [9, 45] (fun v9 vi wr => ∃ j : Nat, j ≤ n ∧ vi = .int .i64 j ∧ wr = w ∧ v9 = .int .i64 ((upTo ms s j).length : Nat) ∧ (upTo ms s j).length ≤ 200 * j ∧ ∀ m ∈ ms.take j, 0 < m.length ∧ m.length ≤ 200) (fun _ vi _ => n - (intOf vi).toNat)
  case atStart => exact ⟨0, Nat.zero_le _, rfl, rfl, rfl, Nat.le_refl _, fun m hm => by simp at hm⟩
  case round =>
    obtain ⟨j, hj, rfl, hwr, rfl, hul, hml⟩ := hrel
    obtain rfl := hwr.symm
    obtain ⟨tt, htt⟩ : ∃ tt, tt = (upTo ms s j).length := ⟨_, rfl⟩
    have HTT := Lib.hid htt; have HML := Lib.hid hml
    rw [← htt] at hul ⊢
    have htb : tt ≤ 4000 := by omega
    clear htt hml
    by_cases hjn : j < n
    · have hjI : (j : Int) < n := by omega
      obtain ⟨g, off, mo, mc, rfl, hcm, _⟩ := H.out.cell j hjn
      obtain ⟨L, hL⟩ : ∃ L, L = (ms.getD j []).length := ⟨_, rfl⟩
      have HL := Lib.hid hL
      rw [← hL] at hcm
      have hjc : (j : Int) < c := by omega
      have w1j := wraps_i64 ((j : Int) + 1) (by omega) (by omega)
      clear hL
      by_cases hl0 : (L : Int) < 1
      · go_wp2_with fail
        go_ret
        exact BYE.out _
      by_cases hl : (200 : Int) < L
      · go_wp2_with fail
        go_ret
        exact BYE.out _
      have hl1 : L ≤ 200 := by omega
      have hcl := cnt_le (L := L) (s := s) hs0
      obtain ⟨ct, hct⟩ : ∃ ct, ct = cnt L s := ⟨_, rfl⟩
      have hq := cnt_int L s hs0
      rw [← hct] at hq hcl
      have HCT := Lib.hid hct
      have wls := wraps_i64 ((L : Int) + s) (by omega) (by omega)
      have wls1 := wraps_i64 ((L : Int) + s - 1) (by omega) (by omega)
      have wtt := wraps_i64 ((tt : Int) + ct) (by omega) (by omega)
      clear hct
      go_wp2_with fail
      go_roundw
      case rel =>
        have e : (upTo ms s (j + 1)).length = tt + ct := by
          show (upTo ms s j ++ msgPcs _ _ _ _).length = _
          rw [List.length_append, msgPcs_len, ← HTT.out, HCT.out, HL.out]
        refine ⟨j + 1, by omega, by go_num, trivial, by rw [e]; go_num, by rw [e]; omega, fun m hm => ?_⟩
        have hjm : j < ms.length := by rw [H.out.len]; exact hjn
        rw [List.take_succ_eq_append_getElem hjm] at hm
        rcases List.mem_append.1 hm with hm | hm
        · exact HML.out m hm
        · obtain rfl := List.mem_singleton.1 hm
          have := HL.out
          rw [List.getD_eq_getElem?_getD, List.getElem?_eq_getElem hjm, Option.getD_some] at this
          omega
      case measure => simp [intOf]; omega
    · obtain rfl : j = n := by omega
      have hjj : (j : Int) ≤ j := Int.le_refl _
      by_cases hbig : (1000 : Int) < tt
      · go_wp2_with fail
        go_ret
        exact BYE.out _
      have hsm : (tt : Int) ≤ 1000 := by omega
      go_wp2_with fail
      go_loopw [71] (fun vi wr => ∃ i : Nat, i ≤ on ∧ vi = .int .i64 i ∧ wr = w ∧ ∀ o ∈ order.take i, 0 ≤ o) (fun vi _ => on - (intOf vi).toNat)
      case atStart => exact ⟨0, Nat.zero_le _, rfl, rfl, fun o ho => by simp at ho⟩
      case round =>
        obtain ⟨i, hi, rfl, hwr, hpos⟩ := hrel
        obtain rfl := hwr.symm
        have HP := Lib.hid hpos
        clear hpos
        by_cases hin : i < on
        · have hiI : (i : Int) < on := by omega
          obtain ⟨gb, off, rfl, hgc, hcell⟩ := HO.out.open (by omega)
          have c0 := hcell i hin
          obtain ⟨o, ho⟩ : ∃ o, o = order.getD i 0 := ⟨_, rfl⟩
          rw [← ho] at c0
          have HOO := Lib.hid ho
          have hic : (i : Int) < oc := by omega
          have w1i := wraps_i64 ((i : Int) + 1) (by omega) (by omega)
          clear hcell ho
          by_cases ho0 : o < 0
          · go_wp2_with fail
            go_ret
            exact BYE.out _
          have ho1 : 0 ≤ o := by omega
          go_wp2_with fail
          go_roundw
          case rel =>
            refine ⟨i + 1, by omega, by go_num, trivial, fun x hx => ?_⟩
            have hil : i < order.length := by rw [HO.out.len]; exact hin
            rw [List.take_succ_eq_append_getElem hil] at hx
            rcases List.mem_append.1 hx with hx | hx
            · exact HP.out x hx
            · obtain rfl := List.mem_singleton.1 hx
              have := HOO.out
              rw [List.getD_eq_getElem?_getD, List.getElem?_eq_getElem hil, Option.getD_some] at this
              omega
          case measure => simp [intOf]; omega
        · obtain rfl : i = on := by omega
          have hii : (i : Int) ≤ i := Int.le_refl _
          go_wp2_with fail
          go_ret
          refine ⟨true, rfl, fun _ => ⟨by omega, by omega, by omega, by omega, ?_, ?_, ?_⟩, rfl⟩
          · have := HML.out
            rwa [← H.out.len, List.take_length] at this
          · rw [Int.toNat_natCast, ← HTT.out]; omega
          · have := HP.out
            rwa [← HO.out.len, List.take_length] at this
end Go.Proofs.YtmniikihkpikdaaDoor
