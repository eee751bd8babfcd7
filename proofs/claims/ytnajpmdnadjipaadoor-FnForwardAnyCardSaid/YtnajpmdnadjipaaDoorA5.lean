/- Proved here: what spec.IsWhole, laws.isWhole and laws.same return; conditions: as each theorem states. -/
import Derived.Test.YtnajpmdnadjipaaDoorA4
namespace Go.Proofs.YtnajpmdnadjipaaDoor
open Go.RowKit
set_option linter.unusedVariables false

/-- Are bytes whole: a header, and as many as its length tells. -/
def wholeB (l : List Int) : Bool := decide (4 ≤ l.length) && decide (be2 l 2 = l.length)
def isWholeB (l : List Int) : Bool := decide (l.length ≤ 4096) && wholeB l

set_option maxHeartbeats 400000 in
theorem specIsWhole (ao : Option Addr) (n c : Nat) (l : List Int) (w : World) (h : BytesAt w ao n c l) (hn : n ≤ 2147483647) :
    Calls Tryd.prog 22 #[.slice ao n c] w fun e w' => e = .returned (.bool (wholeB l)) ∧ w = w' := by
  have H := Lib.hid h
  by_cases h4 : 4 ≤ n
  · obtain ⟨b, off, rfl, hb, hcell⟩ := h.open (by omega)
    have hC := at2 b off n c l 2 w (by omega) hn h.cap hcell h.byte 2 rfl
    have e : wholeB l = (be2 l 2 == (n : Int)) := by
      unfold wholeB; rw [h.len]; simp [h4, BEq.beq]
    rw [e]
    have HC := Lib.hid hC
    clear hC hcell h e
    go_enter Tryd.func22, Tryd.ntmps22
    go_wp2_with (go_at_call 26; refine HC.out.mono ?_; rintro e w' ⟨rfl, rfl⟩)
    go_ret
    exact ⟨rfl, rfl⟩
  · have e : wholeB l = false := by unfold wholeB; rw [h.len]; simp [h4]
    rw [e]
    clear h e
    go_enter Tryd.func22, Tryd.ntmps22
    go_wp2_with fail
    go_ret
    exact ⟨rfl, rfl⟩

set_option maxHeartbeats 400000 in
theorem lawIsWhole (ao : Option Addr) (n c : Nat) (l : List Int) (w : World) (h : BytesAt w ao n c l) (hn : n ≤ 2147483647) :
    Calls Tryd.prog 9 #[.slice ao n c] w fun e w' => e = .returned (.bool (isWholeB l)) ∧ w = w' := by
  have HC := Lib.hid (specIsWhole ao n c l w h hn)
  by_cases h4 : n ≤ 4096
  · have e : isWholeB l = wholeB l := by unfold isWholeB; rw [h.len]; simp [h4]
    rw [e]
    clear h e
    go_enter Tryd.func9, Tryd.ntmps9
    go_wp2_with (go_at_call 22; refine HC.out.mono ?_; rintro e w' ⟨rfl, rfl⟩)
    go_ret
    exact ⟨rfl, rfl⟩
  · have e : isWholeB l = false := by unfold isWholeB; rw [h.len]; simp [h4]
    rw [e]
    clear h e
    go_enter Tryd.func9, Tryd.ntmps9
    go_wp2_with fail
    go_ret
    exact ⟨rfl, rfl⟩

/-- The string of bytes. -/
def strOf (l : List Int) : ByteArray := l.foldl (fun r n => r.push (UInt8.ofNat n.toNat)) ByteArray.empty
theorem strOf_go (l : List Int) : ∀ s : ByteArray, (l.foldl (fun r n => r.push (UInt8.ofNat n.toNat)) s).data.toList = s.data.toList ++ l.map (fun n => UInt8.ofNat n.toNat) := by
  induction l with
  | nil => intro s; simp
  | cons x l ih => intro s; rw [List.foldl_cons, ih]; simp [ByteArray.push]
theorem strOf_data (l : List Int) : (strOf l).data.toList = l.map (fun n => UInt8.ofNat n.toNat) := by
  unfold strOf; rw [strOf_go]; rfl
theorem map_inj_bytes : ∀ (l r : List Int), (∀ i, 0 ≤ l.getD i 0 ∧ l.getD i 0 < 256) → (∀ i, 0 ≤ r.getD i 0 ∧ r.getD i 0 < 256) →
    l.map (fun n => UInt8.ofNat n.toNat) = r.map (fun n => UInt8.ofNat n.toNat) → l = r := by
  intro l
  induction l with
  | nil => intro r _ _ h; cases r with
    | nil => rfl
    | cons y r => simp at h
  | cons x l ih => intro r hl hr h; cases r with
    | nil => simp at h
    | cons y r =>
      simp only [List.map_cons, List.cons.injEq] at h
      have h0 := hl 0; have h1 := hr 0
      simp only [List.getD_cons_zero] at h0 h1
      have e : x = y := by
        have := congrArg UInt8.toNat h.1
        simp only [UInt8.toNat_ofNat'] at this
        omega
      rw [e, ih r (fun i => by have := hl (i + 1); simpa using this) (fun i => by have := hr (i + 1); simpa using this) h.2]

theorem run_str {w : World} {ao : Option Addr} {n c : Nat} {l : List Int} (h : BytesAt w ao n c l) :
    (convert 22 9 (.slice ao n c)).run Tryd.prog w = .ok (.string (strOf l)) w := by
  rw [run_convert_bytes_string w 22 9 5 ao n c Tryd.underlying22 Tryd.underlying5 Tryd.underlying9]
  cases ao with
  | none =>
    obtain rfl : n = 0 := h.nil rfl
    have : l = [] := List.eq_nil_of_length_eq_zero h.len
    subst this
    rfl
  | some a =>
    refine run_bytesToString w a n c l ?_
    have e : (l.map (Value.int .u8)).length = n := by simp [h.len]
    rw [← e]
    refine run_loadCells_list _ a _ fun j v hv => ?_
    have hj : j < l.length := by have := (List.getElem?_eq_some_iff.1 hv).1; simpa using this
    rw [h.cell a rfl j (by rw [← h.len]; exact hj)]
    rw [List.getElem?_map, List.getElem?_eq_getElem hj] at hv
    rw [← hv]
    simp [List.getD_eq_getElem?_getD, List.getElem?_eq_getElem hj]

set_option maxHeartbeats 400000 in
theorem same_any (ao bo : Option Addr) (n c m k : Nat) (l r : List Int) (w : World) (h : BytesAt w ao n c l) (h' : BytesAt w bo m k r) :
    Calls Tryd.prog 11 #[.slice ao n c, .slice bo m k] w fun e w' => e = .returned (.bool (decide (l = r))) ∧ w = w' := by
  have H := run_str h
  have H' := run_str h'
  have hc : ((strOf l).toList == (strOf r).toList) = decide (l = r) := by
    rw [Bool.eq_iff_iff]
    simp only [beq_iff_eq, decide_eq_true_eq]
    constructor
    · intro e
      rw [ByteArray.toList_eq, ByteArray.toList_eq, strOf_data, strOf_data] at e
      exact map_inj_bytes l r h.byte h'.byte e
    · rintro rfl; rfl
  rw [← hc]
  clear h h' hc
  generalize strOf l = s at *
  generalize strOf r = t at *
  go_enter Tryd.func11, Tryd.ntmps11
  go_wp2_with fail
  go_ret
  exact ⟨rfl, rfl⟩
end Go.Proofs.YtnajpmdnadjipaaDoor
