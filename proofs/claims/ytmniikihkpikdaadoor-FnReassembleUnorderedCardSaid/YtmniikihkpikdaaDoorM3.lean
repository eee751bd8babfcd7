/- Part of the proofs of the three laws on reassembly: rows of pointers sorted; conditions: as each theorem states. -/
import Derived.Test.YtmniikihkpikdaaDoorM2
import Derived.Test.YtmniikihkpikdaaDoorL1
import Derived.Shelf.GgSortFunc.Tiny
import Derived.Sort.LotA
import Derived.Lib.RowBridge
namespace Go.Proofs.YtmniikihkpikdaaDoor
open Go.RowKit Go.Lib Go.Sort
open Go.Shelf (Ren)
set_option linter.unusedVariables false

theorem heap_putRow_same {α : Type} [Inhabited α] {enc : α → Value} {w : World} {g off : Nat} {d : Array α} {cs : Array Value} {T : TypeId} {fr : Nat × Nat} (h : w.heap[g]? = some (.cells cs T fr)) :
    (putRow enc w g off d).heap[g]? = some (.cells (putCells enc off d cs) T fr) := by
  unfold putRow mapBlock
  simp [Array.getElem?_modify, h, onCells]
theorem heap_putRow_other {α : Type} [Inhabited α] {enc : α → Value} {w : World} {g k off : Nat} {d : Array α} (h : k ≠ g) : (putRow enc w g off d).heap[k]? = w.heap[k]? := by
  unfold putRow mapBlock
  simp [Array.getElem?_modify, Ne.symm h]
theorem heap_grow_at {w : World} {os : Array Obj} {k : Nat} {o : Obj} (h : w.heap[k]? = some o) : (grow w os).heap[k]? = some o := by
  unfold grow
  have := (Array.getElem?_eq_some_iff.1 h).1
  show (w.heap ++ os)[k]? = _
  rw [Array.getElem?_append_left this]; exact h
theorem putCells_take {α : Type} [Inhabited α] (enc : α → Value) (d : Array α) (cs : Array Value) (h : d.size ≤ cs.size) : (putCells enc 0 d cs).toList.take d.size = d.toList.map enc := by
  apply List.ext_getElem?
  intro k
  by_cases hk : k < d.size
  · rw [List.getElem?_take_of_lt hk, List.getElem?_map, Array.getElem?_toList, Array.getElem?_toList]
    unfold putCells
    rw [Array.getElem?_mapIdx]
    have hc : k < cs.size := by omega
    rw [Array.getElem?_eq_getElem hc, Array.getElem?_eq_getElem hk]
    simp [hk]
  · rw [List.getElem?_eq_none (by simp; omega), List.getElem?_eq_none (by simp; omega)]

/-- Behind a sort: the row holds what it is told to hold; all else that was there is as it was. -/
theorem sorted_row {α : Type} [Inhabited α] {enc : α → Value} {B e n cap g q : Nat} {w : World} {xs : List Value} {d : Array α} {o : Obj} {os : Array Obj}
    (h : w.ownsRow B e 1 (.slice (some ⟨g, 0, none⟩) n cap) n xs) (hd : d.size = n) :
    (grow (putRow enc (Sort.ahead (w.alloc o) q) g 0 d) os).ownsRow B e 1 (.slice (some ⟨g, 0, none⟩) n cap) n (d.toList.map enc) ∧ Mod (· = g) w (grow (putRow enc (Sort.ahead (w.alloc o) q) g 0 d) os) := by
  rcases h.2 with ⟨h0, _⟩ | ⟨g', cap', cs, e', hb, hg, hnc, hcm, hcs, htk⟩
  · cases h0
  · obtain ⟨rfl, rfl⟩ : g = g' ∧ cap = cap' := by simpa using e'
    have hlt : g < w.heap.size := (Array.getElem?_eq_some_iff.1 hg).1
    have hA : (Sort.ahead (w.alloc o) q).heap[g]? = some (.cells cs e (0, 0)) := (heap_alloc_old w o hlt).trans hg
    refine ⟨⟨by simp [hd], .inr ⟨g, cap, _, rfl, hb, heap_grow_at (heap_putRow_same hA), hnc, hcm, by simpa [putCells] using hcs, ?_⟩⟩, ⟨rfl, rfl, rfl, ?_, fun k hk hS => ?_⟩⟩
    · rw [Nat.mul_one, ← hd]; exact putCells_take enc d cs (by rw [hcs, Nat.mul_one]; omega)
    · rw [size_grow, size_putRow, heap_ahead]; simp; omega
    · have hk' : w.heap[k]? = some w.heap[k] := Array.getElem?_eq_getElem hk
      rw [hk']
      refine heap_grow_at ?_
      rw [heap_putRow_other hS, heap_ahead]
      exact (heap_alloc_old w o hk).trans hk'
theorem grown_tiny {w : World} {o : Obj} {os : Array Obj} : Mod (fun _ => False) w (grow (w.alloc o) os) := by
  refine ⟨rfl, rfl, rfl, ?_, fun k hk _ => ?_⟩
  · rw [size_grow]; simp; omega
  · have hk' : w.heap[k]? = some w.heap[k] := Array.getElem?_eq_getElem hk
    rw [hk']
    exact heap_grow_at ((heap_alloc_old w o hk).trans hk')

theorem fin_perm {β : Type} {m : Nat} (l : List β) (hm : m = l.length) (d d' : Array (Fin m)) (hd : d = Array.ofFn id) (get : Fin m → β) (hget : ∀ i, l[i.val]? = some (get i)) (hp : (d'.extract 0 m).toList.Perm (d.extract 0 m).toList) (hs : d'.size = m) :
    (d'.toList.map get).Perm l := by
  have ex : ∀ a : Array (Fin m), a.size = m → a.extract 0 m = a := fun a ha => by have := @Array.extract_size _ a; rwa [ha] at this
  have e1 := ex d' hs
  have hds : d.size = m := by rw [hd]; simp
  have e2 := ex d hds
  rw [e1, e2] at hp
  refine (hp.map get).trans ?_
  have : d.toList.map get = l := by
    apply List.ext_getElem?
    intro k
    rw [List.getElem?_map, Array.getElem?_toList, hd, Array.getElem?_ofFn]
    by_cases hk : k < m
    · rw [dif_pos hk]; simp [hget ⟨k, hk⟩]
    · rw [dif_neg hk, List.getElem?_eq_none (by omega)]; rfl
  rw [this]

/-- A row of pointers. -/
def ptr (b : Nat) : Value := .pointer (some ⟨b, 0, none⟩)

noncomputable def si61 : TypeInfo := (Tryd.prog.info? 61).get (by kernel_rfl)
noncomputable def si51 : TypeInfo := (Tryd.prog.info? 51).get (by kernel_rfl)
theorem sk51 (n : Nat) (h2 : 2 ≤ n) : Lib.swapperK n si51 22 = 3 := by
  have a : si51.hasPointers = true := by kernel_rfl
  have b : si51.bytes = 8 := by kernel_rfl
  have c : (n == 0) = false := by simp; omega
  have d : (n == 1) = false := by simp; omega
  simp [Lib.swapperK, a, b, c, d]

set_option maxHeartbeats 1000000 in
theorem less46 {W : World} {blk n c Bs i j bi bj : Nat} {f p q : Int} (hs : W.cell? ⟨Bs, 0, none⟩ = some (.slice (some ⟨blk, 0, none⟩) n c)) (hi : i < n) (hj : j < n)
    (ci : W.cell? ⟨blk, i, none⟩ = some (.pointer (some ⟨bi, 0, none⟩))) (cj : W.cell? ⟨blk, j, none⟩ = some (.pointer (some ⟨bj, 0, none⟩)))
    (ti : W.cell? ⟨bi, 8, none⟩ = some (.int .u32 (U f p))) (tj : W.cell? ⟨bj, 8, none⟩ = some (.int .u32 (U f q))) (hpq : -100000 ≤ p - q ∧ p - q ≤ 100000) :
    Calls Tryd.prog 46 #[.int .i64 i, .int .i64 j, .pointer (some ⟨Bs, 0, none⟩)] W fun e w' => e = .returned (.bool (decide (p < q))) ∧ ∃ k, w' = W.drewN k := by
  have HL := fun w => lt32 f p q w hpq
  obtain ⟨t, ht⟩ : ∃ t, t = U f p := ⟨_, rfl⟩
  obtain ⟨u, hu⟩ : ∃ u, u = U f q := ⟨_, rfl⟩
  rw [← ht] at ti; rw [← hu] at tj
  rw [← ht, ← hu] at HL
  clear ht hu
  go_enter Tryd.func46, Tryd.ntmps46
  go_wp2_with fail
  go_quiet (exact Calls.quiet_of_same (HL _))
  go_wp2
  go_ret
  exact ⟨rfl, nq, rfl⟩

set_option maxHeartbeats 1000000 in
set_option maxRecDepth 20000 in
/-- The row of pointers is sorted by what stands at each block. -/
theorem sortTSN {w : World} {B g cap : Nat} {f : Int} {bs : List (Nat × Int)} (hrow : w.ownsRow B 51 1 (.slice (some ⟨g, 0, none⟩) bs.length cap) bs.length (bs.map fun x => ptr x.1))
    (hc : ∀ x ∈ bs, x.1 ≠ g ∧ w.cell? ⟨x.1, 8, none⟩ = some (.int .u32 (U f x.2))) (hb : ∀ x ∈ bs, 0 ≤ x.2 ∧ x.2 < 50000) (hlen : bs.length ≤ 100000) :
    Calls Tryd.prog 31 #[.slice (some ⟨g, 0, none⟩) bs.length cap] w fun e w' => e = .returned (.tuple #[]) ∧
      ∃ bs' : List (Nat × Int), bs'.Perm bs ∧ bs'.Pairwise (fun x y => x.2 ≤ y.2) ∧ w'.ownsRow B 51 1 (.slice (some ⟨g, 0, none⟩) bs.length cap) bs.length (bs'.map fun x => ptr x.1) ∧ Mod (· = g) w w' := by
  obtain ⟨m, hm⟩ : ∃ m, m = bs.length := ⟨_, rfl⟩
  have hRow := hrow
  rcases hrow.2 with ⟨h0, _⟩ | ⟨g', cap', cs, e', hBg, hg, hnc, hcm, hcs, htk⟩
  · cases h0
  obtain ⟨rfl, rfl⟩ : g = g' ∧ cap = cap' := by simpa using e'
  have hlt : g < w.heap.size := (Array.getElem?_eq_some_iff.1 hg).1
  have hcell : ∀ k x, bs[k]? = some x → w.cell? ⟨g, k, none⟩ = some (ptr x.1) := by
    intro k x hx
    have hk : k < bs.length := (List.getElem?_eq_some_iff.1 hx).1
    rw [cell_of_block hg]
    have : (cs.toList.take (bs.length * 1))[k]? = some (ptr x.1) := by rw [htk, List.getElem?_map, hx]; rfl
    rw [List.getElem?_take_of_lt (by omega), Array.getElem?_toList] at this
    exact this
  rw [← hm] at hRow hlen ⊢
  have HM := Lib.hid hm
  clear hm
  by_cases h2 : 2 ≤ m
  · haveI : Inhabited (Fin m) := ⟨⟨0, by omega⟩⟩
    let get : Fin m → Nat × Int := fun i => bs[i.val]'(by have := HM.out; omega)
    have hget : ∀ i : Fin m, bs[i.val]? = some (get i) := fun i => List.getElem?_eq_getElem _
    have hmem : ∀ i : Fin m, get i ∈ bs := fun i => List.getElem_mem _
    let enc : Fin m → Value := fun i => ptr (get i).1
    let lt : Fin m → Fin m → Bool := fun i j => decide ((get i).2 < (get j).2)
    have hO : SWO lt := ⟨fun x => by simp [lt], fun x y z h1 h2 => by simp only [lt, decide_eq_true_eq] at h1 h2 ⊢; omega, fun x y z h1 h2 => by simp only [lt, decide_eq_false_iff_not] at h1 h2 ⊢; omega⟩
    obtain ⟨d, hd⟩ : ∃ d : Array (Fin m), d = Array.ofFn id := ⟨_, rfl⟩
    have hds : d.size = m := by rw [hd]; simp
    have hdk : ∀ k (hk : k < m), d[k]! = ⟨k, hk⟩ := by
      intro k hk
      rw [getElem!_pos _ _ (by rw [hds]; exact hk)]
      simp [hd]
    obtain ⟨o, ho⟩ : ∃ o, o = Obj.cells #[.slice (some ⟨g, 0, none⟩) m cap] 61 := ⟨_, rfl⟩
    have hH : Holds enc w g 0 d := by
      intro k hk
      rw [hds] at hk
      rw [hdk k hk, Nat.zero_add]
      exact ⟨hcell k _ (hget ⟨k, hk⟩), frozen_of_block hg⟩
    have hH1 : Holds enc (w.alloc o) g 0 d := by rw [alloc_eq_grow]; exact holds_grow _ w _ g 0 d hlt hH
    have hb1 : g < (w.alloc o).heap.size := by rw [alloc_eq_grow, size_grow]; omega
    have hless : LessReads Tryd.prog 46 #[.pointer (some ⟨w.heap.size, 0, none⟩)] enc lt g 0 d.size (w.alloc o) := by
      intro q os dk hs i j hi hj
      have e : sortWorld enc (w.alloc o) g 0 q dk os = putRow enc (grow (Sort.ahead (w.alloc o) q) os) g 0 dk := by
        unfold sortWorld; rw [putRow_grow _ (Sort.ahead (w.alloc o) q) _ g 0 _ hb1]
      have hHg : Holds enc (grow (Sort.ahead (w.alloc o) q) os) g 0 d := holds_grow _ _ _ g 0 d hb1 (holds_ahead _ _ _ _ _ _ hH1)
      have old : ∀ a : Addr, a.block ≠ g → a.block < (w.alloc o).heap.size → (sortWorld enc (w.alloc o) g 0 q dk os).cell? a = (w.alloc o).cell? a := by
        intro a ha hlt'
        rw [e, cell?_putRow_other _ _ g 0 dk _ (Or.inl ha), cell?_grow _ _ _ (by show a.block < (Sort.ahead (w.alloc o) q).heap.size; exact hlt')]
        rfl
      have row : ∀ k, k < m → (sortWorld enc (w.alloc o) g 0 q dk os).cell? ⟨g, k, none⟩ = some (ptr (get dk[k]!).1) := by
        intro k hk
        rw [e]
        have := cell?_putRow enc _ g 0 d dk hHg hs k (by omega)
        rwa [Nat.zero_add] at this
      have key : ∀ x : Fin m, (sortWorld enc (w.alloc o) g 0 q dk os).cell? ⟨(get x).1, 8, none⟩ = some (.int .u32 (U f (get x).2)) := by
        intro x
        obtain ⟨h1, h2⟩ := hc _ (hmem x)
        have hlt' := lt_of_cell h2
        rw [old _ h1 (by rw [alloc_eq_grow, size_grow]; exact Nat.lt_add_right _ hlt')]
        exact cell_alloc h2 o
      have b1 := hb _ (hmem dk[i]!)
      have b2 := hb _ (hmem dk[j]!)
      refine less46 (n := m) (c := cap) (f := f) ?_ (by omega) (by omega) (row i (by omega)) (row j (by omega)) (key _) (key _) (by omega)
      rw [old _ (by show w.heap.size ≠ g; omega) (by rw [alloc_eq_grow, size_grow]; simp)]
      rw [cell_of_block (heap_new w o |>.trans (by rw [ho]))]
      rfl
    have hS := Any.sort_Slice_sorted Tryd.sl6 61 51 si61 si51 (by kernel_rfl) (by kernel_rfl) (by kernel_rfl) (by kernel_rfl) 22 (fun _ => by kernel_rfl) (by kernel_rfl) (fun _ => by kernel_rfl) enc (fun _ => rfl) lt hO 46 _
      (enters_of Tryd.func46 (by kernel_rfl) rfl) g 0 cap d (by omega) (by omega) 65 (by rw [sk51 _ (by omega)]; kernel_rfl) true
      (fun args W => run_callFunc_extern Tryd.func65 (by kernel_rfl) (by kernel_rfl) (by kernel_rfl) (e := Extern.ReflectliteSwapper.swap true) (by kernel_rfl) args W) _ hless hH1 hb1
    rw [hds, ho] at hS
    change Calls Tryd.prog 45 _ _ _ at hS
    have HS := Lib.hid hS
    have HDS := Lib.hid hds; have HD := Lib.hid hd; have HG := Lib.hid hget; have HRow := Lib.hid hRow
    clear hless hH1 hH hS hcell hdk hds hd hget hRow hrow htk hcs hg ho
    go_enter Tryd.func31, Tryd.ntmps31
    go_wp2_with (go_at_call 45; refine HS.out.mono ?_; rintro e w' ⟨rfl, d', nn, os, hp, hso, rfl⟩)
    go_end0
    have hs' : d'.size = m := hp.1.trans HDS.out
    have hown := sorted_row (enc := enc) (o := .cells #[.slice (some ⟨g, 0, none⟩) m cap] 61) (q := nn) (os := os) HRow.out hs'
    refine ⟨rfl, d'.toList.map get, ?_, ?_, ?_, hown.2⟩
    · exact fin_perm bs HM.out d d' HD.out get HG.out hp.2.2 hs'
    · rw [List.pairwise_map, List.pairwise_iff_getElem]
      intro i j hi hj hij
      have := hso i j (Nat.zero_le _) hij (by rw [← hs']; simpa using hj)
      rw [getElem!_pos _ _ (by simpa using hj), getElem!_pos _ _ (by simpa using hi)] at this
      simp only [lt, decide_eq_false_iff_not] at this
      simp only [Array.getElem_toList]
      omega
    · rw [List.map_map]; exact hown.1
  · have hK : Lib.swapperK m si51 22 = m + 1 := by
      rcases Nat.eq_zero_or_pos m with h | h
      · subst h; simp [Lib.swapperK]
      · obtain rfl : m = 1 := by omega
        simp [Lib.swapperK]
    have hS := fun W => Any.sort_Slice_tiny Tryd.sl6 61 51 si61 si51 (by kernel_rfl) (by kernel_rfl) (by kernel_rfl) (by kernel_rfl) 22 (fun _ => by kernel_rfl) (some ⟨g, 0, none⟩) m cap (by omega) (63 + m) (by
      rw [hK]
      rcases Nat.eq_zero_or_pos m with h | h
      · subst h; kernel_rfl
      · obtain rfl : m = 1 := by omega
        kernel_rfl) (.func 46) #[] #[.pointer (some ⟨w.heap.size, 0, none⟩)] W
    change ∀ W, Calls Tryd.prog 45 _ _ _ at hS
    have HS := Lib.hid hS
    have HRow := Lib.hid hRow
    clear hS hcell hRow hrow htk hcs hg
    go_enter Tryd.func31, Tryd.ntmps31
    go_wp2_with (go_at_call 45; refine (HS.out _).mono ?_; rintro e w' ⟨rfl, os, rfl⟩)
    go_end0
    have hM := grown_tiny (w := w) (o := .cells #[.slice (some ⟨g, 0, none⟩) m cap] 61) (os := os)
    refine ⟨rfl, bs, List.Perm.refl _, ?_, owned_mod HRow.out hM, hM.mono (fun _ h => h.elim)⟩
    have hm := HM.out
    match bs, hm with
    | [], _ => exact List.Pairwise.nil
    | [x], _ => simp
    | x :: y :: r, hm => simp at hm; omega

noncomputable def si58 : TypeInfo := (Tryd.prog.info? 58).get (by kernel_rfl)
noncomputable def si72 : TypeInfo := (Tryd.prog.info? 72).get (by kernel_rfl)
theorem sk72 (n : Nat) (h2 : 2 ≤ n) : Lib.swapperK n si72 22 = 3 := by
  have a : si72.hasPointers = true := by kernel_rfl
  have b : si72.bytes = 8 := by kernel_rfl
  have c : (n == 0) = false := by simp; omega
  have d : (n == 1) = false := by simp; omega
  simp [Lib.swapperK, a, b, c, d]

set_option maxHeartbeats 1000000 in
theorem less48 {W : World} {blk n c Bs i j bi bj : Nat} {p q : Int} (hs : W.cell? ⟨Bs, 0, none⟩ = some (.slice (some ⟨blk, 0, none⟩) n c)) (hi : i < n) (hj : j < n)
    (ci : W.cell? ⟨blk, i, none⟩ = some (.pointer (some ⟨bi, 0, none⟩))) (cj : W.cell? ⟨blk, j, none⟩ = some (.pointer (some ⟨bj, 0, none⟩)))
    (ti : W.cell? ⟨bi, 0, none⟩ = some (.int .u16 p)) (tj : W.cell? ⟨bj, 0, none⟩ = some (.int .u16 q)) (hpq : (0 ≤ p ∧ p < 30000) ∧ (0 ≤ q ∧ q < 30000)) :
    Calls Tryd.prog 48 #[.int .i64 i, .int .i64 j, .pointer (some ⟨Bs, 0, none⟩)] W fun e w' => e = .returned (.bool (decide (p < q))) ∧ ∃ k, w' = W.drewN k := by
  have HL := fun w => lt16 p q w hpq.1 hpq.2
  go_enter Tryd.func48, Tryd.ntmps48
  go_wp2_with fail
  go_quiet (exact Calls.quiet_of_same (HL _))
  go_wp2
  go_ret
  exact ⟨rfl, nq, rfl⟩

set_option maxHeartbeats 1000000 in
set_option maxRecDepth 20000 in
/-- The row of pointers is sorted by what stands at each block. -/
theorem sortSSN {w : World} {B g cap : Nat}  {bs : List (Nat × Int)} (hrow : w.ownsRow B 72 1 (.slice (some ⟨g, 0, none⟩) bs.length cap) bs.length (bs.map fun x => ptr x.1))
    (hc : ∀ x ∈ bs, x.1 ≠ g ∧ w.cell? ⟨x.1, 0, none⟩ = some (.int .u16 x.2)) (hb : ∀ x ∈ bs, 0 ≤ x.2 ∧ x.2 < 30000) (hlen : bs.length ≤ 100000) :
    Calls Tryd.prog 38 #[.slice (some ⟨g, 0, none⟩) bs.length cap] w fun e w' => e = .returned (.tuple #[]) ∧
      ∃ bs' : List (Nat × Int), bs'.Perm bs ∧ bs'.Pairwise (fun x y => x.2 ≤ y.2) ∧ w'.ownsRow B 72 1 (.slice (some ⟨g, 0, none⟩) bs.length cap) bs.length (bs'.map fun x => ptr x.1) ∧ Mod (· = g) w w' := by
  obtain ⟨m, hm⟩ : ∃ m, m = bs.length := ⟨_, rfl⟩
  have hRow := hrow
  rcases hrow.2 with ⟨h0, _⟩ | ⟨g', cap', cs, e', hBg, hg, hnc, hcm, hcs, htk⟩
  · cases h0
  obtain ⟨rfl, rfl⟩ : g = g' ∧ cap = cap' := by simpa using e'
  have hlt : g < w.heap.size := (Array.getElem?_eq_some_iff.1 hg).1
  have hcell : ∀ k x, bs[k]? = some x → w.cell? ⟨g, k, none⟩ = some (ptr x.1) := by
    intro k x hx
    have hk : k < bs.length := (List.getElem?_eq_some_iff.1 hx).1
    rw [cell_of_block hg]
    have : (cs.toList.take (bs.length * 1))[k]? = some (ptr x.1) := by rw [htk, List.getElem?_map, hx]; rfl
    rw [List.getElem?_take_of_lt (by omega), Array.getElem?_toList] at this
    exact this
  rw [← hm] at hRow hlen ⊢
  have HM := Lib.hid hm
  clear hm
  by_cases h2 : 2 ≤ m
  · haveI : Inhabited (Fin m) := ⟨⟨0, by omega⟩⟩
    let get : Fin m → Nat × Int := fun i => bs[i.val]'(by have := HM.out; omega)
    have hget : ∀ i : Fin m, bs[i.val]? = some (get i) := fun i => List.getElem?_eq_getElem _
    have hmem : ∀ i : Fin m, get i ∈ bs := fun i => List.getElem_mem _
    let enc : Fin m → Value := fun i => ptr (get i).1
    let lt : Fin m → Fin m → Bool := fun i j => decide ((get i).2 < (get j).2)
    have hO : SWO lt := ⟨fun x => by simp [lt], fun x y z h1 h2 => by simp only [lt, decide_eq_true_eq] at h1 h2 ⊢; omega, fun x y z h1 h2 => by simp only [lt, decide_eq_false_iff_not] at h1 h2 ⊢; omega⟩
    obtain ⟨d, hd⟩ : ∃ d : Array (Fin m), d = Array.ofFn id := ⟨_, rfl⟩
    have hds : d.size = m := by rw [hd]; simp
    have hdk : ∀ k (hk : k < m), d[k]! = ⟨k, hk⟩ := by
      intro k hk
      rw [getElem!_pos _ _ (by rw [hds]; exact hk)]
      simp [hd]
    obtain ⟨o, ho⟩ : ∃ o, o = Obj.cells #[.slice (some ⟨g, 0, none⟩) m cap] 58 := ⟨_, rfl⟩
    have hH : Holds enc w g 0 d := by
      intro k hk
      rw [hds] at hk
      rw [hdk k hk, Nat.zero_add]
      exact ⟨hcell k _ (hget ⟨k, hk⟩), frozen_of_block hg⟩
    have hH1 : Holds enc (w.alloc o) g 0 d := by rw [alloc_eq_grow]; exact holds_grow _ w _ g 0 d hlt hH
    have hb1 : g < (w.alloc o).heap.size := by rw [alloc_eq_grow, size_grow]; omega
    have hless : LessReads Tryd.prog 48 #[.pointer (some ⟨w.heap.size, 0, none⟩)] enc lt g 0 d.size (w.alloc o) := by
      intro q os dk hs i j hi hj
      have e : sortWorld enc (w.alloc o) g 0 q dk os = putRow enc (grow (Sort.ahead (w.alloc o) q) os) g 0 dk := by
        unfold sortWorld; rw [putRow_grow _ (Sort.ahead (w.alloc o) q) _ g 0 _ hb1]
      have hHg : Holds enc (grow (Sort.ahead (w.alloc o) q) os) g 0 d := holds_grow _ _ _ g 0 d hb1 (holds_ahead _ _ _ _ _ _ hH1)
      have old : ∀ a : Addr, a.block ≠ g → a.block < (w.alloc o).heap.size → (sortWorld enc (w.alloc o) g 0 q dk os).cell? a = (w.alloc o).cell? a := by
        intro a ha hlt'
        rw [e, cell?_putRow_other _ _ g 0 dk _ (Or.inl ha), cell?_grow _ _ _ (by show a.block < (Sort.ahead (w.alloc o) q).heap.size; exact hlt')]
        rfl
      have row : ∀ k, k < m → (sortWorld enc (w.alloc o) g 0 q dk os).cell? ⟨g, k, none⟩ = some (ptr (get dk[k]!).1) := by
        intro k hk
        rw [e]
        have := cell?_putRow enc _ g 0 d dk hHg hs k (by omega)
        rwa [Nat.zero_add] at this
      have key : ∀ x : Fin m, (sortWorld enc (w.alloc o) g 0 q dk os).cell? ⟨(get x).1, 0, none⟩ = some (.int .u16 (get x).2) := by
        intro x
        obtain ⟨h1, h2⟩ := hc _ (hmem x)
        have hlt' := lt_of_cell h2
        rw [old _ h1 (by rw [alloc_eq_grow, size_grow]; exact Nat.lt_add_right _ hlt')]
        exact cell_alloc h2 o
      have b1 := hb _ (hmem dk[i]!)
      have b2 := hb _ (hmem dk[j]!)
      refine less48 (n := m) (c := cap)  ?_ (by omega) (by omega) (row i (by omega)) (row j (by omega)) (key _) (key _) ⟨b1, b2⟩
      rw [old _ (by show w.heap.size ≠ g; omega) (by rw [alloc_eq_grow, size_grow]; simp)]
      rw [cell_of_block (heap_new w o |>.trans (by rw [ho]))]
      rfl
    have hS := Any.sort_Slice_sorted Tryd.sl6 58 72 si58 si72 (by kernel_rfl) (by kernel_rfl) (by kernel_rfl) (by kernel_rfl) 22 (fun _ => by kernel_rfl) (by kernel_rfl) (fun _ => by kernel_rfl) enc (fun _ => rfl) lt hO 48 _
      (enters_of Tryd.func48 (by kernel_rfl) rfl) g 0 cap d (by omega) (by omega) 65 (by rw [sk72 _ (by omega)]; kernel_rfl) true
      (fun args W => run_callFunc_extern Tryd.func65 (by kernel_rfl) (by kernel_rfl) (by kernel_rfl) (e := Extern.ReflectliteSwapper.swap true) (by kernel_rfl) args W) _ hless hH1 hb1
    rw [hds, ho] at hS
    change Calls Tryd.prog 45 _ _ _ at hS
    have HS := Lib.hid hS
    have HDS := Lib.hid hds; have HD := Lib.hid hd; have HG := Lib.hid hget; have HRow := Lib.hid hRow
    clear hless hH1 hH hS hcell hdk hds hd hget hRow hrow htk hcs hg ho
    go_enter Tryd.func38, Tryd.ntmps38
    go_wp2_with (go_at_call 45; refine HS.out.mono ?_; rintro e w' ⟨rfl, d', nn, os, hp, hso, rfl⟩)
    go_end0
    have hs' : d'.size = m := hp.1.trans HDS.out
    have hown := sorted_row (enc := enc) (o := .cells #[.slice (some ⟨g, 0, none⟩) m cap] 58) (q := nn) (os := os) HRow.out hs'
    refine ⟨rfl, d'.toList.map get, ?_, ?_, ?_, hown.2⟩
    · exact fin_perm bs HM.out d d' HD.out get HG.out hp.2.2 hs'
    · rw [List.pairwise_map, List.pairwise_iff_getElem]
      intro i j hi hj hij
      have := hso i j (Nat.zero_le _) hij (by rw [← hs']; simpa using hj)
      rw [getElem!_pos _ _ (by simpa using hj), getElem!_pos _ _ (by simpa using hi)] at this
      simp only [lt, decide_eq_false_iff_not] at this
      simp only [Array.getElem_toList]
      omega
    · rw [List.map_map]; exact hown.1
  · have hK : Lib.swapperK m si72 22 = m + 1 := by
      rcases Nat.eq_zero_or_pos m with h | h
      · subst h; simp [Lib.swapperK]
      · obtain rfl : m = 1 := by omega
        simp [Lib.swapperK]
    have hS := fun W => Any.sort_Slice_tiny Tryd.sl6 58 72 si58 si72 (by kernel_rfl) (by kernel_rfl) (by kernel_rfl) (by kernel_rfl) 22 (fun _ => by kernel_rfl) (some ⟨g, 0, none⟩) m cap (by omega) (63 + m) (by
      rw [hK]
      rcases Nat.eq_zero_or_pos m with h | h
      · subst h; kernel_rfl
      · obtain rfl : m = 1 := by omega
        kernel_rfl) (.func 48) #[] #[.pointer (some ⟨w.heap.size, 0, none⟩)] W
    change ∀ W, Calls Tryd.prog 45 _ _ _ at hS
    have HS := Lib.hid hS
    have HRow := Lib.hid hRow
    clear hS hcell hRow hrow htk hcs hg
    go_enter Tryd.func38, Tryd.ntmps38
    go_wp2_with (go_at_call 45; refine (HS.out _).mono ?_; rintro e w' ⟨rfl, os, rfl⟩)
    go_end0
    have hM := grown_tiny (w := w) (o := .cells #[.slice (some ⟨g, 0, none⟩) m cap] 58) (os := os)
    refine ⟨rfl, bs, List.Perm.refl _, ?_, owned_mod HRow.out hM, hM.mono (fun _ h => h.elim)⟩
    have hm := HM.out
    match bs, hm with
    | [], _ => exact List.Pairwise.nil
    | [x], _ => simp
    | x :: y :: r, hm => simp at hm; omega
end Go.Proofs.YtmniikihkpikdaaDoor
