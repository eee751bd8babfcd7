/- Part of the proofs of laws.FnDataAny, FnSackAny, FnForwardAny: what spec.number returns of a number below 256; conditions: as each theorem states. -/
import Derived.Test.YtnajpmdnadjipaaDoorD1
namespace Go.Proofs.YtnajpmdnadjipaaDoor
open Go.RowKit
set_option linter.unusedVariables false

theorem one_new (w : World) (x : Value) : ∀ j u, [x][j]? = some u → (w.alloc (.cells #[x] 5)).cell? ((⟨w.heap.size, 0, none⟩ : Addr).add j) = some u := by
  intro j u hu
  match j, hu with
  | 0, hu => simp at hu; subst hu; rw [show (⟨w.heap.size, 0, none⟩ : Addr).add 0 = ⟨w.heap.size, 0, none⟩ from rfl, cell_of_block (heap_new w _)]; rfl
theorem one_one (x : Int) : ∀ u ∈ [Value.int .u8 x], u.oneCell' = true := by
  intro u hu; simp at hu; subst hu; rfl
theorem copied_owns {w w' : World} {B n : Nat} {v : Value} {l : List Int} {xs : List Value} (h : w'.ownsRow B 5 1 v n xs) (hB : w.heap.size ≤ B) (hx : xs = l.map (Value.int .u8)) (hn : l.length = n) (hb : ∀ x ∈ l, 0 ≤ x ∧ x < 256) (hl : Below w.heap.size w w') :
    Copied w n l (.returned v) w' := by
  subst hx
  have hby : ∀ i, 0 ≤ l.getD i 0 ∧ l.getD i 0 < 256 := by
    intro i
    rw [List.getD_eq_getElem?_getD]
    cases hi : l[i]? with
    | none => simp
    | some x => simpa using hb x (List.mem_of_getElem? hi)
  obtain ⟨ao, c, rfl, h1, h2, h3⟩ := bytes_of_owns hn h hby
  exact ⟨ao, c, rfl, h1, fun a ha => Nat.le_trans hB (h2 a ha), h3, hl⟩

set_option maxHeartbeats 1000000 in
theorem number4 (n : Int) (w : World) (hn : 0 ≤ n) (hn' : n < 256) :
    Calls Tryd.prog 32 #[.int .i64 n, .int .i64 4] w (Copied w 4 [0, 0, 0, n]) := by
  obtain ⟨i0, hi, hz0, hz1, hz2⟩ := info_parts (show (Tryd.prog.info? 5).map (fun i => (i.zero, i.size, i.bytes)) = some (some (.int .u8 0), 1, 1) by kernel_rfl)
  have O0 := Lib.hid (World.ownsRow_made (e := 5) (size := 1) w #[] 0 (Nat.le_refl _) (by unfold maxLen; omega) rfl)
  have L0 := Lib.hid ((Below.refl w.heap.size w).alloc (Nat.le_refl _) (.cells #[] 5))
  go_enter Tryd.func32, Tryd.ntmps32
  go_wp2_with fail
  refine wp_loop_rounds 5 ?_
  rw [rounds_succ]
  go_wp2_with (first | (at_builtin; refine wpList_append_own _ rfl _ _ 22 rfl w.heap.size 5 i0 (.int .u8 0) 1 1 Tryd.underlying22 hi hz0 hz1 hz2 rfl (by decide) _ _ _ rfl (O0.out.alloc _) ⟨w.heap.size + 1, 0, none⟩ 1 1 [.int .u8 (n / 16777216)] rfl rfl ?a0 ?b0 ?c0 ?d0 ?e0 ?_))
  case a0 => simpa using one_new (w.alloc (.cells #[] 5)) (.int .u8 (n / 16777216))
  case b0 => exact one_one _
  case c0 => unfold maxLen; omega
  case d0 => omega
  case e0 => simp; omega
  intro v1 w1 hown hgrow _
  try simp only [Nat.zero_add, List.nil_append, List.cons_append] at hown
  have hl := (L0.out.alloc (by simp) (.cells #[.int .u8 (n / 16777216)] 5)).grown hgrow (by simp; omega) (fun k hk => by simp [Value.ownBlock] at hk; omega)
  have O1 := Lib.hid hown
  have L1 := Lib.hid hl
  clear hown hgrow hl
  go_wp2_with fail
  rw [rounds_succ]
  go_wp2_with (first | (at_builtin; refine wpList_append_own _ rfl _ _ 22 rfl w.heap.size 5 i0 (.int .u8 0) 1 1 Tryd.underlying22 hi hz0 hz1 hz2 rfl (by decide) _ _ _ rfl (O1.out.alloc _) ⟨w1.heap.size, 0, none⟩ 1 1 [.int .u8 (n / 65536)] rfl rfl ?a1 ?b1 ?c1 ?d1 ?e1 ?_))
  case a1 => exact one_new w1 (.int .u8 (n / 65536))
  case b1 => exact one_one _
  case c1 => unfold maxLen; omega
  case d1 => omega
  case e1 => have := L1.out.size; simp; omega
  intro v2 w2 hown hgrow _
  try simp only [Nat.zero_add, List.nil_append, List.cons_append] at hown
  have hl := (L1.out.alloc (L1.out.size) (.cells #[.int .u8 (n / 65536)] 5)).grown hgrow (by have := L1.out.size; simp; omega) (fun k hk => (O1.out.lt k hk).1)
  have O2 := Lib.hid hown
  have L2 := Lib.hid hl
  clear hown hgrow hl
  go_wp2_with fail
  rw [rounds_succ]
  go_wp2_with (first | (at_builtin; refine wpList_append_own _ rfl _ _ 22 rfl w.heap.size 5 i0 (.int .u8 0) 1 1 Tryd.underlying22 hi hz0 hz1 hz2 rfl (by decide) _ _ _ rfl (O2.out.alloc _) ⟨w2.heap.size, 0, none⟩ 1 1 [.int .u8 (n / 256)] rfl rfl ?a2 ?b2 ?c2 ?d2 ?e2 ?_))
  case a2 => exact one_new w2 (.int .u8 (n / 256))
  case b2 => exact one_one _
  case c2 => unfold maxLen; omega
  case d2 => omega
  case e2 => have := L2.out.size; simp; omega
  intro v3 w3 hown hgrow _
  try simp only [Nat.zero_add, List.nil_append, List.cons_append] at hown
  have hl := (L2.out.alloc (L2.out.size) (.cells #[.int .u8 (n / 256)] 5)).grown hgrow (by have := L2.out.size; simp; omega) (fun k hk => (O2.out.lt k hk).1)
  have O3 := Lib.hid hown
  have L3 := Lib.hid hl
  clear hown hgrow hl
  go_wp2_with fail
  rw [rounds_succ]
  go_wp2_with (first | (at_builtin; refine wpList_append_own _ rfl _ _ 22 rfl w.heap.size 5 i0 (.int .u8 0) 1 1 Tryd.underlying22 hi hz0 hz1 hz2 rfl (by decide) _ _ _ rfl (O3.out.alloc _) ⟨w3.heap.size, 0, none⟩ 1 1 [.int .u8 (n)] rfl rfl ?a3 ?b3 ?c3 ?d3 ?e3 ?_))
  case a3 => exact one_new w3 (.int .u8 (n))
  case b3 => exact one_one _
  case c3 => unfold maxLen; omega
  case d3 => omega
  case e3 => have := L3.out.size; simp; omega
  intro v4 w4 hown hgrow _
  try simp only [Nat.zero_add, List.nil_append, List.cons_append] at hown
  have hl := (L3.out.alloc (L3.out.size) (.cells #[.int .u8 (n)] 5)).grown hgrow (by have := L3.out.size; simp; omega) (fun k hk => (O3.out.lt k hk).1)
  have O4 := Lib.hid hown
  have L4 := Lib.hid hl
  clear hown hgrow hl
  go_wp2_with fail
  rw [rounds_succ]
  go_wp2_with fail
  go_ret
  exact copied_owns O4.out (Nat.le_refl _) (by simp; omega) rfl (by simp; omega) L4.out

set_option maxHeartbeats 1000000 in
theorem number2 (n : Int) (w : World) (hn : 0 ≤ n) (hn' : n < 256) :
    Calls Tryd.prog 32 #[.int .i64 n, .int .i64 2] w (Copied w 2 [0, n]) := by
  obtain ⟨i0, hi, hz0, hz1, hz2⟩ := info_parts (show (Tryd.prog.info? 5).map (fun i => (i.zero, i.size, i.bytes)) = some (some (.int .u8 0), 1, 1) by kernel_rfl)
  have O0 := Lib.hid (World.ownsRow_made (e := 5) (size := 1) w #[] 0 (Nat.le_refl _) (by unfold maxLen; omega) rfl)
  have L0 := Lib.hid ((Below.refl w.heap.size w).alloc (Nat.le_refl _) (.cells #[] 5))
  go_enter Tryd.func32, Tryd.ntmps32
  go_wp2_with fail
  refine wp_loop_rounds 3 ?_
  rw [rounds_succ]
  go_wp2_with (first | (at_builtin; refine wpList_append_own _ rfl _ _ 22 rfl w.heap.size 5 i0 (.int .u8 0) 1 1 Tryd.underlying22 hi hz0 hz1 hz2 rfl (by decide) _ _ _ rfl (O0.out.alloc _) ⟨w.heap.size + 1, 0, none⟩ 1 1 [.int .u8 (n / 256)] rfl rfl ?a0 ?b0 ?c0 ?d0 ?e0 ?_))
  case a0 => simpa using one_new (w.alloc (.cells #[] 5)) (.int .u8 (n / 256))
  case b0 => exact one_one _
  case c0 => unfold maxLen; omega
  case d0 => omega
  case e0 => simp; omega
  intro v1 w1 hown hgrow _
  try simp only [Nat.zero_add, List.nil_append, List.cons_append] at hown
  have hl := (L0.out.alloc (by simp) (.cells #[.int .u8 (n / 256)] 5)).grown hgrow (by simp; omega) (fun k hk => by simp [Value.ownBlock] at hk; omega)
  have O1 := Lib.hid hown
  have L1 := Lib.hid hl
  clear hown hgrow hl
  go_wp2_with fail
  rw [rounds_succ]
  go_wp2_with (first | (at_builtin; refine wpList_append_own _ rfl _ _ 22 rfl w.heap.size 5 i0 (.int .u8 0) 1 1 Tryd.underlying22 hi hz0 hz1 hz2 rfl (by decide) _ _ _ rfl (O1.out.alloc _) ⟨w1.heap.size, 0, none⟩ 1 1 [.int .u8 (n)] rfl rfl ?a1 ?b1 ?c1 ?d1 ?e1 ?_))
  case a1 => exact one_new w1 (.int .u8 (n))
  case b1 => exact one_one _
  case c1 => unfold maxLen; omega
  case d1 => omega
  case e1 => have := L1.out.size; simp; omega
  intro v2 w2 hown hgrow _
  try simp only [Nat.zero_add, List.nil_append, List.cons_append] at hown
  have hl := (L1.out.alloc (L1.out.size) (.cells #[.int .u8 (n)] 5)).grown hgrow (by have := L1.out.size; simp; omega) (fun k hk => (O1.out.lt k hk).1)
  have O2 := Lib.hid hown
  have L2 := Lib.hid hl
  clear hown hgrow hl
  go_wp2_with fail
  rw [rounds_succ]
  go_wp2_with fail
  go_ret
  exact copied_owns O2.out (Nat.le_refl _) (by simp; omega) rfl (by simp; omega) L2.out

end Go.Proofs.YtnajpmdnadjipaaDoor
