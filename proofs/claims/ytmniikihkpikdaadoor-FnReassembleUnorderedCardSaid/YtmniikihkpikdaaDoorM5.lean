/- Part of the proofs of the three laws on reassembly: a chunk is put into a set, and a new set is made; conditions: as each theorem states. -/
import Derived.Test.YtmniikihkpikdaaDoorM4
namespace Go.Proofs.YtmniikihkpikdaaDoor
open Go.RowKit
set_option linter.unusedVariables false

/-- An append of one value of one cell, in a plain region. -/
theorem wpList_append_one {P : Program} {w : World} {ops : Array Oper} {rest : List Oper} {o : Oper} {a : Act} {Q : Exit → Act → World → Prop} (hgd : o.guard = none) (s x : Operand) (t : TypeId)
    (ho : o.op = .call { callee := .builtin .append, args := #[s, x], argTypes := #[t, t] })
    (B : Nat) (e : TypeId) (i : TypeInfo) (z : Value) (bytes : Nat) (ht : P.underlying t = some (.slice e)) (hi : P.info? e = some i) (hz : i.zero = some z)
    (hsize : i.size = 1) (hby : i.bytes = bytes) (hzs : z.cells.size = 1)
    (v : Value) (n : Nat) (xs : List Value) (u : Value) (hs : a.eval s = v) (hown : w.ownsRow B e 1 v n xs) (hx : a.eval x = .slice (some ⟨w.heap.size, 0, none⟩) 1 1) (h1 : u.oneCell' = true)
    (hn : n ≤ 1000000) (hb : bytes ≤ 100) (hB : B ≤ w.heap.size)
    (h : ∀ g cap w', w'.ownsRow B e 1 (.slice (some ⟨g, 0, none⟩) (n + 1) cap) (n + 1) (xs ++ [u]) → Mod (fun k => v.ownBlock = some k) w w' → (v.ownBlock = some g ∨ w.heap.size < g) → wpList P ops Q rest (a.put o.dst (.slice (some ⟨g, 0, none⟩) (n + 1) cap)) w') :
    wpList P ops Q (o :: rest) a (w.alloc (.cells #[u] e)) := by
  refine wpList_append_own_at _ hgd s x t ho B e i z 1 bytes ht hi hz hsize hby hzs (by decide) v n xs hs (hown.alloc _) ⟨w.heap.size, 0, none⟩ 1 1 [u] hx rfl (cell_one_new _ _ _) (by simpa using h1) (by unfold maxLen; omega) ?_ (by simp; omega) ?_
  · have := Nat.mul_le_mul (show n + 1 ≤ 1000001 by omega) hb; omega
  · intro v' w3 hown' hgrow _ hat
    have hM : Mod (fun k => v.ownBlock = some k) w w3 := ((Mod.refl (fun k => v.ownBlock = some k) w).alloc _).trans ⟨hgrow.os, hgrow.tape, hgrow.output, hgrow.size, fun k hk hS => hgrow.block k hk (fun e => hS e.symm)⟩
    rcases hown'.2 with ⟨_, h0⟩ | ⟨g, cap, cur, rfl, _⟩
    · omega
    · refine h g cap w3 hown' hM ?_
      rcases hat with h0 | h0
      · left; rw [← h0]; rfl
      · right
        have h0 : g = (w.alloc (.cells #[u] e)).heap.size := by simpa [Value.ownBlock] using h0
        rw [h0]; simp

theorem perm_lift {α β : Type} (f : α → β) {l : List α} {l2 : List β} (h : l2.Perm (l.map f)) : ∃ l' : List α, l'.Perm l ∧ l'.map f = l2 := by
  have : ∀ {x y : List β}, x.Perm y → ∀ l : List α, y = l.map f → ∃ l' : List α, l'.Perm l ∧ l'.map f = x := by
    intro x y h
    induction h with
    | nil => intro l hl; cases l with
      | nil => exact ⟨[], List.Perm.refl _, rfl⟩
      | cons a t => cases hl
    | cons a _ ih =>
      intro l hl
      cases l with
      | nil => cases hl
      | cons b t =>
        obtain ⟨rfl, h2⟩ := List.cons.inj hl
        obtain ⟨l', hp, he⟩ := ih t h2
        exact ⟨b :: l', hp.cons b, by simp [he]⟩
    | swap a b t =>
      intro l hl
      match l, hl with
      | c :: d :: t', hl =>
        simp only [List.map_cons, List.cons.injEq] at hl
        obtain ⟨h1, h2, h3⟩ := hl
        exact ⟨d :: c :: t', List.Perm.swap c d t', by simp [h1, h2, h3]⟩
    | trans _ _ ih1 ih2 =>
      intro l hl
      obtain ⟨l1, hp1, he1⟩ := ih2 l hl
      obtain ⟨l2, hp2, he2⟩ := ih1 l1 he1.symm
      exact ⟨l2, hp2.trans hp1, he2⟩
  exact this h l rfl

/-- A set in memory. -/
structure SetSt where
  s : Nat
  g : Nat
  cap : Nat
  k : Int
  ppi : Int
  l : List Ck
deriving Inhabited
structure SetAt (w : World) (B : Nat) (f si : Int) (t : SetSt) : Prop where
  blk : w.heap[t.s]? = some (.cells #[.int .u16 t.k, .int .u32 t.ppi, .slice (some ⟨t.g, 0, none⟩) t.l.length t.cap] 81 (0, 0))
  row : w.ownsRow B 51 1 (.slice (some ⟨t.g, 0, none⟩) t.l.length t.cap) t.l.length (t.l.map fun c => ptr c.b)
  ck : ∀ c ∈ t.l, CkAt w f si c
  sB : B ≤ t.s
  kb : 0 ≤ t.k ∧ t.k < 1000
  len : t.l.length ≤ 5000
theorem own_row {w : World} {B e n g cap : Nat} {xs : List Value} (h : w.ownsRow B e 1 (.slice (some ⟨g, 0, none⟩) n cap) n xs) : B ≤ g ∧ ∃ cs, w.heap[g]? = some (.cells cs e (0, 0)) ∧ n ≤ cap ∧ cs.toList.take n = xs := by
  rcases h.2 with ⟨h0, _⟩ | ⟨g', cap', cs, e', hb, hg, hnc, _, _, htk⟩
  · cases h0
  · obtain ⟨rfl, rfl⟩ : g = g' ∧ cap = cap' := by simpa using e'
    exact ⟨hb, cs, hg, hnc, by simpa using htk⟩
theorem ne_of_type {w : World} {a b : Nat} {cs cs' : Array Value} {T T' : TypeId} {fr fr' : Nat × Nat} (h : w.heap[a]? = some (.cells cs T fr)) (h' : w.heap[b]? = some (.cells cs' T' fr')) (hT : T ≠ T') : a ≠ b := by
  rintro rfl
  rw [h] at h'
  have : T = T' := by simpa using (by simpa using h' : cs = cs' ∧ T = T' ∧ fr = fr').2.1
  exact hT this
theorem own_cell {w : World} {B e n g cap i : Nat} {xs : List Value} {x : Value} (h : w.ownsRow B e 1 (.slice (some ⟨g, 0, none⟩) n cap) n xs) (hx : xs[i]? = some x) : w.cell? ⟨g, i, none⟩ = some x := by
  obtain ⟨_, cs, hg, _, ht⟩ := own_row h
  have hi : i < xs.length := (List.getElem?_eq_some_iff.1 hx).1
  have hn : xs.length = n := by simpa using h.1
  rw [← ht, List.getElem?_take_of_lt (by omega), Array.getElem?_toList] at hx
  rw [cell_of_block hg]; exact hx
theorem SetAt.is {w : World} {B : Nat} {f si : Int} {t : SetSt} (h : SetAt w B f si t) : SetIs w f si t.s t.g t.cap t.k t.ppi t.l := by
  obtain ⟨_, cs, hg, hnc, _⟩ := own_row h.row
  exact ⟨h.blk, hnc, fun i c hc => own_cell h.row (by rw [List.getElem?_map, hc]; rfl), h.ck⟩
theorem SetAt.row_ne {w : World} {B : Nat} {f si : Int} {t : SetSt} (h : SetAt w B f si t) : t.s ≠ t.g := by
  obtain ⟨_, cs, hg, _, _⟩ := own_row h.row
  exact ne_of_type h.blk hg (by decide)
theorem SetAt.mod {S : Nat → Prop} {w w' : World} {B : Nat} {f si : Int} {t : SetSt} (h : SetAt w B f si t) (hM : Mod S w w') (hs : ¬ S t.s) (hg : ¬ S t.g) (hc : ∀ c ∈ t.l, CkAt w' f si c) : SetAt w' B f si t :=
  ⟨(hM.block _ (Array.getElem?_eq_some_iff.1 h.blk).1 hs).trans h.blk, owned_modS h.row hM (fun g e => by
    have e : t.g = g := by simpa [Value.ownBlock] using e
    rw [← e]; exact hg), hc, h.sB, h.kb, h.len⟩

/-- What pushNoDuplicate hands back. -/
def PushBack (w : World) (B : Nat) (f si : Int) (t : SetSt) (c : Ck) (e : Ending) (w' : World) : Prop :=
  (∃ r : Bool, e = .returned (.bool r)) ∧ ∃ g cap l', l'.Perm (t.l ++ [c]) ∧ l'.Pairwise (fun x y => x.pc.p ≤ y.pc.p) ∧ SetAt w' B f si { t with g := g, cap := cap, l := l' } ∧ Mod (fun k => k = t.s ∨ k = t.g) w w' ∧ (g = t.g ∨ w.heap.size ≤ g)

set_option maxHeartbeats 1000000 in
set_option maxRecDepth 20000 in
theorem pushND_any {w : World} {B : Nat} {f si : Int} {t : SetSt} {c : Ck} (h : SetAt w B f si t) (hc : CkAt w f si c) (hlen : t.l.length < 4000) (hB : B ≤ w.heap.size) :
    Calls Tryd.prog 39 #[ptr t.s, ptr c.b] w (PushBack w B f si t c) := by
  obtain ⟨i0, hi, hz0, hzz1, hzz2⟩ := info_parts (show (Tryd.prog.info? 51).map (fun i => (i.zero, i.size, i.bytes)) = some (some (.pointer none), 1, 8) by kernel_rfl)
  have H := Lib.hid h; have HC := Lib.hid hc
  have s2 : w.cell? ⟨t.s, 2, none⟩ = some (.slice (some ⟨t.g, 0, none⟩) t.l.length t.cap) := by rw [cell_of_block h.blk]; rfl
  have z2 : w.frozen? ⟨t.s, 2, none⟩ = false := frozen_of_block h.blk
  have hsz : t.s < w.heap.size := (Array.getElem?_eq_some_iff.1 h.blk).1
  obtain ⟨n, hn⟩ : ∃ n, n = t.l.length := ⟨_, rfl⟩
  obtain ⟨s, hs⟩ : ∃ s, s = t.s := ⟨_, rfl⟩
  obtain ⟨g, hg⟩ : ∃ g, g = t.g := ⟨_, rfl⟩
  obtain ⟨b, hbb⟩ : ∃ b, b = c.b := ⟨_, rfl⟩
  have HRow : Hid (w.ownsRow B 51 1 (.slice (some ⟨g, 0, none⟩) n t.cap) n (t.l.map fun c => ptr c.b)) := Lib.hid (by rw [hg, hn]; exact h.row)
  have HNE : Hid (s ≠ g) := Lib.hid (by rw [hs, hg]; exact h.row_ne)
  have HBLK : Hid (w.heap[s]? = some (.cells #[.int .u16 t.k, .int .u32 t.ppi, .slice (some ⟨g, 0, none⟩) n t.cap] 81 (0, 0))) := Lib.hid (by rw [hs, hg, hn]; exact h.blk)
  rw [← hs, ← hg, ← hn] at s2
  rw [← hs] at z2 hsz
  rw [← hs, ← hbb]
  rw [← hn] at hlen
  have HN := Lib.hid hn; have HS := Lib.hid hs; have HG := Lib.hid hg; have HBB := Lib.hid hbb
  clear h hc hn hs hg hbb
  unfold ptr
  go_enter Tryd.func39, Tryd.ntmps39
  go_wp2_with (first | (at_builtin; refine wpList_append_one rfl _ _ 61 rfl B 51 i0 (.pointer none) 8 Tryd.underlying61 hi hz0 hzz1 hzz2 rfl (.slice (some ⟨g, 0, none⟩) n t.cap) n _ (.pointer (some ⟨b, 0, none⟩)) rfl HRow.out rfl rfl (by omega) (by omega) hB ?_; intro g3 cap3 w3 hown hM hat; have hs3 := (hM.block s hsz (fun e => HNE.out (by simp [Value.ownBlock] at e; omega))).trans HBLK.out; have c3 : w3.cell? ⟨s, 2, none⟩ = some (.slice (some ⟨g, 0, none⟩) n t.cap) := (by rw [cell_of_block hs3]; rfl); have f3 : w3.frozen? ⟨s, 2, none⟩ = false := frozen_of_block hs3))
  have hg3s : s ≠ g3 := by
    obtain ⟨_, cs, hg, _, _⟩ := own_row hown
    exact ne_of_type hs3 hg (by decide)
  generalize hW4 : w3.setCell ⟨s, 2, none⟩ (.slice (some ⟨g3, 0, none⟩) (n + 1) cap3) = w4
  have M34 : Mod (· = s) w3 w4 := by rw [← hW4]; exact (Mod.refl (· = s) w3).set1 _
  have hs4 : w4.heap[s]? = some (.cells #[.int .u16 t.k, .int .u32 t.ppi, .slice (some ⟨g3, 0, none⟩) (n + 1) cap3] 81 (0, 0)) := by rw [← hW4]; exact heap_setCell_same hs3 _
  have hown4 := owned_modS hown M34 (fun k e hk => hg3s (by simp [Value.ownBlock] at e; omega))
  have M04 : Mod (fun k => k = s ∨ k = g) w w4 := (hM.mono (fun k e => .inr (by simp [Value.ownBlock] at e; omega))).trans (M34.mono (fun k e => .inl e))
  have hBg := (own_row HRow.out).1
  obtain ⟨_, csg, hgg, _, _⟩ := own_row HRow.out
  have hBs : B ≤ s := by rw [HS.out]; exact H.out.sB
  have K04 : Kp B w w4 := Kp.of_mod M04 (fun k hk => by
    rcases hk with rfl | rfl
    · exact .inr ⟨hBs, _, _, _, HBLK.out, by unfold qT; decide⟩
    · exact .inr ⟨hBg, _, _, _, hgg, by unfold qT; decide⟩)
  have hck4 : ∀ x ∈ t.l ++ [c], CkAt w4 f si x := by
    intro x hx
    rcases List.mem_append.1 hx with hx | hx
    · exact (H.out.ck x hx).kp K04
    · obtain rfl := List.mem_singleton.1 hx; exact HC.out.kp K04
  obtain ⟨bs, hbs⟩ : ∃ bs : List (Nat × Int), bs = (t.l ++ [c]).map fun x => (x.b, x.pc.p) := ⟨_, rfl⟩
  have hbl : bs.length = n + 1 := by rw [hbs, HN.out]; simp
  have hrow4 : w4.ownsRow B 51 1 (.slice (some ⟨g3, 0, none⟩) bs.length cap3) bs.length (bs.map fun x => ptr x.1) := by
    rw [hbl, hbs, List.map_map]
    have e : (t.l.map fun c => ptr c.b) ++ [.pointer (some ⟨b, 0, none⟩)] = (t.l ++ [c]).map ((fun x : Nat × Int => ptr x.1) ∘ fun x : Ck => (x.b, x.pc.p)) := by
      rw [List.map_append, HBB.out]; rfl
    rw [← e]; exact hown4
  obtain ⟨_, csg4, hgg4, _, _⟩ := own_row hown4
  have HSO := Lib.hid (sortTSN (f := f) hrow4 (fun x hx => by
      rw [hbs] at hx
      obtain ⟨y, hy, rfl⟩ := List.mem_map.1 hx
      exact ⟨ne_of_type (hck4 y hy).blk hgg4 (by decide), (hck4 y hy).cell 8⟩) (fun x hx => by
      rw [hbs] at hx
      obtain ⟨y, hy, rfl⟩ := List.mem_map.1 hx
      have := (hck4 y hy).pb
      exact ⟨this.1, by show y.pc.p < 50000; omega⟩) (by omega))
  rw [hbl] at HSO
  have hBg3 := (own_row hown4).1
  have HM04 := Lib.hid M04; have HK04 := Lib.hid K04; have HS4 := Lib.hid hs4; have HCK4 := Lib.hid hck4; have HBS := Lib.hid hbs; have HGG4 := Lib.hid hgg4
  have HAT : Hid (g3 = g ∨ w.heap.size < g3) := Lib.hid (by
    rcases hat with e | e
    · left; simp [Value.ownBlock] at e; omega
    · exact .inr e)
  clear hs3 c3 f3 hown hM hat M34 hs4 hown4 M04 hgg K04 hck4 hrow4 hbl hgg4 hbs hW4 s2 z2
  refine HSO.out.mono ?_
  rintro e w5 ⟨rfl, bs', hp, hpw, hrow5, hM5⟩
  rw [HBS.out] at hp
  obtain ⟨l', hpl, hml⟩ := perm_lift _ hp
  have hll : l'.length = n + 1 := by rw [hpl.length_eq, HN.out]; simp
  have hs5 := (hM5.block s (Array.getElem?_eq_some_iff.1 HS4.out).1 hg3s).trans HS4.out
  have K45 : Kp B w4 w5 := Kp.of_mod hM5 (fun k hk => by
    obtain rfl := hk
    exact .inr ⟨hBg3, _, _, _, HGG4.out, by unfold qT; decide⟩)
  have hset : SetAt w5 B f si { t with g := g3, cap := cap3, l := l' } := by
    refine ⟨?_, ?_, fun x hx => (HCK4.out x (hpl.mem_iff.1 hx)).kp K45, H.out.sB, H.out.kb, by rw [hll]; omega⟩
    · show w5.heap[t.s]? = _
      rw [← HS.out, hs5, hll]
    · show w5.ownsRow B 51 1 (.slice (some ⟨g3, 0, none⟩) l'.length cap3) l'.length (l'.map fun c => ptr c.b)
      rw [hll]
      have : (l'.map fun c => ptr c.b) = bs'.map fun x => ptr x.1 := by rw [← hml, List.map_map]; rfl
      rw [this]; exact hrow5
  have HIC := Lib.hid (isCompl_any hset.is (by show l'.length ≤ 100000; omega))
  have hsorted : l'.Pairwise (fun x y => x.pc.p ≤ y.pc.p) := by
    rw [← hml, List.pairwise_map] at hpw; exact hpw
  have M05 : Mod (fun k => k = t.s ∨ k = t.g) w w5 := by
    rw [← HS.out, ← HG.out]
    have hM4 := HM04.out
    refine ⟨hM5.os.trans hM4.os, hM5.tape.trans hM4.tape, hM5.output.trans hM4.output, Nat.le_trans hM4.size hM5.size, fun k hk hS => ?_⟩
    refine (hM5.block k (Nat.lt_of_lt_of_le hk hM4.size) (fun e => ?_)).trans (hM4.block k hk hS)
    rcases HAT.out with h0 | h0
    · exact hS (.inr (e.trans h0))
    · omega
  have HR := Lib.hid (show ∃ g cap l', l'.Perm (t.l ++ [c]) ∧ l'.Pairwise (fun x y => x.pc.p ≤ y.pc.p) ∧ SetAt w5 B f si { t with g := g, cap := cap, l := l' } ∧ Mod (fun k => k = t.s ∨ k = t.g) w w5 ∧ (g = t.g ∨ w.heap.size ≤ g) from
    ⟨g3, cap3, l', hpl, hsorted, hset, M05, by rw [← HG.out]; have := HAT.out; omega⟩)
  have HIC2 : Hid (Calls Tryd.prog 23 #[.pointer (some ⟨s, 0, none⟩)] w5 (ComplBack w5 l')) := Lib.hid (by rw [HS.out]; exact HIC.out)
  clear hp hpw hrow5 hM5 hpl hml hll hs5 K45 hset hsorted M05 HIC
  go_wp2_with fail
  refine HIC2.out.mono ?_
  rintro e w6 ⟨⟨r, rfl, _⟩, rfl⟩
  go_wp2_with fail
  go_ret
  exact ⟨⟨r, rfl⟩, HR.out⟩

set_option maxHeartbeats 400000 in
/-- A new set: an empty row, and the set's block. -/
theorem newSet_any {w : World} {k ppi : Int} : Calls Tryd.prog 37 #[.int .u16 k, .int .u32 ppi] w fun e w' => e = .returned (ptr (w.heap.size + 1)) ∧ w' = (w.alloc (.cells #[] 51)).alloc (.cells #[.int .u16 k, .int .u32 ppi, .slice (some ⟨w.heap.size, 0, none⟩) 0 0] 81) := by
  unfold ptr
  go_enter Tryd.func37, Tryd.ntmps37
  go_wp2_with fail
  go_ret
  exact ⟨rfl, rfl⟩
theorem newSet_at {w : World} {B : Nat} {f si k ppi : Int} (hB : B ≤ w.heap.size) (hk : 0 ≤ k ∧ k < 1000) : SetAt ((w.alloc (.cells #[] 51)).alloc (.cells #[.int .u16 k, .int .u32 ppi, .slice (some ⟨w.heap.size, 0, none⟩) 0 0] 81)) B f si ⟨w.heap.size + 1, w.heap.size, 0, k, ppi, []⟩ := by
  refine ⟨?_, ?_, (fun c hc => by cases hc), by show B ≤ w.heap.size + 1; omega, hk, Nat.zero_le _⟩
  · have := heap_new (w.alloc (.cells #[] 51)) (.cells #[.int .u16 k, .int .u32 ppi, .slice (some ⟨w.heap.size, 0, none⟩) 0 0] 81)
    simpa using this
  · have := World.ownsRow_made (base := B) (e := 51) (size := 1) w #[] 0 hB (by unfold maxLen; omega) rfl
    have := this.alloc (.cells #[.int .u16 k, .int .u32 ppi, .slice (some ⟨w.heap.size, 0, none⟩) 0 0] 81)
    simpa using this
set_option maxHeartbeats 400000 in
theorem noLimit_any {w : World} {q : Nat} (h : w.cell? ⟨q, 12, none⟩ = some (.int .u32 0)) : Calls Tryd.prog 27 #[ptr q] w fun e w' => e = .returned (.bool false) ∧ w' = w := by
  unfold ptr
  go_enter Tryd.func27, Tryd.ntmps27
  go_wp2_with fail
  go_ret
  exact ⟨rfl, rfl⟩
end Go.Proofs.YtmniikihkpikdaaDoor
