/- Part of the proofs of the three laws on reassembly: messages cut into pieces, as plain lists; conditions: as each theorem states. -/
import Derived.Test.YtmniikihkpikdaaDoorM20
namespace Go.Proofs.YtmniikihkpikdaaDoor
open Go.RowKit
set_option linter.unusedVariables false

/-- An append of one record, the number of its block given by hand. -/
theorem wpList_append_recH {P : Program} {w : World} {ops : Array Oper} {rest : List Oper} {o : Oper} {a : Act} {Q : Exit → Act → World → Prop} (hgd : o.guard = none) (s x : Operand) (t : TypeId)
    (ho : o.op = .call { callee := .builtin .append, args := #[s, x], argTypes := #[t, t] })
    (B : Nat) (e : TypeId) (i : TypeInfo) (z : Value) (size bytes : Nat) (ht : P.underlying t = some (.slice e)) (hi : P.info? e = some i) (hz : i.zero = some z)
    (hsize : i.size = size) (hby : i.bytes = bytes) (hzs : z.cells.size = size) (hsz : 0 < size) (H : Nat) (hH : w.heap.size = H)
    (v : Value) (n : Nat) (xs : List Value) (us : Array Value) (hs : a.eval s = v) (hown : w.ownsRow B e size v n xs) (hx : a.eval x = .slice (some ⟨H, 0, none⟩) 1 1) (hul : us.size = size) (h1 : ∀ u ∈ us.toList, u.oneCell' = true)
    (hn : n ≤ 1000000) (hb : bytes ≤ 100) (hB : B ≤ w.heap.size)
    (h : ∀ g cap w', w'.ownsRow B e size (.slice (some ⟨g, 0, none⟩) (n + 1) cap) (n + 1) (xs ++ us.toList) → Mod (fun k => v.ownBlock = some k) w w' → wpList P ops Q rest (a.put o.dst (.slice (some ⟨g, 0, none⟩) (n + 1) cap)) w') :
    wpList P ops Q (o :: rest) a (w.alloc (.cells us e)) := by
  subst hH
  exact wpList_append_rec hgd s x t ho B e i z size bytes ht hi hz hsize hby hzs hsz v n xs us hs hown hx hul h1 hn hb hB h
/-- How many pieces a message has. -/
def cnt (L s : Nat) : Nat := (L + s - 1) / s
/-- The i-th piece of a message. -/
def pcAt (base k : Nat) (b : List Int) (s i : Nat) : Pc :=
  { p := ((base + i : Nat) : Int), k := (k : Int), beg := decide (i = 0), fin := decide (i + 1 = cnt b.length s), un := false, proto := ((50 + k : Nat) : Int), bytes := (b.drop (i * s)).take s }
def msgPcs (base k : Nat) (b : List Int) (s : Nat) : List Pc := (List.range (cnt b.length s)).map (pcAt base k b s)
/-- The pieces of the first messages. -/
def upTo (ms : List (List Int)) (s : Nat) : Nat → List Pc
  | 0 => []
  | k + 1 => upTo ms s k ++ msgPcs (upTo ms s k).length k (ms.getD k []) s

theorem cnt_lt {L s i : Nat} (hs : 0 < s) : i < cnt L s ↔ i * s < L := by
  unfold cnt
  rw [Nat.lt_div_iff_mul_lt hs]
  have := Nat.succ_mul i s
  constructor <;> intro h <;> omega
theorem cnt_pos {L s : Nat} (hs : 0 < s) (hL : 0 < L) : 0 < cnt L s := (cnt_lt hs).2 (by omega)
theorem cnt_le {L s : Nat} (hs : 0 < s) : cnt L s ≤ L := by
  rcases Nat.lt_or_ge L (cnt L s) with h | h
  · have := (cnt_lt (L := L) (s := s) (i := L) hs).1 h
    have := Nat.le_mul_of_pos_right L hs
    omega
  · exact h
theorem cnt_last {L s i : Nat} (hs : 0 < s) (hi : i * s < L) : (i + 1 = cnt L s) ↔ L ≤ (i + 1) * s := by
  have h1 := (cnt_lt (L := L) (s := s) (i := i) hs).2 hi
  have h2 := cnt_lt (L := L) (s := s) (i := i + 1) hs
  constructor <;> intro h
  · rcases Nat.lt_or_ge ((i + 1) * s) L with h3 | h3
    · have := h2.2 h3; omega
    · exact h3
  · have : ¬ (i + 1 < cnt L s) := fun h3 => by have := h2.1 h3; omega
    omega
theorem msgPcs_len (base k : Nat) (b : List Int) (s : Nat) : (msgPcs base k b s).length = cnt b.length s := by simp [msgPcs]
theorem upTo_len_le (ms : List (List Int)) (s : Nat) (hs : 0 < s) (h : ∀ m ∈ ms, m.length ≤ 200) : ∀ k, (upTo ms s k).length ≤ 200 * k
  | 0 => Nat.le_refl _
  | k + 1 => by
    have := upTo_len_le ms s hs h k
    show (upTo ms s k ++ _).length ≤ _
    rw [List.length_append, msgPcs_len]
    have h1 := cnt_le (L := (ms.getD k []).length) hs
    have h2 : (ms.getD k []).length ≤ 200 := by
      rw [List.getD_eq_getElem?_getD]
      rcases Nat.lt_or_ge k ms.length with hk | hk
      · rw [List.getElem?_eq_getElem hk]; exact h _ (List.getElem_mem _)
      · rw [List.getElem?_eq_none hk]; exact Nat.zero_le _
    omega
theorem pcs_step (base k : Nat) (b : List Int) (s i : Nat) : (List.range (i + 1)).map (pcAt base k b s) = (List.range i).map (pcAt base k b s) ++ [pcAt base k b s i] := by
  rw [List.range_succ, List.map_append]; rfl

/-- Messages behind a slice. -/
structure MsAt (w : World) (ao : Option Addr) (n c : Nat) (ms : List (List Int)) : Prop where
  len : ms.length = n
  cap : n ≤ c
  cell : ∀ k, k < n → ∃ g off mo mc, ao = some ⟨g, off, none⟩ ∧ w.cell? ⟨g, off + k, none⟩ = some (.slice mo (ms.getD k []).length mc) ∧ BytesAt w mo (ms.getD k []).length mc (ms.getD k [])
theorem MsAt.mod {w w' : World} {ao : Option Addr} {n c : Nat} {ms : List (List Int)} (h : MsAt w ao n c ms) (hM : Mod (fun _ => False) w w') : MsAt w' ao n c ms := by
  refine ⟨h.len, h.cap, fun k hk => ?_⟩
  obtain ⟨g, off, mo, mc, h1, h2, h3⟩ := h.cell k hk
  exact ⟨g, off, mo, mc, h1, (hM.cell (lt_of_cell h2) (fun h => h)).trans h2, h3.mod hM (fun _ _ h => h)⟩

/-- A piece's bytes lie where its message's lie. -/
theorem piece_bytes {w : World} {g off n c : Nat} {l : List Int} (h : BytesAt w (some ⟨g, off, none⟩) n c l) (a e : Nat) (ha : a ≤ e) (he : e ≤ n) : BytesAt w (some ⟨g, off + a, none⟩) (e - a) (c - a) ((l.drop a).take (e - a)) := by
  have hl := h.len
  have hc := h.cap
  refine ⟨by rw [List.length_take, List.length_drop]; omega, by omega, (fun h => by cases h), fun x hx i hi => ?_, fun i => ?_⟩
  · obtain rfl := Option.some.inj hx
    have := h.cell _ rfl (a + i) (by omega)
    rw [show (⟨g, off, none⟩ : Addr).add (a + i) = ⟨g, off + (a + i), none⟩ from by unfold Addr.add; split <;> simp_all] at this
    rw [show (⟨g, off + a, none⟩ : Addr).add i = ⟨g, off + a + i, none⟩ from by unfold Addr.add; split <;> simp_all, Nat.add_assoc, this]
    simp [List.getD_eq_getElem?_getD, List.getElem?_drop, hi]
  · have := h.byte (a + i)
    rw [List.getD_eq_getElem?_getD, List.getElem?_take]
    by_cases hi : i < e - a
    · rw [if_pos hi, List.getElem?_drop, ← List.getD_eq_getElem?_getD]; exact this
    · rw [if_neg hi]; exact ⟨Int.le_refl 0, by show (0 : Int) < 256; omega⟩
theorem take_min (l : List Int) (a s : Nat) : (l.drop a).take (min (a + s) l.length - a) = (l.drop a).take s := by
  rcases Nat.le_total (a + s) l.length with h | h
  · rw [Nat.min_eq_left h, Nat.add_sub_cancel_left]
  · rw [Nat.min_eq_right h]
    rw [List.take_of_length_le (by rw [List.length_drop]; exact Nat.le_refl _), List.take_of_length_le (by rw [List.length_drop]; omega)]
end Go.Proofs.YtmniikihkpikdaaDoor
