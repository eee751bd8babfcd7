/- Proved: laws.FnForwardAny returns true for every input and leaves the input and what was in memory as it was (the row and its tied card); conditions: none beyond those of the given row (the package-level errors start as the program lays them). -/
import Derived.Test.YtnajpmdnadjipaaDoorB1
import Derived.Test.YtnajpmdnadjipaaDoorK5
namespace Go.Proofs.YtnajpmdnadjipaaDoor.fnForwardAny
open Go.ChangeShapes Go.WideShapes Go.ChangeAt Go.RowKit
set_option linter.unusedVariables false

theorem n_ErrMarshalStreamFailed : Tryd.prog.globalNamed "loop.example/pub-g03055/pub/sctp.ErrMarshalStreamFailed" = some 10 := by kernel_rfl
theorem t_ErrMarshalStreamFailed : (Tryd.prog.globals[10]?).map (·.type) = some 50 := by kernel_rfl
theorem n_ErrChunkTooShort : Tryd.prog.globalNamed "loop.example/pub-g03055/pub/sctp.ErrChunkTooShort" = some 9 := by kernel_rfl
theorem t_ErrChunkTooShort : (Tryd.prog.globals[9]?).map (·.type) = some 50 := by kernel_rfl
theorem n_ErrChunkHeaderTooSmall : Tryd.prog.globalNamed "loop.example/pub-g03055/pub/sctp.ErrChunkHeaderTooSmall" = some 11 := by kernel_rfl
theorem t_ErrChunkHeaderTooSmall : (Tryd.prog.globals[11]?).map (·.type) = some 50 := by kernel_rfl
theorem n_ErrChunkHeaderNotEnoughSpace : Tryd.prog.globalNamed "loop.example/pub-g03055/pub/sctp.ErrChunkHeaderNotEnoughSpace" = some 12 := by kernel_rfl
theorem t_ErrChunkHeaderNotEnoughSpace : (Tryd.prog.globals[12]?).map (·.type) = some 50 := by kernel_rfl
theorem n_ErrChunkHeaderPaddingNonZero : Tryd.prog.globalNamed "loop.example/pub-g03055/pub/sctp.ErrChunkHeaderPaddingNonZero" = some 13 := by kernel_rfl
theorem t_ErrChunkHeaderPaddingNonZero : (Tryd.prog.globals[13]?).map (·.type) = some 50 := by kernel_rfl

theorem err_of_laid {W : World} (h : laidMetH Tryd.prog Rows.fnForwardAnyRow.laid W) {n nm : String} {d : DataW Unit} {g : Nat} (hm : (n, DataW.iface nm d) ∈ Rows.fnForwardAnyRow.laid) (hn : Tryd.prog.globalNamed n = some g) (ht : (Tryd.prog.globals[g]?).map (·.type) = some 50) : GlobErr W g := by
  obtain ⟨ps, hL, _⟩ : laidMet Tryd.prog Rows.fnForwardAnyRow.laid W := h
  obtain ⟨u, v, hv⟩ := laid_err _ ps hL n nm d g 50 _ hm hn ht Tryd.underlying50
  exact ⟨u, v, by simpa using World.var?_cell hn hv 0⟩

noncomputable def low : Nat := (World.holding Tryd.prog default ⟨#[], #[], []⟩).heap.size
noncomputable def laidWorld (os : Os) : World :=
  let w0 := World.holding Tryd.prog os ⟨#[.cells #[.string { data := #[102, 97, 105, 108, 101, 100, 32, 116, 111, 32, 109, 97, 114, 115, 104, 97, 108, 32, 115, 116, 114, 101, 97, 109] }] 130, .cells #[.string { data := #[99, 104, 117, 110, 107, 32, 116, 111, 111, 32, 115, 104, 111, 114, 116] }] 130, .cells #[.string { data := #[114, 97, 119, 32, 105, 115, 32, 116, 111, 111, 32, 115, 109, 97, 108, 108, 32, 102, 111, 114, 32, 97, 32, 83, 67, 84, 80, 32, 99, 104, 117, 110, 107] }] 130, .cells #[.string { data := #[110, 111, 116, 32, 101, 110, 111, 117, 103, 104, 32, 100, 97, 116, 97, 32, 108, 101, 102, 116, 32, 105, 110, 32, 83, 67, 84, 80, 32, 112, 97, 99, 107, 101, 116, 32, 116, 111, 32, 115, 97, 116, 105, 115, 102, 121, 32, 114, 101, 113, 117, 101, 115, 116, 101, 100, 32, 108, 101, 110, 103, 116, 104] }] 130, .cells #[.string { data := #[99, 104, 117, 110, 107, 32, 112, 97, 100, 100, 105, 110, 103, 32, 105, 115, 32, 110, 111, 110, 45, 122, 101, 114, 111, 32, 97, 116, 32, 111, 102, 102, 115, 101, 116] }] 130], #[], []⟩
  { w0 with heap := (((((w0.heap.modify 10 fun | .cells _ t frozen => .cells #[.iface 114 (.pointer (some ⟨low + 0, 0, none⟩))] t frozen | o => o).modify 9 fun | .cells _ t frozen => .cells #[.iface 114 (.pointer (some ⟨low + 1, 0, none⟩))] t frozen | o => o).modify 11 fun | .cells _ t frozen => .cells #[.iface 114 (.pointer (some ⟨low + 2, 0, none⟩))] t frozen | o => o).modify 12 fun | .cells _ t frozen => .cells #[.iface 114 (.pointer (some ⟨low + 3, 0, none⟩))] t frozen | o => o).modify 13 fun | .cells _ t frozen => .cells #[.iface 114 (.pointer (some ⟨low + 4, 0, none⟩))] t frozen | o => o) }
theorem laid_met (os : Os) : laidMet Tryd.prog Rows.fnForwardAnyRow.laid ((laidWorld os).forCall (fun _ _ => 0) ⟨#[], #[.slice none 0 0], []⟩).memory :=
  laidMet_of_run' 8 (by kernel_rfl) (by kernel_rfl)
theorem reads (os : Os) {H : Type} (enc : TypeId × Value → H) : ∃ places, DataW.whole enc Tryd.prog ((laidWorld os).forCall (fun _ _ => 0) ⟨#[], #[.slice none 0 0], []⟩).memory Tryd.f7.params.toList Rows.fnForwardAnySpec.vars false #[Value.slice none 0 0].toList 8 = some ([.nil], [.held (enc (114, .pointer (some ⟨low + 1, 0, none⟩))), .held (enc (114, .pointer (some ⟨low + 0, 0, none⟩))), .held (enc (114, .pointer (some ⟨low + 2, 0, none⟩))), .held (enc (114, .pointer (some ⟨low + 3, 0, none⟩))), .held (enc (114, .pointer (some ⟨low + 4, 0, none⟩)))], places) :=
  ⟨[.cell 9 0, .cell 10 0, .cell 11 0, .cell 12 0, .cell 13 0], by kernel_rfl⟩

set_option maxHeartbeats 1000000 in
set_option maxRecDepth 100000 in
theorem contract (H : Type) (enc : TypeId × Value → H) (W : World) (base : Nat) (args : Array Value) (ds gs : List (DataW H)) (before : List MemPlace)
    (hval : ∀ (j : Nat) t v, Tryd.f7.params[j]? = some t → args[j]? = some v → Value.okWide Tryd.prog W .any base t v)
    (hW : DataW.Whole enc Tryd.prog Tryd.f7.params.toList Rows.fnForwardAnySpec.vars false W args.toList ds gs before) (hL : laidMetH Tryd.prog Rows.fnForwardAnyRow.laid W) :
    Calls Tryd.prog 7 args W fun e W' => ∃ v, e = .returned v ∧ Rows.fnForwardAnySpec.post enc Tryd.prog Tryd.f7 false true false false W args v W' := by
  have hW' := hW
  obtain ⟨p, q, hA0, hV0, rfl, hfz, hnd⟩ := hW
  have hA : DataW.TrodAll enc Tryd.prog W 0 (fun _ => true) true Tryd.f7.params.toList args.toList ds p := hA0
  have hV : DataW.TrodVars enc Tryd.prog W (fun _ => true) ["loop.example/pub-g03055/pub/sctp.ErrChunkTooShort", "loop.example/pub-g03055/pub/sctp.ErrMarshalStreamFailed", "loop.example/pub-g03055/pub/sctp.ErrChunkHeaderTooSmall", "loop.example/pub-g03055/pub/sctp.ErrChunkHeaderNotEnoughSpace", "loop.example/pub-g03055/pub/sctp.ErrChunkHeaderPaddingNonZero"] gs q := hV0
  rw [Tryd.params7] at hA hval
  obtain ⟨v0, vs0, d0, ds0, p0, q0, hargs, rfl, rfl, h0, r0⟩ := trodAll_cons hA
  obtain ⟨rfl, rfl, rfl⟩ := trodAll_nil r0
  obtain rfl : args = #[v0] := by cases args; simp_all
  obtain ⟨a0, len0, cap0, rfl⟩ := okWide_slice Tryd.underlying22 (hval 0 22 v0 rfl rfl)
  have k0 := h0
  have lt0 : ∀ x ∈ p0, x.block < W.heap.size := by obtain ⟨m, hm⟩ := k0; exact DataW.trod_lt m _ _ _ hm
  obtain ⟨l0, c0, b0⟩ : ∃ l, cap0 ≤ 9223372036854775807 ∧ BytesAt W a0 len0 cap0 l := by
    obtain ⟨fuel, hf⟩ := h0
    rcases open_ints Tryd.underlying22 Tryd.underlying5 (by kernel_rfl) hf with ⟨hcs, _⟩ | ⟨x, l, c, zs, hcs, _, hl, hm, hz, _, hcell, hwz⟩
    · simp [Value.cells] at hcs
      obtain ⟨rfl, rfl, rfl⟩ := hcs
      exact ⟨[], by omega, bytes_nil W⟩
    · simp [Value.cells] at hcs
      obtain ⟨rfl, rfl, rfl⟩ := hcs
      exact ⟨zs.take len0, by simpa [maxLen] using hm, bytes_of_row hl (by simpa using hz) hcell hwz⟩
  obtain ⟨y1, y2, y3, y4, y5, rfl⟩ : ∃ y1 y2 y3 y4 y5, gs = [y1, y2, y3, y4, y5] := by
    have hlen := vars_length _ _ _ hV
    match gs, hlen with
    | [y1, y2, y3, y4, y5], _ => exact ⟨_, _, _, _, _, rfl⟩
  have ge10 : GlobErr W 10 := err_of_laid hL (List.mem_of_getElem? (i := 0) rfl) n_ErrMarshalStreamFailed t_ErrMarshalStreamFailed
  have ge9 : GlobErr W 9 := err_of_laid hL (List.mem_of_getElem? (i := 1) rfl) n_ErrChunkTooShort t_ErrChunkTooShort
  have ge11 : GlobErr W 11 := err_of_laid hL (List.mem_of_getElem? (i := 2) rfl) n_ErrChunkHeaderTooSmall t_ErrChunkHeaderTooSmall
  have ge12 : GlobErr W 12 := err_of_laid hL (List.mem_of_getElem? (i := 3) rfl) n_ErrChunkHeaderNotEnoughSpace t_ErrChunkHeaderNotEnoughSpace
  have ge13 : GlobErr W 13 := err_of_laid hL (List.mem_of_getElem? (i := 4) rfl) n_ErrChunkHeaderPaddingNonZero t_ErrChunkHeaderPaddingNonZero
  clear hA0 hV0
  refine (fwd_all b0 c0 ge9).mono fun e W' ⟨he, bel⟩ => ?_
  subst he
  have tv := vars_again (W' := W') (sp' := fun x => decide (x < W.heap.size)) _ _ _ hV (by kernel_rfl) (vars_below bel (by kernel_rfl))
  exact ⟨_, rfl, _, _, _, [], _, _, hW', trodAll_mk1 (shut_bool Tryd.underlying4 _), (trodAll_cons_mk (Below.trod laidOut (by kernel_rfl) (of_decide_eq_true (by kernel_rfl)) k0 bel lt0) trodAll_mk0), tv, bel.frame _, fun h => by cases h⟩

set_option maxRecDepth 100000 in
theorem lifted (os : Os) (started : os.Started) (H : Type) (enc : TypeId × Value → H) (F : Stop.Interp) :
    ReturnsInHanded {} Tryd.checked os 7 .any ((OpenSpec.ofChange Rows.fnForwardAnySpec).preRow enc Tryd.prog Tryd.f7 Rows.fnForwardAnyRow.domain false Rows.fnForwardAnyRow.laid) (((OpenSpec.ofChange Rows.fnForwardAnySpec).at F).post enc Tryd.prog Tryd.f7 false true false false) := by
  obtain ⟨places, hx⟩ := reads os enc
  refine returnsInHanded_of_row (C := Tryd.checked) (s := OpenSpec.ofChange Rows.fnForwardAnySpec) own started (by kernel_rfl) Tryd.func7
    (witness_row_atRef (enc := enc) (C := Tryd.checked) false (laidWorld os) #[.slice none 0 0] rfl (by kernel_rfl) (by kernel_rfl) (by kernel_rfl)
      (OpenSpec.preRow_of_cond 8 hx (by kernel_rfl) (fun k hk => by cases hk) (by kernel_rfl) (laid_met os))) ?_
  intro W base args ds gs before hval hW _ _ _ hL _ _
  exact contract H enc W base args ds gs before hval hW hL

theorem said : Rows.FnForwardAnySaid :=
  OpenClaim.holds_of_cond 7 Tryd.f7 rfl rfl rfl rfl rfl rfl rfl ⟨rfl, rfl, rfl, rfl, rfl⟩ rfl rfl rfl rfl rfl (by kernel_rfl) Tryd.func7 (by kernel_rfl)
    (of_decide_eq_true (by kernel_rfl)) (by unfold Func.isWrapper; first | (rw [if_pos (by decide +kernel)]; kernel_rfl) | (rw [if_neg (by decide +kernel)]; exact ⟨rfl, rfl⟩))
    (fun os started H enc _ F => by rw [OpenClaim.pre_eq_preRow]; exact lifted os started H enc F)

theorem plain (f : FuncId) (fn : Func) (hf : Tryd.pinned.checked.prog.funcNamed "loop.example/pub-g03055/laws.FnForwardAny" = some f) (hfn : Tryd.pinned.checked.prog.funcs[f]? = some fn) :
    false = Tryd.pinned.checked.prog.looks [] ∧ ∀ (j : Nat) t, fn.params[j]? = some t → Tryd.pinned.checked.prog.wantsStandIn t = false := by
  obtain rfl : f = 7 := Option.some.inj ((show Tryd.prog.funcNamed "loop.example/pub-g03055/laws.FnForwardAny" = some 7 by kernel_rfl).symm.trans hf) |>.symm
  obtain rfl : fn = Tryd.f7 := (Option.some.inj (Tryd.func7.symm.trans hfn)).symm
  refine ⟨by kernel_rfl, fun j t ht => ?_⟩
  rw [Tryd.params7] at ht
  obtain rfl : t = 22 := by simpa using Array.mem_of_getElem? ht
  exact (show Tryd.prog.wantsStandIn 22 = false by kernel_rfl)

theorem card : Rows.FnForwardAnyCardSaid :=
  Claim7.holds_tied_plain_at .later [] _ _ _ _ said (fun _ h => by cases h) (by kernel_rfl) (fun _ h => by cases h) fnForwardAny_row_tie rfl ⟨rfl, rfl⟩ (by kernel_rfl) rfl plain (by kernel_rfl)
#print axioms card
end Go.Proofs.YtnajpmdnadjipaaDoor.fnForwardAny
