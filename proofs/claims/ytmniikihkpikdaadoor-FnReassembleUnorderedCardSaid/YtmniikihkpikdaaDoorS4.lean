/- Proved: laws.FnReassembleUnordered returns true for every input and leaves the input and what was in memory as it was (the row and its tied card); conditions: none beyond those of the given row (the package-level errors start as the program lays them). -/
import Derived.Test.YtmniikihkpikdaaDoorP1
import Derived.Test.YtmniikihkpikdaaDoorM40
namespace Go.Proofs.YtmniikihkpikdaaDoor.fnReassembleUnordered
open Go.ChangeShapes Go.WideShapes Go.ChangeAt Go.RowKit
set_option linter.unusedVariables false

theorem n_ErrShortBuffer : Tryd.prog.globalNamed "io.ErrShortBuffer" = some 1 := by kernel_rfl
theorem t_ErrShortBuffer : (Tryd.prog.globals[1]?).map (·.type) = some 55 := by kernel_rfl
theorem n_errTryAgain : Tryd.prog.globalNamed "loop.example/pub-g03055/pub/sctp.errTryAgain" = some 0 := by kernel_rfl
theorem t_errTryAgain : (Tryd.prog.globals[0]?).map (·.type) = some 55 := by kernel_rfl
theorem n_errReassemblyQueueLimitExceeded : Tryd.prog.globalNamed "loop.example/pub-g03055/pub/sctp.errReassemblyQueueLimitExceeded" = some 2 := by kernel_rfl
theorem t_errReassemblyQueueLimitExceeded : (Tryd.prog.globals[2]?).map (·.type) = some 55 := by kernel_rfl
theorem n_errReassemblyQueueMIDLimitExceeded : Tryd.prog.globalNamed "loop.example/pub-g03055/pub/sctp.errReassemblyQueueMIDLimitExceeded" = some 3 := by kernel_rfl
theorem t_errReassemblyQueueMIDLimitExceeded : (Tryd.prog.globals[3]?).map (·.type) = some 55 := by kernel_rfl

theorem err_of_laid {W : World} (h : laidMetH Tryd.prog Rows.fnReassembleUnorderedRow.laid W) {n nm : String} {d : DataW Unit} {g : Nat} (hm : (n, DataW.iface nm d) ∈ Rows.fnReassembleUnorderedRow.laid) (hn : Tryd.prog.globalNamed n = some g) (ht : (Tryd.prog.globals[g]?).map (·.type) = some 55) : GlobErr W g := by
  obtain ⟨ps, hL, _⟩ : laidMet Tryd.prog Rows.fnReassembleUnorderedRow.laid W := h
  obtain ⟨u, v, hv⟩ := laid_err _ ps hL n nm d g 55 _ hm hn ht Tryd.underlying55
  exact ⟨u, v, by simpa using World.var?_cell hn hv 0⟩

noncomputable def low : Nat := (World.holding Tryd.prog default ⟨#[], #[], []⟩).heap.size
noncomputable def laidWorld (os : Os) : World :=
  let w0 := World.holding Tryd.prog os ⟨#[.cells #[.string { data := #[115, 104, 111, 114, 116, 32, 98, 117, 102, 102, 101, 114] }] 154, .cells #[.string { data := #[116, 114, 121, 32, 97, 103, 97, 105, 110] }] 154, .cells #[.string { data := #[114, 101, 97, 115, 115, 101, 109, 98, 108, 121, 32, 113, 117, 101, 117, 101, 32, 100, 97, 116, 97, 32, 108, 105, 109, 105, 116, 32, 101, 120, 99, 101, 101, 100, 101, 100] }] 154, .cells #[.string { data := #[114, 101, 97, 115, 115, 101, 109, 98, 108, 121, 32, 113, 117, 101, 117, 101, 32, 105, 45, 100, 97, 116, 97, 32, 109, 101, 115, 115, 97, 103, 101, 32, 105, 100, 101, 110, 116, 105, 102, 105, 101, 114, 32, 108, 105, 109, 105, 116, 32, 101, 120, 99, 101, 101, 100, 101, 100] }] 154], #[], []⟩
  { w0 with heap := ((((w0.heap.modify 1 fun | .cells _ t frozen => .cells #[.iface 135 (.pointer (some ⟨low + 0, 0, none⟩))] t frozen | o => o).modify 0 fun | .cells _ t frozen => .cells #[.iface 135 (.pointer (some ⟨low + 1, 0, none⟩))] t frozen | o => o).modify 2 fun | .cells _ t frozen => .cells #[.iface 135 (.pointer (some ⟨low + 2, 0, none⟩))] t frozen | o => o).modify 3 fun | .cells _ t frozen => .cells #[.iface 135 (.pointer (some ⟨low + 3, 0, none⟩))] t frozen | o => o) }
theorem laid_met (os : Os) : laidMet Tryd.prog Rows.fnReassembleUnorderedRow.laid ((laidWorld os).forCall (fun _ _ => 0) ⟨#[], #[.int .u32 0, .int .i64 0, .slice none 0 0, .int .i64 0, .slice none 0 0], []⟩).memory :=
  laidMet_of_run' 8 (by kernel_rfl) (by kernel_rfl)
theorem reads (os : Os) {H : Type} (enc : TypeId × Value → H) : ∃ places, DataW.whole enc Tryd.prog ((laidWorld os).forCall (fun _ _ => 0) ⟨#[], #[.int .u32 0, .int .i64 0, .slice none 0 0, .int .i64 0, .slice none 0 0], []⟩).memory Tryd.f5.params.toList Rows.fnReassembleUnorderedSpec.vars false #[Value.int .u32 0, Value.int .i64 0, Value.slice none 0 0, Value.int .i64 0, Value.slice none 0 0].toList 8 = some ([.lit (.int .u32 0), .lit (.int .i64 0), .nil, .lit (.int .i64 0), .nil], [.held (enc (135, .pointer (some ⟨low + 2, 0, none⟩))), .held (enc (135, .pointer (some ⟨low + 3, 0, none⟩))), .held (enc (135, .pointer (some ⟨low + 1, 0, none⟩)))], places) :=
  ⟨[.cell 2 0, .cell 3 0, .cell 0 0], by kernel_rfl⟩

set_option maxHeartbeats 1000000 in
set_option maxRecDepth 100000 in
theorem contract (H : Type) (enc : TypeId × Value → H) (W : World) (base : Nat) (args : Array Value) (ds gs : List (DataW H)) (before : List MemPlace)
    (hval : ∀ (j : Nat) t v, Tryd.f5.params[j]? = some t → args[j]? = some v → Value.okWide Tryd.prog W .any base t v)
    (hW : DataW.Whole enc Tryd.prog Tryd.f5.params.toList Rows.fnReassembleUnorderedSpec.vars false W args.toList ds gs before) (hL : laidMetH Tryd.prog Rows.fnReassembleUnorderedRow.laid W) :
    Calls Tryd.prog 5 args W fun e W' => ∃ v, e = .returned v ∧ Rows.fnReassembleUnorderedSpec.post enc Tryd.prog Tryd.f5 false true false false W args v W' := by
  have hW' := hW
  obtain ⟨p, q, hA0, hV0, rfl, hfz, hnd⟩ := hW
  have hA : DataW.TrodAll enc Tryd.prog W 0 (fun _ => true) true Tryd.f5.params.toList args.toList ds p := hA0
  have hV : DataW.TrodVars enc Tryd.prog W (fun _ => true) ["loop.example/pub-g03055/pub/sctp.errReassemblyQueueLimitExceeded", "loop.example/pub-g03055/pub/sctp.errReassemblyQueueMIDLimitExceeded", "loop.example/pub-g03055/pub/sctp.errTryAgain"] gs q := hV0
  rw [Tryd.params5] at hA hval
  obtain ⟨v0, vs0, d0, ds0, p0, q0, hargs0, rfl, rfl, h0, r0⟩ := trodAll_cons hA
  obtain ⟨v1, vs1, d1, ds1, p1, q1, hargs1, rfl, rfl, h1, r1⟩ := trodAll_cons r0
  obtain ⟨v2, vs2, d2, ds2, p2, q2, hargs2, rfl, rfl, h2, r2⟩ := trodAll_cons r1
  obtain ⟨v3, vs3, d3, ds3, p3, q3, hargs3, rfl, rfl, h3, r3⟩ := trodAll_cons r2
  obtain ⟨v4, vs4, d4, ds4, p4, q4, hargs4, rfl, rfl, h4, r4⟩ := trodAll_cons r3
  obtain ⟨rfl, rfl, rfl⟩ := trodAll_nil r4
  obtain rfl : args = #[v0, v1, v2, v3, v4] := by cases args; simp_all
  obtain ⟨x0, rfl, rfl, rfl, wt0⟩ := open_int Tryd.underlying22 (hval 0 22 v0 rfl rfl) h0
  obtain ⟨x1, rfl, rfl, rfl, wt1⟩ := open_int Tryd.underlying3 (hval 1 3 v1 rfl rfl) h1
  obtain ⟨a2, len2, cap2, rfl⟩ := okWide_slice Tryd.underlying29 (hval 2 29 v2 rfl rfl)
  have k2 := h2
  have lt2 : ∀ x ∈ p2, x.block < W.heap.size := by obtain ⟨m, hm⟩ := k2; exact DataW.trod_lt m _ _ _ hm
  obtain ⟨l2, b2⟩ : ∃ l, BytesAt W a2 len2 cap2 l := by
    obtain ⟨fuel, hf⟩ := h2
    rcases open_ints Tryd.underlying29 Tryd.underlying5 (by kernel_rfl) hf with ⟨hcs, _⟩ | ⟨x, l, c, zs, hcs, _, hl, hm, hz, _, hcell, hwz⟩
    · simp [Value.cells] at hcs
      obtain ⟨rfl, rfl, rfl⟩ := hcs
      exact ⟨[], bytes_nil W⟩
    · simp [Value.cells] at hcs
      obtain ⟨rfl, rfl, rfl⟩ := hcs
      exact ⟨zs.take len2, bytes_of_row hl (by simpa using hz) hcell hwz⟩
  obtain ⟨x3, rfl, rfl, rfl, wt3⟩ := open_int Tryd.underlying3 (hval 3 3 v3 rfl rfl) h3
  obtain ⟨a4, len4, cap4, rfl⟩ := okWide_slice Tryd.underlying24 (hval 4 24 v4 rfl rfl)
  have k4 := h4
  have lt4 : ∀ x ∈ p4, x.block < W.heap.size := by obtain ⟨m, hm⟩ := k4; exact DataW.trod_lt m _ _ _ hm
  obtain ⟨l4, b4⟩ : ∃ l, IntsAt W a4 len4 cap4 l := by
    obtain ⟨fuel, hf⟩ := h4
    rcases open_ints Tryd.underlying24 Tryd.underlying3 (by kernel_rfl) hf with ⟨hcs, _⟩ | ⟨x, l, c, zs, hcs, _, hl, hm, hz, _, hcell, hwz⟩
    · simp [Value.cells] at hcs
      obtain ⟨rfl, rfl, rfl⟩ := hcs
      exact ⟨[], ints_nil W⟩
    · simp [Value.cells] at hcs
      obtain ⟨rfl, rfl, rfl⟩ := hcs
      exact ⟨zs.take len4, ints_of_row hl (by simpa using hz) hcell⟩
  have bt0 : 0 ≤ x0 ∧ x0 < 4294967296 := by
    have := wt0
    simp [Lit.wf, IntKind.min, IntKind.max, IntKind.bits, IntKind.signed] at this
    omega
  obtain ⟨y1, y2, y3, rfl⟩ : ∃ y1 y2 y3, gs = [y1, y2, y3] := by
    have hlen := vars_length _ _ _ hV
    match gs, hlen with
    | [y1, y2, y3], _ => exact ⟨_, _, _, rfl⟩
  have ge1 : GlobErr W 1 := err_of_laid hL (List.mem_of_getElem? (i := 0) rfl) n_ErrShortBuffer t_ErrShortBuffer
  have ge0 : GlobErr W 0 := err_of_laid hL (List.mem_of_getElem? (i := 1) rfl) n_errTryAgain t_errTryAgain
  have ge2 : GlobErr W 2 := err_of_laid hL (List.mem_of_getElem? (i := 2) rfl) n_errReassemblyQueueLimitExceeded t_errReassemblyQueueLimitExceeded
  have ge3 : GlobErr W 3 := err_of_laid hL (List.mem_of_getElem? (i := 3) rfl) n_errReassemblyQueueMIDLimitExceeded t_errReassemblyQueueMIDLimitExceeded
  clear hA0 hV0
  refine (unord_all b2 b4 bt0 ge0 ge1).mono fun e W' ⟨he, bel⟩ => ?_
  subst he
  have tv := vars_again (W' := W') (sp' := fun x => decide (x < W.heap.size)) _ _ _ hV (by kernel_rfl) (vars_below bel (by kernel_rfl))
  exact ⟨_, rfl, _, _, _, [], _, _, hW', trodAll_mk1 (shut_bool Tryd.underlying4 _), (trodAll_cons_mk (shut_int Tryd.underlying22 wt0) (trodAll_cons_mk (shut_int Tryd.underlying3 wt1) (trodAll_cons_mk (Below.trod laidOut (by kernel_rfl) (of_decide_eq_true (by kernel_rfl)) k2 bel lt2) (trodAll_cons_mk (shut_int Tryd.underlying3 wt3) (trodAll_cons_mk (Below.trod laidOut (by kernel_rfl) (of_decide_eq_true (by kernel_rfl)) k4 bel lt4) trodAll_mk0))))), tv, bel.frame _, fun h => by cases h⟩

set_option maxRecDepth 100000 in
theorem lifted (os : Os) (started : os.Started) (H : Type) (enc : TypeId × Value → H) (F : Stop.Interp) :
    ReturnsInHanded {} Tryd.checked os 5 .any ((OpenSpec.ofChange Rows.fnReassembleUnorderedSpec).preRow enc Tryd.prog Tryd.f5 Rows.fnReassembleUnorderedRow.domain false Rows.fnReassembleUnorderedRow.laid) (((OpenSpec.ofChange Rows.fnReassembleUnorderedSpec).at F).post enc Tryd.prog Tryd.f5 false true false false) := by
  obtain ⟨places, hx⟩ := reads os enc
  refine returnsInHanded_of_row (C := Tryd.checked) (s := OpenSpec.ofChange Rows.fnReassembleUnorderedSpec) own started (by kernel_rfl) Tryd.func5
    (witness_row_atRef (enc := enc) (C := Tryd.checked) false (laidWorld os) #[.int .u32 0, .int .i64 0, .slice none 0 0, .int .i64 0, .slice none 0 0] rfl (by kernel_rfl) (by kernel_rfl) (by kernel_rfl)
      (OpenSpec.preRow_of_cond 8 hx (by kernel_rfl) (fun k hk => by cases hk) (by kernel_rfl) (laid_met os))) ?_
  intro W base args ds gs before hval hW _ _ _ hL _ _
  exact contract H enc W base args ds gs before hval hW hL

theorem said : Rows.FnReassembleUnorderedSaid :=
  OpenClaim.holds_of_cond 5 Tryd.f5 rfl rfl rfl rfl rfl rfl rfl ⟨rfl, rfl, rfl, rfl, rfl⟩ rfl rfl rfl rfl rfl (by kernel_rfl) Tryd.func5 (by kernel_rfl)
    (of_decide_eq_true (by kernel_rfl)) (by unfold Func.isWrapper; first | (rw [if_pos (by decide +kernel)]; kernel_rfl) | (rw [if_neg (by decide +kernel)]; exact ⟨rfl, rfl⟩))
    (fun os started H enc _ F => by rw [OpenClaim.pre_eq_preRow]; exact lifted os started H enc F)

theorem plain (f : FuncId) (fn : Func) (hf : Tryd.pinned.checked.prog.funcNamed "loop.example/pub-g03055/laws.FnReassembleUnordered" = some f) (hfn : Tryd.pinned.checked.prog.funcs[f]? = some fn) :
    false = Tryd.pinned.checked.prog.looks [] ∧ ∀ (j : Nat) t, fn.params[j]? = some t → Tryd.pinned.checked.prog.wantsStandIn t = false := by
  obtain rfl : f = 5 := Option.some.inj ((show Tryd.prog.funcNamed "loop.example/pub-g03055/laws.FnReassembleUnordered" = some 5 by kernel_rfl).symm.trans hf) |>.symm
  obtain rfl : fn = Tryd.f5 := (Option.some.inj (Tryd.func5.symm.trans hfn)).symm
  refine ⟨by kernel_rfl, fun j t ht => ?_⟩
  rw [Tryd.params5] at ht
  have hm := Array.mem_of_getElem? ht
  simp only [List.mem_toArray, List.mem_cons, List.not_mem_nil, or_false] at hm
  rcases hm with rfl | rfl | rfl | rfl | rfl
  · exact (show Tryd.prog.wantsStandIn 22 = false by kernel_rfl)
  · exact (show Tryd.prog.wantsStandIn 3 = false by kernel_rfl)
  · exact (show Tryd.prog.wantsStandIn 29 = false by kernel_rfl)
  · exact (show Tryd.prog.wantsStandIn 3 = false by kernel_rfl)
  · exact (show Tryd.prog.wantsStandIn 24 = false by kernel_rfl)

theorem card : Rows.FnReassembleUnorderedCardSaid :=
  Claim7.holds_tied_plain_at .later [] _ _ _ _ said (fun _ h => by cases h) (by kernel_rfl) (fun _ h => by cases h) fnReassembleUnordered_row_tie rfl ⟨rfl, rfl⟩ (by kernel_rfl) rfl plain (by kernel_rfl)
#print axioms card
end Go.Proofs.YtmniikihkpikdaaDoor.fnReassembleUnordered
