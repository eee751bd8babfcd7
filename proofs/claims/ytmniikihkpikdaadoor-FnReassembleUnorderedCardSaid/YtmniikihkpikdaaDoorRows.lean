/-
  NARROWER THAN 'FOR EVERY INPUT', by the rows' own cells (each row's printed sentence says how): FnReassembleMissing: ifaces, laid · FnReassembleSmall: ifaces, laid · FnReassembleUnordered: ifaces, laid.
  DERIVED. THE GIVEN ROWS OF THIS SEAT. 3 by the template 'for every input the law returns true; each argument reads behind the call as it read before'; 0 by the template 'total and deterministic' (their statements: YtmniikihkpikdaaDoorTotals.lean).
  GIVEN WITH THE SEED: the statements are not yours to turn. If you find one false, say at which input.
  Laid BY PROGRAM, IN A SANDBOX (cutbox-rows.mjs): the forced cells as the released guide's own fill.sh prints them over the translation d2799f8a49099b48… (all of the seat's roots in one cut). By AI agents, Wed Nov 11 2026. No macro, syntax, notation, axiom, sorry.
-/
import Derived.Test.YtmniikihkpikdaaDoorChecked
import GoSem.Claim
import GoSem.ClaimJoined
import GoSem.ClaimMapViews
import Derived.JoinedTies
import Derived.KernelRfl
namespace Go.Proofs.YtmniikihkpikdaaDoor
/- THE CELL 'sum', in the pinned program and in every row, IS THE sha256 OF THE DUMP (.gsa) THAT YtmniikihkpikdaaDoorProg.lean LOADS. Nothing in Lean hashes anything: it is a label: what it is worth is what the hold of that sum in a sandbox is worth. -/
noncomputable def Tryd.pinned : Pinned := { name := "ytmniikihkpikdaadoor", sum := "d2799f8a49099b4857091062c303af57cdc74da3298f7b6a69cf403876e30f8a", checked := Tryd.checked }
namespace Rows
def none {H : Type} : Left H := { results := [], args := [] }

/- WHAT THE LISTED PACKAGE-LEVEL VARIABLES READ AS WHEN THE CALL BEGINS. Each datum BY PROGRAM (the guide's laid-datum.mjs) off the statement by which the dump's own 'gosem.cut.vars' lays the variable. In a bare row this is a premise. The card (YtmniikihkpikdaaDoorCards.lean) ties it to the program's text. -/
def laid_io_ErrShortBuffer {H : Type} : DataW H := .iface "*errors.errorString" (.ptr (.agg [.lit (.string [115, 104, 111, 114, 116, 32, 98, 117, 102, 102, 101, 114])]))
def laid_loop_example_pub_g03055_pub_sctp_errTryAgain {H : Type} : DataW H := .iface "*errors.errorString" (.ptr (.agg [.lit (.string [116, 114, 121, 32, 97, 103, 97, 105, 110])]))
def laid_loop_example_pub_g03055_pub_sctp_errReassemblyQueueLimitExceeded {H : Type} : DataW H := .iface "*errors.errorString" (.ptr (.agg [.lit (.string [114, 101, 97, 115, 115, 101, 109, 98, 108, 121, 32, 113, 117, 101, 117, 101, 32, 100, 97, 116, 97, 32, 108, 105, 109, 105, 116, 32, 101, 120, 99, 101, 101, 100, 101, 100])]))
def laid_loop_example_pub_g03055_pub_sctp_errReassemblyQueueMIDLimitExceeded {H : Type} : DataW H := .iface "*errors.errorString" (.ptr (.agg [.lit (.string [114, 101, 97, 115, 115, 101, 109, 98, 108, 121, 32, 113, 117, 101, 117, 101, 32, 105, 45, 100, 97, 116, 97, 32, 109, 101, 115, 115, 97, 103, 101, 32, 105, 100, 101, 110, 116, 105, 102, 105, 101, 114, 32, 108, 105, 109, 105, 116, 32, 101, 120, 99, 101, 101, 100, 101, 100])]))

/-- 'laws.FnReassembleMissing': WHATEVER THE INPUT: true; the input reads as it did. -/
def fnReassembleMissingSpec : ChangeSpec := { name := "fnReassembleMissing", vars := ["loop.example/pub-g03055/pub/sctp.errReassemblyQueueLimitExceeded", "loop.example/pub-g03055/pub/sctp.errReassemblyQueueMIDLimitExceeded", "loop.example/pub-g03055/pub/sctp.errTryAgain"], fn := fun _ => fun
  | [d1, d2, d3, d4, d5, d6, g1, g2, g3] => { results := [.lit (.bool true)], args := [d1, d2, d3, d4, d5, d6], vars := [g1, g2, g3] }
  | _ => none }
def fnReassembleMissingRow : OpenClaim := { program := "ytmniikihkpikdaadoor", sum := "d2799f8a49099b4857091062c303af57cdc74da3298f7b6a69cf403876e30f8a", func := "loop.example/pub-g03055/laws.FnReassembleMissing", spec := "fnReassembleMissing", inPlace := ["internal/reflectlite.ValueOf", "internal/reflectlite.Swapper", "(internal/reflectlite.Value).Len", "sync/atomic.AddUint64", "sync/atomic.LoadUint64", "sync/atomic.StoreUint64"], unfollowed := true, recurses := true, named := ["loop.example/pub-g03055/pub/sctp.errReassemblyQueueLimitExceeded", "loop.example/pub-g03055/pub/sctp.errReassemblyQueueMIDLimitExceeded", "loop.example/pub-g03055/pub/sctp.errTryAgain", "io.ErrShortBuffer"], ifaces := true, apart := false, laid := [("io.ErrShortBuffer", laid_io_ErrShortBuffer), ("loop.example/pub-g03055/pub/sctp.errTryAgain", laid_loop_example_pub_g03055_pub_sctp_errTryAgain), ("loop.example/pub-g03055/pub/sctp.errReassemblyQueueLimitExceeded", laid_loop_example_pub_g03055_pub_sctp_errReassemblyQueueLimitExceeded), ("loop.example/pub-g03055/pub/sctp.errReassemblyQueueMIDLimitExceeded", laid_loop_example_pub_g03055_pub_sctp_errReassemblyQueueMIDLimitExceeded)] }
def FnReassembleMissingSaid : Prop := fnReassembleMissingRow.holds Tryd.pinned (OpenSpec.ofChange fnReassembleMissingSpec)

/-- ITS FALSE NEIGHBOUR: 'it returns false'. Refute it at one input. -/
def fnReassembleMissingWrong : ChangeSpec := { name := "fnReassembleMissing", vars := ["loop.example/pub-g03055/pub/sctp.errReassemblyQueueLimitExceeded", "loop.example/pub-g03055/pub/sctp.errReassemblyQueueMIDLimitExceeded", "loop.example/pub-g03055/pub/sctp.errTryAgain"], fn := fun _ => fun
  | [d1, d2, d3, d4, d5, d6, g1, g2, g3] => { results := [.lit (.bool false)], args := [d1, d2, d3, d4, d5, d6], vars := [g1, g2, g3] }
  | _ => none }
def FnReassembleMissingWrongFalsely : Prop := fnReassembleMissingRow.holds Tryd.pinned (OpenSpec.ofChange fnReassembleMissingWrong)

/-- 'laws.FnReassembleSmall': WHATEVER THE INPUT: true; the input reads as it did. -/
def fnReassembleSmallSpec : ChangeSpec := { name := "fnReassembleSmall", vars := ["loop.example/pub-g03055/pub/sctp.errReassemblyQueueLimitExceeded", "loop.example/pub-g03055/pub/sctp.errReassemblyQueueMIDLimitExceeded", "loop.example/pub-g03055/pub/sctp.errTryAgain"], fn := fun _ => fun
  | [d1, d2, d3, d4, d5, d6, g1, g2, g3] => { results := [.lit (.bool true)], args := [d1, d2, d3, d4, d5, d6], vars := [g1, g2, g3] }
  | _ => none }
def fnReassembleSmallRow : OpenClaim := { program := "ytmniikihkpikdaadoor", sum := "d2799f8a49099b4857091062c303af57cdc74da3298f7b6a69cf403876e30f8a", func := "loop.example/pub-g03055/laws.FnReassembleSmall", spec := "fnReassembleSmall", inPlace := ["internal/reflectlite.ValueOf", "internal/reflectlite.Swapper", "(internal/reflectlite.Value).Len", "sync/atomic.AddUint64", "sync/atomic.LoadUint64", "sync/atomic.StoreUint64"], unfollowed := true, recurses := true, named := ["loop.example/pub-g03055/pub/sctp.errReassemblyQueueLimitExceeded", "loop.example/pub-g03055/pub/sctp.errReassemblyQueueMIDLimitExceeded", "loop.example/pub-g03055/pub/sctp.errTryAgain", "io.ErrShortBuffer"], ifaces := true, apart := false, laid := [("io.ErrShortBuffer", laid_io_ErrShortBuffer), ("loop.example/pub-g03055/pub/sctp.errTryAgain", laid_loop_example_pub_g03055_pub_sctp_errTryAgain), ("loop.example/pub-g03055/pub/sctp.errReassemblyQueueLimitExceeded", laid_loop_example_pub_g03055_pub_sctp_errReassemblyQueueLimitExceeded), ("loop.example/pub-g03055/pub/sctp.errReassemblyQueueMIDLimitExceeded", laid_loop_example_pub_g03055_pub_sctp_errReassemblyQueueMIDLimitExceeded)] }
def FnReassembleSmallSaid : Prop := fnReassembleSmallRow.holds Tryd.pinned (OpenSpec.ofChange fnReassembleSmallSpec)

/-- ITS FALSE NEIGHBOUR: 'it returns false'. Refute it at one input. -/
def fnReassembleSmallWrong : ChangeSpec := { name := "fnReassembleSmall", vars := ["loop.example/pub-g03055/pub/sctp.errReassemblyQueueLimitExceeded", "loop.example/pub-g03055/pub/sctp.errReassemblyQueueMIDLimitExceeded", "loop.example/pub-g03055/pub/sctp.errTryAgain"], fn := fun _ => fun
  | [d1, d2, d3, d4, d5, d6, g1, g2, g3] => { results := [.lit (.bool false)], args := [d1, d2, d3, d4, d5, d6], vars := [g1, g2, g3] }
  | _ => none }
def FnReassembleSmallWrongFalsely : Prop := fnReassembleSmallRow.holds Tryd.pinned (OpenSpec.ofChange fnReassembleSmallWrong)

/-- 'laws.FnReassembleUnordered': WHATEVER THE INPUT: true; the input reads as it did. -/
def fnReassembleUnorderedSpec : ChangeSpec := { name := "fnReassembleUnordered", vars := ["loop.example/pub-g03055/pub/sctp.errReassemblyQueueLimitExceeded", "loop.example/pub-g03055/pub/sctp.errReassemblyQueueMIDLimitExceeded", "loop.example/pub-g03055/pub/sctp.errTryAgain"], fn := fun _ => fun
  | [d1, d2, d3, d4, d5, g1, g2, g3] => { results := [.lit (.bool true)], args := [d1, d2, d3, d4, d5], vars := [g1, g2, g3] }
  | _ => none }
def fnReassembleUnorderedRow : OpenClaim := { program := "ytmniikihkpikdaadoor", sum := "d2799f8a49099b4857091062c303af57cdc74da3298f7b6a69cf403876e30f8a", func := "loop.example/pub-g03055/laws.FnReassembleUnordered", spec := "fnReassembleUnordered", inPlace := ["internal/reflectlite.ValueOf", "internal/reflectlite.Swapper", "(internal/reflectlite.Value).Len", "sync/atomic.AddUint64", "sync/atomic.LoadUint64", "sync/atomic.StoreUint64"], unfollowed := true, recurses := true, named := ["loop.example/pub-g03055/pub/sctp.errReassemblyQueueLimitExceeded", "loop.example/pub-g03055/pub/sctp.errReassemblyQueueMIDLimitExceeded", "loop.example/pub-g03055/pub/sctp.errTryAgain", "io.ErrShortBuffer"], ifaces := true, apart := false, laid := [("io.ErrShortBuffer", laid_io_ErrShortBuffer), ("loop.example/pub-g03055/pub/sctp.errTryAgain", laid_loop_example_pub_g03055_pub_sctp_errTryAgain), ("loop.example/pub-g03055/pub/sctp.errReassemblyQueueLimitExceeded", laid_loop_example_pub_g03055_pub_sctp_errReassemblyQueueLimitExceeded), ("loop.example/pub-g03055/pub/sctp.errReassemblyQueueMIDLimitExceeded", laid_loop_example_pub_g03055_pub_sctp_errReassemblyQueueMIDLimitExceeded)] }
def FnReassembleUnorderedSaid : Prop := fnReassembleUnorderedRow.holds Tryd.pinned (OpenSpec.ofChange fnReassembleUnorderedSpec)

/-- ITS FALSE NEIGHBOUR: 'it returns false'. Refute it at one input. -/
def fnReassembleUnorderedWrong : ChangeSpec := { name := "fnReassembleUnordered", vars := ["loop.example/pub-g03055/pub/sctp.errReassemblyQueueLimitExceeded", "loop.example/pub-g03055/pub/sctp.errReassemblyQueueMIDLimitExceeded", "loop.example/pub-g03055/pub/sctp.errTryAgain"], fn := fun _ => fun
  | [d1, d2, d3, d4, d5, g1, g2, g3] => { results := [.lit (.bool false)], args := [d1, d2, d3, d4, d5], vars := [g1, g2, g3] }
  | _ => none }
def FnReassembleUnorderedWrongFalsely : Prop := fnReassembleUnorderedRow.holds Tryd.pinned (OpenSpec.ofChange fnReassembleUnorderedWrong)

/- THE SECOND FORM. 'bulk': how many values and letters a reading holds, each counted each time it is reached (what is shared counts as often as it is met; a slice's spare places count too). A statement '..UptoSaid' is the law's where the arguments, and the package variables that the reading takes, are together of bulk at most 1048576: NARROWER than '..Said'. Prove '..Said' where nothing that the law and all that it calls make is longer than what came in: it says more and counts as full. Else prove '..UptoSaid'. A law counts once. -/
mutual
def uptoBulk {H : Type} : DataW H → Nat
  | .lit (.string bytes) => bytes.length + 1
  | .lit _ => 1
  | .nil => 1
  | .ptr d => uptoBulk d + 1
  | .slice elems spare => uptoBulkAll elems + uptoBulkAll spare + 1
  | .agg parts => uptoBulkAll parts + 1
  | .iface _ d => uptoBulk d + 1
  | .map entries => uptoBulkEntries entries + 1
  | .held _ => 1
def uptoBulkAll {H : Type} : List (DataW H) → Nat
  | [] => 0
  | d :: r => uptoBulk d + uptoBulkAll r
def uptoBulkEntries {H : Type} : List (Lit × DataW H) → Nat
  | [] => 0
  | x :: r => uptoBulkEntry x + uptoBulkEntries r
def uptoBulkEntry {H : Type} : Lit × DataW H → Nat
  | (.string bytes, d) => bytes.length + uptoBulk d + 1
  | (_, d) => uptoBulk d + 1
 end
def uptoSmall : (H : Type) → List (DataW H) → Bool := fun _ ds => decide (uptoBulkAll ds ≤ 1048576)
def OpenSpec.upto (s : _root_.Go.ChangeSpec) : _root_.Go.OpenSpec := { _root_.Go.OpenSpec.ofChange s with cond := some uptoSmall }

/-- 'laws.FnReassembleMissing', WHERE WHAT IT READS IS OF BULK AT MOST 1048576: true; the input reads as it did. -/
def fnReassembleMissingUptoRow : OpenClaim := { program := "ytmniikihkpikdaadoor", sum := "d2799f8a49099b4857091062c303af57cdc74da3298f7b6a69cf403876e30f8a", func := "loop.example/pub-g03055/laws.FnReassembleMissing", spec := "fnReassembleMissing", inPlace := ["internal/reflectlite.ValueOf", "internal/reflectlite.Swapper", "(internal/reflectlite.Value).Len", "sync/atomic.AddUint64", "sync/atomic.LoadUint64", "sync/atomic.StoreUint64"], unfollowed := true, recurses := true, named := ["loop.example/pub-g03055/pub/sctp.errReassemblyQueueLimitExceeded", "loop.example/pub-g03055/pub/sctp.errReassemblyQueueMIDLimitExceeded", "loop.example/pub-g03055/pub/sctp.errTryAgain", "io.ErrShortBuffer"], ifaces := true, apart := false, laid := [("io.ErrShortBuffer", laid_io_ErrShortBuffer), ("loop.example/pub-g03055/pub/sctp.errTryAgain", laid_loop_example_pub_g03055_pub_sctp_errTryAgain), ("loop.example/pub-g03055/pub/sctp.errReassemblyQueueLimitExceeded", laid_loop_example_pub_g03055_pub_sctp_errReassemblyQueueLimitExceeded), ("loop.example/pub-g03055/pub/sctp.errReassemblyQueueMIDLimitExceeded", laid_loop_example_pub_g03055_pub_sctp_errReassemblyQueueMIDLimitExceeded)], narrowed := true }
def FnReassembleMissingUptoSaid : Prop := fnReassembleMissingUptoRow.holds Tryd.pinned (OpenSpec.upto fnReassembleMissingSpec)

/-- 'laws.FnReassembleSmall', WHERE WHAT IT READS IS OF BULK AT MOST 1048576: true; the input reads as it did. -/
def fnReassembleSmallUptoRow : OpenClaim := { program := "ytmniikihkpikdaadoor", sum := "d2799f8a49099b4857091062c303af57cdc74da3298f7b6a69cf403876e30f8a", func := "loop.example/pub-g03055/laws.FnReassembleSmall", spec := "fnReassembleSmall", inPlace := ["internal/reflectlite.ValueOf", "internal/reflectlite.Swapper", "(internal/reflectlite.Value).Len", "sync/atomic.AddUint64", "sync/atomic.LoadUint64", "sync/atomic.StoreUint64"], unfollowed := true, recurses := true, named := ["loop.example/pub-g03055/pub/sctp.errReassemblyQueueLimitExceeded", "loop.example/pub-g03055/pub/sctp.errReassemblyQueueMIDLimitExceeded", "loop.example/pub-g03055/pub/sctp.errTryAgain", "io.ErrShortBuffer"], ifaces := true, apart := false, laid := [("io.ErrShortBuffer", laid_io_ErrShortBuffer), ("loop.example/pub-g03055/pub/sctp.errTryAgain", laid_loop_example_pub_g03055_pub_sctp_errTryAgain), ("loop.example/pub-g03055/pub/sctp.errReassemblyQueueLimitExceeded", laid_loop_example_pub_g03055_pub_sctp_errReassemblyQueueLimitExceeded), ("loop.example/pub-g03055/pub/sctp.errReassemblyQueueMIDLimitExceeded", laid_loop_example_pub_g03055_pub_sctp_errReassemblyQueueMIDLimitExceeded)], narrowed := true }
def FnReassembleSmallUptoSaid : Prop := fnReassembleSmallUptoRow.holds Tryd.pinned (OpenSpec.upto fnReassembleSmallSpec)

/-- 'laws.FnReassembleUnordered', WHERE WHAT IT READS IS OF BULK AT MOST 1048576: true; the input reads as it did. -/
def fnReassembleUnorderedUptoRow : OpenClaim := { program := "ytmniikihkpikdaadoor", sum := "d2799f8a49099b4857091062c303af57cdc74da3298f7b6a69cf403876e30f8a", func := "loop.example/pub-g03055/laws.FnReassembleUnordered", spec := "fnReassembleUnordered", inPlace := ["internal/reflectlite.ValueOf", "internal/reflectlite.Swapper", "(internal/reflectlite.Value).Len", "sync/atomic.AddUint64", "sync/atomic.LoadUint64", "sync/atomic.StoreUint64"], unfollowed := true, recurses := true, named := ["loop.example/pub-g03055/pub/sctp.errReassemblyQueueLimitExceeded", "loop.example/pub-g03055/pub/sctp.errReassemblyQueueMIDLimitExceeded", "loop.example/pub-g03055/pub/sctp.errTryAgain", "io.ErrShortBuffer"], ifaces := true, apart := false, laid := [("io.ErrShortBuffer", laid_io_ErrShortBuffer), ("loop.example/pub-g03055/pub/sctp.errTryAgain", laid_loop_example_pub_g03055_pub_sctp_errTryAgain), ("loop.example/pub-g03055/pub/sctp.errReassemblyQueueLimitExceeded", laid_loop_example_pub_g03055_pub_sctp_errReassemblyQueueLimitExceeded), ("loop.example/pub-g03055/pub/sctp.errReassemblyQueueMIDLimitExceeded", laid_loop_example_pub_g03055_pub_sctp_errReassemblyQueueMIDLimitExceeded)], narrowed := true }
def FnReassembleUnorderedUptoSaid : Prop := fnReassembleUnorderedUptoRow.holds Tryd.pinned (OpenSpec.upto fnReassembleUnorderedSpec)

end Rows
end Go.Proofs.YtmniikihkpikdaaDoor
