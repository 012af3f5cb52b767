/-
  NARROWER THAN 'FOR EVERY INPUT', by the rows' own cells (each row's printed sentence says how): FnNopReads: ifaces, laid · FnNopRest: ifaces, laid · FnNopWriteTo: ifaces, laid · FnNopClose: ifaces, laid.
  DERIVED. THE GIVEN ROWS OF THIS SEAT. 4 by the template 'for every input the law returns true; each argument reads behind the call as it read before'; 0 by the template 'total and deterministic' (their statements: YtdcdbbcphkhmeaaDoorTotals.lean).
  GIVEN WITH THE SEED: the statements are not yours to turn. If you find one false, say at which input.
  Laid BY PROGRAM, IN A SANDBOX (cutbox-rows.mjs): the forced cells as the released guide's own fill.sh prints them over the translation fc0d128b48e1d64c… (all of the seat's roots in one cut). By AI agents, Wed Nov 11 2026. No macro, syntax, notation, axiom, sorry.
-/
import Derived.Test.YtdcdbbcphkhmeaaDoorChecked
import GoSem.Claim
import GoSem.ClaimJoined
import GoSem.ClaimMapViews
import Derived.JoinedTies
import Derived.KernelRfl
namespace Go.Proofs.YtdcdbbcphkhmeaaDoor
/- THE CELL 'sum', in the pinned program and in every row, IS THE sha256 OF THE DUMP (.gsa) THAT YtdcdbbcphkhmeaaDoorProg.lean LOADS. Nothing in Lean hashes anything: it is a label: what it is worth is what the hold of that sum in a sandbox is worth. -/
noncomputable def Tryd.pinned : Pinned := { name := "ytdcdbbcphkhmeaadoor", sum := "fc0d128b48e1d64c406c147ff5d9258af687530b20a422d0978282eea003cd0d", checked := Tryd.checked }
namespace Rows
def none {H : Type} : Left H := { results := [], args := [] }

/- WHAT THE LISTED PACKAGE-LEVEL VARIABLES READ AS WHEN THE CALL BEGINS. Each datum BY PROGRAM (the guide's laid-datum.mjs) off the statement by which the dump's own 'gosem.cut.vars' lays the variable. In a bare row this is a premise. The card (YtdcdbbcphkhmeaaDoorCards.lean) ties it to the program's text. -/
def laid_io_ErrShortWrite {H : Type} : DataW H := .iface "*errors.errorString" (.ptr (.agg [.lit (.string [115, 104, 111, 114, 116, 32, 119, 114, 105, 116, 101])]))
def laid_io_EOF {H : Type} : DataW H := .iface "*errors.errorString" (.ptr (.agg [.lit (.string [69, 79, 70])]))
def laid_loop_example_lib_g01387_impl_errSource {H : Type} : DataW H := .iface "*errors.errorString" (.ptr (.agg [.lit (.string [115, 111, 117, 114, 99, 101])]))
def laid_loop_example_lib_g01387_impl_errSink {H : Type} : DataW H := .iface "*errors.errorString" (.ptr (.agg [.lit (.string [115, 105, 110, 107])]))

/-- 'laws.FnNopReads': WHATEVER THE INPUT: true; the input reads as it did. -/
def fnNopReadsSpec : ChangeSpec := { name := "fnNopReads", vars := ["loop.example/lib-g01387/impl.errSource", "loop.example/lib-g01387/impl.errSink"], fn := fun _ => fun
  | [d1, d2, d3, d4, d5, d6, g1, g2] => { results := [.lit (.bool true)], args := [d1, d2, d3, d4, d5, d6], vars := [g1, g2] }
  | _ => none }
def fnNopReadsRow : OpenClaim := { program := "ytdcdbbcphkhmeaadoor", sum := "fc0d128b48e1d64c406c147ff5d9258af687530b20a422d0978282eea003cd0d", func := "loop.example/lib-g01387/laws.FnNopReads", spec := "fnNopReads", unfollowed := true, recurses := true, named := ["io.EOF", "loop.example/lib-g01387/impl.errSource", "loop.example/lib-g01387/impl.errSink", "io.ErrShortWrite"], ifaces := true, apart := false, laid := [("io.ErrShortWrite", laid_io_ErrShortWrite), ("io.EOF", laid_io_EOF), ("loop.example/lib-g01387/impl.errSource", laid_loop_example_lib_g01387_impl_errSource), ("loop.example/lib-g01387/impl.errSink", laid_loop_example_lib_g01387_impl_errSink)] }
def FnNopReadsSaid : Prop := fnNopReadsRow.holds Tryd.pinned (OpenSpec.ofChange fnNopReadsSpec)

/-- ITS FALSE NEIGHBOUR: 'it returns false'. Refute it at one input. -/
def fnNopReadsWrong : ChangeSpec := { name := "fnNopReads", vars := ["loop.example/lib-g01387/impl.errSource", "loop.example/lib-g01387/impl.errSink"], fn := fun _ => fun
  | [d1, d2, d3, d4, d5, d6, g1, g2] => { results := [.lit (.bool false)], args := [d1, d2, d3, d4, d5, d6], vars := [g1, g2] }
  | _ => none }
def FnNopReadsWrongFalsely : Prop := fnNopReadsRow.holds Tryd.pinned (OpenSpec.ofChange fnNopReadsWrong)

/-- 'laws.FnNopRest': WHATEVER THE INPUT: true; the input reads as it did. -/
def fnNopRestSpec : ChangeSpec := { name := "fnNopRest", vars := ["loop.example/lib-g01387/impl.errSource", "loop.example/lib-g01387/impl.errSink"], fn := fun _ => fun
  | [d1, d2, d3, d4, d5, d6, g1, g2] => { results := [.lit (.bool true)], args := [d1, d2, d3, d4, d5, d6], vars := [g1, g2] }
  | _ => none }
def fnNopRestRow : OpenClaim := { program := "ytdcdbbcphkhmeaadoor", sum := "fc0d128b48e1d64c406c147ff5d9258af687530b20a422d0978282eea003cd0d", func := "loop.example/lib-g01387/laws.FnNopRest", spec := "fnNopRest", unfollowed := true, recurses := true, named := ["io.EOF", "loop.example/lib-g01387/impl.errSource", "loop.example/lib-g01387/impl.errSink", "io.ErrShortWrite"], ifaces := true, apart := false, laid := [("io.ErrShortWrite", laid_io_ErrShortWrite), ("io.EOF", laid_io_EOF), ("loop.example/lib-g01387/impl.errSource", laid_loop_example_lib_g01387_impl_errSource), ("loop.example/lib-g01387/impl.errSink", laid_loop_example_lib_g01387_impl_errSink)] }
def FnNopRestSaid : Prop := fnNopRestRow.holds Tryd.pinned (OpenSpec.ofChange fnNopRestSpec)

/-- ITS FALSE NEIGHBOUR: 'it returns false'. Refute it at one input. -/
def fnNopRestWrong : ChangeSpec := { name := "fnNopRest", vars := ["loop.example/lib-g01387/impl.errSource", "loop.example/lib-g01387/impl.errSink"], fn := fun _ => fun
  | [d1, d2, d3, d4, d5, d6, g1, g2] => { results := [.lit (.bool false)], args := [d1, d2, d3, d4, d5, d6], vars := [g1, g2] }
  | _ => none }
def FnNopRestWrongFalsely : Prop := fnNopRestRow.holds Tryd.pinned (OpenSpec.ofChange fnNopRestWrong)

/-- 'laws.FnNopWriteTo': WHATEVER THE INPUT: true; the input reads as it did. -/
def fnNopWriteToSpec : ChangeSpec := { name := "fnNopWriteTo", vars := ["loop.example/lib-g01387/impl.errSource", "loop.example/lib-g01387/impl.errSink"], fn := fun _ => fun
  | [d1, d2, d3, d4, d5, d6, g1, g2] => { results := [.lit (.bool true)], args := [d1, d2, d3, d4, d5, d6], vars := [g1, g2] }
  | _ => none }
def fnNopWriteToRow : OpenClaim := { program := "ytdcdbbcphkhmeaadoor", sum := "fc0d128b48e1d64c406c147ff5d9258af687530b20a422d0978282eea003cd0d", func := "loop.example/lib-g01387/laws.FnNopWriteTo", spec := "fnNopWriteTo", unfollowed := true, recurses := true, named := ["io.EOF", "loop.example/lib-g01387/impl.errSource", "loop.example/lib-g01387/impl.errSink", "io.ErrShortWrite"], ifaces := true, apart := false, laid := [("io.ErrShortWrite", laid_io_ErrShortWrite), ("io.EOF", laid_io_EOF), ("loop.example/lib-g01387/impl.errSource", laid_loop_example_lib_g01387_impl_errSource), ("loop.example/lib-g01387/impl.errSink", laid_loop_example_lib_g01387_impl_errSink)] }
def FnNopWriteToSaid : Prop := fnNopWriteToRow.holds Tryd.pinned (OpenSpec.ofChange fnNopWriteToSpec)

/-- ITS FALSE NEIGHBOUR: 'it returns false'. Refute it at one input. -/
def fnNopWriteToWrong : ChangeSpec := { name := "fnNopWriteTo", vars := ["loop.example/lib-g01387/impl.errSource", "loop.example/lib-g01387/impl.errSink"], fn := fun _ => fun
  | [d1, d2, d3, d4, d5, d6, g1, g2] => { results := [.lit (.bool false)], args := [d1, d2, d3, d4, d5, d6], vars := [g1, g2] }
  | _ => none }
def FnNopWriteToWrongFalsely : Prop := fnNopWriteToRow.holds Tryd.pinned (OpenSpec.ofChange fnNopWriteToWrong)

/-- 'laws.FnNopClose': WHATEVER THE INPUT: true; the input reads as it did. -/
def fnNopCloseSpec : ChangeSpec := { name := "fnNopClose", vars := ["loop.example/lib-g01387/impl.errSource", "loop.example/lib-g01387/impl.errSink"], fn := fun _ => fun
  | [d1, d2, d3, d4, d5, d6, d7, g1, g2] => { results := [.lit (.bool true)], args := [d1, d2, d3, d4, d5, d6, d7], vars := [g1, g2] }
  | _ => none }
def fnNopCloseRow : OpenClaim := { program := "ytdcdbbcphkhmeaadoor", sum := "fc0d128b48e1d64c406c147ff5d9258af687530b20a422d0978282eea003cd0d", func := "loop.example/lib-g01387/laws.FnNopClose", spec := "fnNopClose", unfollowed := true, recurses := true, named := ["io.EOF", "loop.example/lib-g01387/impl.errSource", "loop.example/lib-g01387/impl.errSink", "io.ErrShortWrite"], ifaces := true, apart := false, laid := [("io.ErrShortWrite", laid_io_ErrShortWrite), ("io.EOF", laid_io_EOF), ("loop.example/lib-g01387/impl.errSource", laid_loop_example_lib_g01387_impl_errSource), ("loop.example/lib-g01387/impl.errSink", laid_loop_example_lib_g01387_impl_errSink)] }
def FnNopCloseSaid : Prop := fnNopCloseRow.holds Tryd.pinned (OpenSpec.ofChange fnNopCloseSpec)

/-- ITS FALSE NEIGHBOUR: 'it returns false'. Refute it at one input. -/
def fnNopCloseWrong : ChangeSpec := { name := "fnNopClose", vars := ["loop.example/lib-g01387/impl.errSource", "loop.example/lib-g01387/impl.errSink"], fn := fun _ => fun
  | [d1, d2, d3, d4, d5, d6, d7, g1, g2] => { results := [.lit (.bool false)], args := [d1, d2, d3, d4, d5, d6, d7], vars := [g1, g2] }
  | _ => none }
def FnNopCloseWrongFalsely : Prop := fnNopCloseRow.holds Tryd.pinned (OpenSpec.ofChange fnNopCloseWrong)

/- THE SECOND FORM. 'bulk': how many values and letters a reading holds, each counted each time it is reached (what is shared counts as often as it is met; a slice's spare places count too). A statement '..UptoSaid' is the law's where the arguments, and the package variables that the reading takes, are together of bulk at most 1048576: NARROWER than '..Said'. Prove '..Said' where nothing that the law and all that it calls make is longer than what came in: it says more and counts as full. Else prove '..UptoSaid'. A law counts once. -/
mutual
def uptoBulk {H : Type} : DataW H → Nat
  | .lit (.string bytes) => bytes.length + 1
  | .lit _ => 1
  | .nil => 1
  | .ptr d => uptoBulk d + 1
  | .slice elems spare => uptoBulkAll elems + uptoBulkAll spare + 1
  | .agg parts => uptoBulkAll parts + 1
  | .iface _ d => uptoBulk d + 1
  | .map entries => uptoBulkEntries entries + 1
  | .held _ => 1
def uptoBulkAll {H : Type} : List (DataW H) → Nat
  | [] => 0
  | d :: r => uptoBulk d + uptoBulkAll r
def uptoBulkEntries {H : Type} : List (Lit × DataW H) → Nat
  | [] => 0
  | x :: r => uptoBulkEntry x + uptoBulkEntries r
def uptoBulkEntry {H : Type} : Lit × DataW H → Nat
  | (.string bytes, d) => bytes.length + uptoBulk d + 1
  | (_, d) => uptoBulk d + 1
 end
def uptoSmall : (H : Type) → List (DataW H) → Bool := fun _ ds => decide (uptoBulkAll ds ≤ 1048576)
def OpenSpec.upto (s : _root_.Go.ChangeSpec) : _root_.Go.OpenSpec := { _root_.Go.OpenSpec.ofChange s with cond := some uptoSmall }

/-- 'laws.FnNopReads', WHERE WHAT IT READS IS OF BULK AT MOST 1048576: true; the input reads as it did. -/
def fnNopReadsUptoRow : OpenClaim := { program := "ytdcdbbcphkhmeaadoor", sum := "fc0d128b48e1d64c406c147ff5d9258af687530b20a422d0978282eea003cd0d", func := "loop.example/lib-g01387/laws.FnNopReads", spec := "fnNopReads", unfollowed := true, recurses := true, named := ["io.EOF", "loop.example/lib-g01387/impl.errSource", "loop.example/lib-g01387/impl.errSink", "io.ErrShortWrite"], ifaces := true, apart := false, laid := [("io.ErrShortWrite", laid_io_ErrShortWrite), ("io.EOF", laid_io_EOF), ("loop.example/lib-g01387/impl.errSource", laid_loop_example_lib_g01387_impl_errSource), ("loop.example/lib-g01387/impl.errSink", laid_loop_example_lib_g01387_impl_errSink)], narrowed := true }
def FnNopReadsUptoSaid : Prop := fnNopReadsUptoRow.holds Tryd.pinned (OpenSpec.upto fnNopReadsSpec)

/-- 'laws.FnNopRest', WHERE WHAT IT READS IS OF BULK AT MOST 1048576: true; the input reads as it did. -/
def fnNopRestUptoRow : OpenClaim := { program := "ytdcdbbcphkhmeaadoor", sum := "fc0d128b48e1d64c406c147ff5d9258af687530b20a422d0978282eea003cd0d", func := "loop.example/lib-g01387/laws.FnNopRest", spec := "fnNopRest", unfollowed := true, recurses := true, named := ["io.EOF", "loop.example/lib-g01387/impl.errSource", "loop.example/lib-g01387/impl.errSink", "io.ErrShortWrite"], ifaces := true, apart := false, laid := [("io.ErrShortWrite", laid_io_ErrShortWrite), ("io.EOF", laid_io_EOF), ("loop.example/lib-g01387/impl.errSource", laid_loop_example_lib_g01387_impl_errSource), ("loop.example/lib-g01387/impl.errSink", laid_loop_example_lib_g01387_impl_errSink)], narrowed := true }
def FnNopRestUptoSaid : Prop := fnNopRestUptoRow.holds Tryd.pinned (OpenSpec.upto fnNopRestSpec)

/-- 'laws.FnNopWriteTo', WHERE WHAT IT READS IS OF BULK AT MOST 1048576: true; the input reads as it did. -/
def fnNopWriteToUptoRow : OpenClaim := { program := "ytdcdbbcphkhmeaadoor", sum := "fc0d128b48e1d64c406c147ff5d9258af687530b20a422d0978282eea003cd0d", func := "loop.example/lib-g01387/laws.FnNopWriteTo", spec := "fnNopWriteTo", unfollowed := true, recurses := true, named := ["io.EOF", "loop.example/lib-g01387/impl.errSource", "loop.example/lib-g01387/impl.errSink", "io.ErrShortWrite"], ifaces := true, apart := false, laid := [("io.ErrShortWrite", laid_io_ErrShortWrite), ("io.EOF", laid_io_EOF), ("loop.example/lib-g01387/impl.errSource", laid_loop_example_lib_g01387_impl_errSource), ("loop.example/lib-g01387/impl.errSink", laid_loop_example_lib_g01387_impl_errSink)], narrowed := true }
def FnNopWriteToUptoSaid : Prop := fnNopWriteToUptoRow.holds Tryd.pinned (OpenSpec.upto fnNopWriteToSpec)

/-- 'laws.FnNopClose', WHERE WHAT IT READS IS OF BULK AT MOST 1048576: true; the input reads as it did. -/
def fnNopCloseUptoRow : OpenClaim := { program := "ytdcdbbcphkhmeaadoor", sum := "fc0d128b48e1d64c406c147ff5d9258af687530b20a422d0978282eea003cd0d", func := "loop.example/lib-g01387/laws.FnNopClose", spec := "fnNopClose", unfollowed := true, recurses := true, named := ["io.EOF", "loop.example/lib-g01387/impl.errSource", "loop.example/lib-g01387/impl.errSink", "io.ErrShortWrite"], ifaces := true, apart := false, laid := [("io.ErrShortWrite", laid_io_ErrShortWrite), ("io.EOF", laid_io_EOF), ("loop.example/lib-g01387/impl.errSource", laid_loop_example_lib_g01387_impl_errSource), ("loop.example/lib-g01387/impl.errSink", laid_loop_example_lib_g01387_impl_errSink)], narrowed := true }
def FnNopCloseUptoSaid : Prop := fnNopCloseUptoRow.holds Tryd.pinned (OpenSpec.upto fnNopCloseSpec)

end Rows
end Go.Proofs.YtdcdbbcphkhmeaaDoor
