/-
  NARROWER THAN 'FOR EVERY INPUT', by the rows' own cells (each row's printed sentence says how): FnOffsetApart: ifaces, laid · FnOffsetAt: ifaces, laid · FnOffsetBases: ifaces, laid · FnOffsetBefore: ifaces, laid · FnOffsetCurrent: ifaces, laid · FnOffsetNegative: ifaces, laid · FnOffsetRoads: ifaces, laid · FnOffsetScript: ifaces, laid · FnOffsetSeek: ifaces, laid · FnOffsetWhence: ifaces, laid · FnOffsetWrites: ifaces, laid.
  DERIVED. THE GIVEN ROWS OF THIS SEAT. 11 by the template 'for every input the law returns true; each argument reads behind the call as it read before'; 0 by the template 'total and deterministic' (their statements: YtnmdjhkeekhfbaaDoorTotals.lean).
  GIVEN WITH THE SEED: the statements are not yours to turn. If you find one false, say at which input.
  Laid BY PROGRAM, IN A SANDBOX (cutbox-rows.mjs): the forced cells as the released guide's own fill.sh prints them over the translation 01e726955a04c1d8… (all of the seat's roots in one cut). By AI agents, Wed Nov 11 2026. No macro, syntax, notation, axiom, sorry.
-/
import Derived.Test.YtnmdjhkeekhfbaaDoorChecked
import GoSem.Claim
import GoSem.ClaimJoined
import GoSem.ClaimMapViews
import Derived.JoinedTies
import Derived.KernelRfl
namespace Go.Proofs.YtnmdjhkeekhfbaaDoor
/- THE CELL 'sum', in the pinned program and in every row, IS THE sha256 OF THE DUMP (.gsa) THAT YtnmdjhkeekhfbaaDoorProg.lean LOADS. Nothing in Lean hashes anything: it is a label: what it is worth is what the hold of that sum in a sandbox is worth. -/
noncomputable def Tryd.pinned : Pinned := { name := "ytnmdjhkeekhfbaadoor", sum := "01e726955a04c1d8c9f709b3c4e5c2261478a51514b68130a34294a41f25245e", checked := Tryd.checked }
namespace Rows
def none {H : Type} : Left H := { results := [], args := [] }

/- WHAT THE LISTED PACKAGE-LEVEL VARIABLES READ AS WHEN THE CALL BEGINS. Each datum BY PROGRAM (the guide's laid-datum.mjs) off the statement by which the dump's own 'gosem.cut.vars' lays the variable. In a bare row this is a premise. The card (YtnmdjhkeekhfbaaDoorCards.lean) ties it to the program's text. -/
def laid_io_ErrShortWrite {H : Type} : DataW H := .iface "*errors.errorString" (.ptr (.agg [.lit (.string [115, 104, 111, 114, 116, 32, 119, 114, 105, 116, 101])]))
def laid_io_EOF {H : Type} : DataW H := .iface "*errors.errorString" (.ptr (.agg [.lit (.string [69, 79, 70])]))
def laid_io_errWhence {H : Type} : DataW H := .iface "*errors.errorString" (.ptr (.agg [.lit (.string [83, 101, 101, 107, 58, 32, 105, 110, 118, 97, 108, 105, 100, 32, 119, 104, 101, 110, 99, 101])]))
def laid_io_errOffset {H : Type} : DataW H := .iface "*errors.errorString" (.ptr (.agg [.lit (.string [83, 101, 101, 107, 58, 32, 105, 110, 118, 97, 108, 105, 100, 32, 111, 102, 102, 115, 101, 116])]))
def laid_loop_example_lib_g01387_impl_errSource {H : Type} : DataW H := .iface "*errors.errorString" (.ptr (.agg [.lit (.string [115, 111, 117, 114, 99, 101])]))
def laid_loop_example_lib_g01387_impl_errSink {H : Type} : DataW H := .iface "*errors.errorString" (.ptr (.agg [.lit (.string [115, 105, 110, 107])]))

/-- 'laws.FnOffsetApart': WHATEVER THE INPUT: true; the input reads as it did. -/
def fnOffsetApartSpec : ChangeSpec := { name := "fnOffsetApart", vars := ["loop.example/lib-g01387/impl.errSource", "loop.example/lib-g01387/impl.errSink"], fn := fun _ => fun
  | [d1, d2, d3, d4, g1, g2] => { results := [.lit (.bool true)], args := [d1, d2, d3, d4], vars := [g1, g2] }
  | _ => none }
def fnOffsetApartRow : OpenClaim := { program := "ytnmdjhkeekhfbaadoor", sum := "01e726955a04c1d8c9f709b3c4e5c2261478a51514b68130a34294a41f25245e", func := "loop.example/lib-g01387/laws.FnOffsetApart", spec := "fnOffsetApart", unfollowed := true, recurses := true, named := ["io.EOF", "loop.example/lib-g01387/impl.errSource", "loop.example/lib-g01387/impl.errSink", "io.ErrShortWrite", "io.errOffset", "io.errWhence"], ifaces := true, apart := false, laid := [("io.ErrShortWrite", laid_io_ErrShortWrite), ("io.EOF", laid_io_EOF), ("io.errWhence", laid_io_errWhence), ("io.errOffset", laid_io_errOffset), ("loop.example/lib-g01387/impl.errSource", laid_loop_example_lib_g01387_impl_errSource), ("loop.example/lib-g01387/impl.errSink", laid_loop_example_lib_g01387_impl_errSink)] }
def FnOffsetApartSaid : Prop := fnOffsetApartRow.holds Tryd.pinned (OpenSpec.ofChange fnOffsetApartSpec)

/-- ITS FALSE NEIGHBOUR: 'it returns false'. Refute it at one input. -/
def fnOffsetApartWrong : ChangeSpec := { name := "fnOffsetApart", vars := ["loop.example/lib-g01387/impl.errSource", "loop.example/lib-g01387/impl.errSink"], fn := fun _ => fun
  | [d1, d2, d3, d4, g1, g2] => { results := [.lit (.bool false)], args := [d1, d2, d3, d4], vars := [g1, g2] }
  | _ => none }
def FnOffsetApartWrongFalsely : Prop := fnOffsetApartRow.holds Tryd.pinned (OpenSpec.ofChange fnOffsetApartWrong)

/-- 'laws.FnOffsetAt': WHATEVER THE INPUT: true; the input reads as it did. -/
def fnOffsetAtSpec : ChangeSpec := { name := "fnOffsetAt", vars := ["loop.example/lib-g01387/impl.errSource", "loop.example/lib-g01387/impl.errSink"], fn := fun _ => fun
  | [d1, d2, d3, d4, g1, g2] => { results := [.lit (.bool true)], args := [d1, d2, d3, d4], vars := [g1, g2] }
  | _ => none }
def fnOffsetAtRow : OpenClaim := { program := "ytnmdjhkeekhfbaadoor", sum := "01e726955a04c1d8c9f709b3c4e5c2261478a51514b68130a34294a41f25245e", func := "loop.example/lib-g01387/laws.FnOffsetAt", spec := "fnOffsetAt", unfollowed := true, recurses := true, named := ["io.EOF", "loop.example/lib-g01387/impl.errSource", "loop.example/lib-g01387/impl.errSink", "io.ErrShortWrite", "io.errOffset", "io.errWhence"], ifaces := true, apart := false, laid := [("io.ErrShortWrite", laid_io_ErrShortWrite), ("io.EOF", laid_io_EOF), ("io.errWhence", laid_io_errWhence), ("io.errOffset", laid_io_errOffset), ("loop.example/lib-g01387/impl.errSource", laid_loop_example_lib_g01387_impl_errSource), ("loop.example/lib-g01387/impl.errSink", laid_loop_example_lib_g01387_impl_errSink)] }
def FnOffsetAtSaid : Prop := fnOffsetAtRow.holds Tryd.pinned (OpenSpec.ofChange fnOffsetAtSpec)

/-- ITS FALSE NEIGHBOUR: 'it returns false'. Refute it at one input. -/
def fnOffsetAtWrong : ChangeSpec := { name := "fnOffsetAt", vars := ["loop.example/lib-g01387/impl.errSource", "loop.example/lib-g01387/impl.errSink"], fn := fun _ => fun
  | [d1, d2, d3, d4, g1, g2] => { results := [.lit (.bool false)], args := [d1, d2, d3, d4], vars := [g1, g2] }
  | _ => none }
def FnOffsetAtWrongFalsely : Prop := fnOffsetAtRow.holds Tryd.pinned (OpenSpec.ofChange fnOffsetAtWrong)

/-- 'laws.FnOffsetBases': WHATEVER THE INPUT: true; the input reads as it did. -/
def fnOffsetBasesSpec : ChangeSpec := { name := "fnOffsetBases", vars := ["loop.example/lib-g01387/impl.errSource", "loop.example/lib-g01387/impl.errSink"], fn := fun _ => fun
  | [d1, d2, d3, d4, d5, d6, g1, g2] => { results := [.lit (.bool true)], args := [d1, d2, d3, d4, d5, d6], vars := [g1, g2] }
  | _ => none }
def fnOffsetBasesRow : OpenClaim := { program := "ytnmdjhkeekhfbaadoor", sum := "01e726955a04c1d8c9f709b3c4e5c2261478a51514b68130a34294a41f25245e", func := "loop.example/lib-g01387/laws.FnOffsetBases", spec := "fnOffsetBases", unfollowed := true, recurses := true, named := ["io.EOF", "loop.example/lib-g01387/impl.errSource", "loop.example/lib-g01387/impl.errSink", "io.ErrShortWrite", "io.errOffset", "io.errWhence"], ifaces := true, apart := false, laid := [("io.ErrShortWrite", laid_io_ErrShortWrite), ("io.EOF", laid_io_EOF), ("io.errWhence", laid_io_errWhence), ("io.errOffset", laid_io_errOffset), ("loop.example/lib-g01387/impl.errSource", laid_loop_example_lib_g01387_impl_errSource), ("loop.example/lib-g01387/impl.errSink", laid_loop_example_lib_g01387_impl_errSink)] }
def FnOffsetBasesSaid : Prop := fnOffsetBasesRow.holds Tryd.pinned (OpenSpec.ofChange fnOffsetBasesSpec)

/-- ITS FALSE NEIGHBOUR: 'it returns false'. Refute it at one input. -/
def fnOffsetBasesWrong : ChangeSpec := { name := "fnOffsetBases", vars := ["loop.example/lib-g01387/impl.errSource", "loop.example/lib-g01387/impl.errSink"], fn := fun _ => fun
  | [d1, d2, d3, d4, d5, d6, g1, g2] => { results := [.lit (.bool false)], args := [d1, d2, d3, d4, d5, d6], vars := [g1, g2] }
  | _ => none }
def FnOffsetBasesWrongFalsely : Prop := fnOffsetBasesRow.holds Tryd.pinned (OpenSpec.ofChange fnOffsetBasesWrong)

/-- 'laws.FnOffsetBefore': WHATEVER THE INPUT: true; the input reads as it did. -/
def fnOffsetBeforeSpec : ChangeSpec := { name := "fnOffsetBefore", vars := ["loop.example/lib-g01387/impl.errSource", "loop.example/lib-g01387/impl.errSink"], fn := fun _ => fun
  | [d1, d2, d3, d4, g1, g2] => { results := [.lit (.bool true)], args := [d1, d2, d3, d4], vars := [g1, g2] }
  | _ => none }
def fnOffsetBeforeRow : OpenClaim := { program := "ytnmdjhkeekhfbaadoor", sum := "01e726955a04c1d8c9f709b3c4e5c2261478a51514b68130a34294a41f25245e", func := "loop.example/lib-g01387/laws.FnOffsetBefore", spec := "fnOffsetBefore", unfollowed := true, recurses := true, named := ["io.EOF", "loop.example/lib-g01387/impl.errSource", "loop.example/lib-g01387/impl.errSink", "io.ErrShortWrite", "io.errOffset", "io.errWhence"], ifaces := true, apart := false, laid := [("io.ErrShortWrite", laid_io_ErrShortWrite), ("io.EOF", laid_io_EOF), ("io.errWhence", laid_io_errWhence), ("io.errOffset", laid_io_errOffset), ("loop.example/lib-g01387/impl.errSource", laid_loop_example_lib_g01387_impl_errSource), ("loop.example/lib-g01387/impl.errSink", laid_loop_example_lib_g01387_impl_errSink)] }
def FnOffsetBeforeSaid : Prop := fnOffsetBeforeRow.holds Tryd.pinned (OpenSpec.ofChange fnOffsetBeforeSpec)

/-- ITS FALSE NEIGHBOUR: 'it returns false'. Refute it at one input. -/
def fnOffsetBeforeWrong : ChangeSpec := { name := "fnOffsetBefore", vars := ["loop.example/lib-g01387/impl.errSource", "loop.example/lib-g01387/impl.errSink"], fn := fun _ => fun
  | [d1, d2, d3, d4, g1, g2] => { results := [.lit (.bool false)], args := [d1, d2, d3, d4], vars := [g1, g2] }
  | _ => none }
def FnOffsetBeforeWrongFalsely : Prop := fnOffsetBeforeRow.holds Tryd.pinned (OpenSpec.ofChange fnOffsetBeforeWrong)

/-- 'laws.FnOffsetCurrent': WHATEVER THE INPUT: true; the input reads as it did. -/
def fnOffsetCurrentSpec : ChangeSpec := { name := "fnOffsetCurrent", vars := ["loop.example/lib-g01387/impl.errSource", "loop.example/lib-g01387/impl.errSink"], fn := fun _ => fun
  | [d1, d2, d3, d4, g1, g2] => { results := [.lit (.bool true)], args := [d1, d2, d3, d4], vars := [g1, g2] }
  | _ => none }
def fnOffsetCurrentRow : OpenClaim := { program := "ytnmdjhkeekhfbaadoor", sum := "01e726955a04c1d8c9f709b3c4e5c2261478a51514b68130a34294a41f25245e", func := "loop.example/lib-g01387/laws.FnOffsetCurrent", spec := "fnOffsetCurrent", unfollowed := true, recurses := true, named := ["io.EOF", "loop.example/lib-g01387/impl.errSource", "loop.example/lib-g01387/impl.errSink", "io.ErrShortWrite", "io.errOffset", "io.errWhence"], ifaces := true, apart := false, laid := [("io.ErrShortWrite", laid_io_ErrShortWrite), ("io.EOF", laid_io_EOF), ("io.errWhence", laid_io_errWhence), ("io.errOffset", laid_io_errOffset), ("loop.example/lib-g01387/impl.errSource", laid_loop_example_lib_g01387_impl_errSource), ("loop.example/lib-g01387/impl.errSink", laid_loop_example_lib_g01387_impl_errSink)] }
def FnOffsetCurrentSaid : Prop := fnOffsetCurrentRow.holds Tryd.pinned (OpenSpec.ofChange fnOffsetCurrentSpec)

/-- ITS FALSE NEIGHBOUR: 'it returns false'. Refute it at one input. -/
def fnOffsetCurrentWrong : ChangeSpec := { name := "fnOffsetCurrent", vars := ["loop.example/lib-g01387/impl.errSource", "loop.example/lib-g01387/impl.errSink"], fn := fun _ => fun
  | [d1, d2, d3, d4, g1, g2] => { results := [.lit (.bool false)], args := [d1, d2, d3, d4], vars := [g1, g2] }
  | _ => none }
def FnOffsetCurrentWrongFalsely : Prop := fnOffsetCurrentRow.holds Tryd.pinned (OpenSpec.ofChange fnOffsetCurrentWrong)

/-- 'laws.FnOffsetNegative': WHATEVER THE INPUT: true; the input reads as it did. -/
def fnOffsetNegativeSpec : ChangeSpec := { name := "fnOffsetNegative", vars := ["loop.example/lib-g01387/impl.errSource", "loop.example/lib-g01387/impl.errSink"], fn := fun _ => fun
  | [d1, d2, d3, g1, g2] => { results := [.lit (.bool true)], args := [d1, d2, d3], vars := [g1, g2] }
  | _ => none }
def fnOffsetNegativeRow : OpenClaim := { program := "ytnmdjhkeekhfbaadoor", sum := "01e726955a04c1d8c9f709b3c4e5c2261478a51514b68130a34294a41f25245e", func := "loop.example/lib-g01387/laws.FnOffsetNegative", spec := "fnOffsetNegative", unfollowed := true, recurses := true, named := ["io.EOF", "loop.example/lib-g01387/impl.errSource", "loop.example/lib-g01387/impl.errSink", "io.ErrShortWrite", "io.errOffset", "io.errWhence"], ifaces := true, apart := false, laid := [("io.ErrShortWrite", laid_io_ErrShortWrite), ("io.EOF", laid_io_EOF), ("io.errWhence", laid_io_errWhence), ("io.errOffset", laid_io_errOffset), ("loop.example/lib-g01387/impl.errSource", laid_loop_example_lib_g01387_impl_errSource), ("loop.example/lib-g01387/impl.errSink", laid_loop_example_lib_g01387_impl_errSink)] }
def FnOffsetNegativeSaid : Prop := fnOffsetNegativeRow.holds Tryd.pinned (OpenSpec.ofChange fnOffsetNegativeSpec)

/-- ITS FALSE NEIGHBOUR: 'it returns false'. Refute it at one input. -/
def fnOffsetNegativeWrong : ChangeSpec := { name := "fnOffsetNegative", vars := ["loop.example/lib-g01387/impl.errSource", "loop.example/lib-g01387/impl.errSink"], fn := fun _ => fun
  | [d1, d2, d3, g1, g2] => { results := [.lit (.bool false)], args := [d1, d2, d3], vars := [g1, g2] }
  | _ => none }
def FnOffsetNegativeWrongFalsely : Prop := fnOffsetNegativeRow.holds Tryd.pinned (OpenSpec.ofChange fnOffsetNegativeWrong)

/-- 'laws.FnOffsetRoads': WHATEVER THE INPUT: true; the input reads as it did. -/
def fnOffsetRoadsSpec : ChangeSpec := { name := "fnOffsetRoads", vars := ["loop.example/lib-g01387/impl.errSource", "loop.example/lib-g01387/impl.errSink"], fn := fun _ => fun
  | [d1, d2, d3, d4, g1, g2] => { results := [.lit (.bool true)], args := [d1, d2, d3, d4], vars := [g1, g2] }
  | _ => none }
def fnOffsetRoadsRow : OpenClaim := { program := "ytnmdjhkeekhfbaadoor", sum := "01e726955a04c1d8c9f709b3c4e5c2261478a51514b68130a34294a41f25245e", func := "loop.example/lib-g01387/laws.FnOffsetRoads", spec := "fnOffsetRoads", unfollowed := true, recurses := true, named := ["io.EOF", "loop.example/lib-g01387/impl.errSource", "loop.example/lib-g01387/impl.errSink", "io.ErrShortWrite", "io.errOffset", "io.errWhence"], ifaces := true, apart := false, laid := [("io.ErrShortWrite", laid_io_ErrShortWrite), ("io.EOF", laid_io_EOF), ("io.errWhence", laid_io_errWhence), ("io.errOffset", laid_io_errOffset), ("loop.example/lib-g01387/impl.errSource", laid_loop_example_lib_g01387_impl_errSource), ("loop.example/lib-g01387/impl.errSink", laid_loop_example_lib_g01387_impl_errSink)] }
def FnOffsetRoadsSaid : Prop := fnOffsetRoadsRow.holds Tryd.pinned (OpenSpec.ofChange fnOffsetRoadsSpec)

/-- ITS FALSE NEIGHBOUR: 'it returns false'. Refute it at one input. -/
def fnOffsetRoadsWrong : ChangeSpec := { name := "fnOffsetRoads", vars := ["loop.example/lib-g01387/impl.errSource", "loop.example/lib-g01387/impl.errSink"], fn := fun _ => fun
  | [d1, d2, d3, d4, g1, g2] => { results := [.lit (.bool false)], args := [d1, d2, d3, d4], vars := [g1, g2] }
  | _ => none }
def FnOffsetRoadsWrongFalsely : Prop := fnOffsetRoadsRow.holds Tryd.pinned (OpenSpec.ofChange fnOffsetRoadsWrong)

/-- 'laws.FnOffsetScript': WHATEVER THE INPUT: true; the input reads as it did. -/
def fnOffsetScriptSpec : ChangeSpec := { name := "fnOffsetScript", vars := ["loop.example/lib-g01387/impl.errSource", "loop.example/lib-g01387/impl.errSink"], fn := fun _ => fun
  | [d1, d2, d3, d4, d5, g1, g2] => { results := [.lit (.bool true)], args := [d1, d2, d3, d4, d5], vars := [g1, g2] }
  | _ => none }
def fnOffsetScriptRow : OpenClaim := { program := "ytnmdjhkeekhfbaadoor", sum := "01e726955a04c1d8c9f709b3c4e5c2261478a51514b68130a34294a41f25245e", func := "loop.example/lib-g01387/laws.FnOffsetScript", spec := "fnOffsetScript", unfollowed := true, recurses := true, named := ["io.EOF", "loop.example/lib-g01387/impl.errSource", "loop.example/lib-g01387/impl.errSink", "io.ErrShortWrite", "io.errOffset", "io.errWhence"], ifaces := true, apart := false, laid := [("io.ErrShortWrite", laid_io_ErrShortWrite), ("io.EOF", laid_io_EOF), ("io.errWhence", laid_io_errWhence), ("io.errOffset", laid_io_errOffset), ("loop.example/lib-g01387/impl.errSource", laid_loop_example_lib_g01387_impl_errSource), ("loop.example/lib-g01387/impl.errSink", laid_loop_example_lib_g01387_impl_errSink)] }
def FnOffsetScriptSaid : Prop := fnOffsetScriptRow.holds Tryd.pinned (OpenSpec.ofChange fnOffsetScriptSpec)

/-- ITS FALSE NEIGHBOUR: 'it returns false'. Refute it at one input. -/
def fnOffsetScriptWrong : ChangeSpec := { name := "fnOffsetScript", vars := ["loop.example/lib-g01387/impl.errSource", "loop.example/lib-g01387/impl.errSink"], fn := fun _ => fun
  | [d1, d2, d3, d4, d5, g1, g2] => { results := [.lit (.bool false)], args := [d1, d2, d3, d4, d5], vars := [g1, g2] }
  | _ => none }
def FnOffsetScriptWrongFalsely : Prop := fnOffsetScriptRow.holds Tryd.pinned (OpenSpec.ofChange fnOffsetScriptWrong)

/-- 'laws.FnOffsetSeek': WHATEVER THE INPUT: true; the input reads as it did. -/
def fnOffsetSeekSpec : ChangeSpec := { name := "fnOffsetSeek", vars := ["loop.example/lib-g01387/impl.errSource", "loop.example/lib-g01387/impl.errSink"], fn := fun _ => fun
  | [d1, d2, d3, d4, g1, g2] => { results := [.lit (.bool true)], args := [d1, d2, d3, d4], vars := [g1, g2] }
  | _ => none }
def fnOffsetSeekRow : OpenClaim := { program := "ytnmdjhkeekhfbaadoor", sum := "01e726955a04c1d8c9f709b3c4e5c2261478a51514b68130a34294a41f25245e", func := "loop.example/lib-g01387/laws.FnOffsetSeek", spec := "fnOffsetSeek", unfollowed := true, recurses := true, named := ["io.EOF", "loop.example/lib-g01387/impl.errSource", "loop.example/lib-g01387/impl.errSink", "io.ErrShortWrite", "io.errOffset", "io.errWhence"], ifaces := true, apart := false, laid := [("io.ErrShortWrite", laid_io_ErrShortWrite), ("io.EOF", laid_io_EOF), ("io.errWhence", laid_io_errWhence), ("io.errOffset", laid_io_errOffset), ("loop.example/lib-g01387/impl.errSource", laid_loop_example_lib_g01387_impl_errSource), ("loop.example/lib-g01387/impl.errSink", laid_loop_example_lib_g01387_impl_errSink)] }
def FnOffsetSeekSaid : Prop := fnOffsetSeekRow.holds Tryd.pinned (OpenSpec.ofChange fnOffsetSeekSpec)

/-- ITS FALSE NEIGHBOUR: 'it returns false'. Refute it at one input. -/
def fnOffsetSeekWrong : ChangeSpec := { name := "fnOffsetSeek", vars := ["loop.example/lib-g01387/impl.errSource", "loop.example/lib-g01387/impl.errSink"], fn := fun _ => fun
  | [d1, d2, d3, d4, g1, g2] => { results := [.lit (.bool false)], args := [d1, d2, d3, d4], vars := [g1, g2] }
  | _ => none }
def FnOffsetSeekWrongFalsely : Prop := fnOffsetSeekRow.holds Tryd.pinned (OpenSpec.ofChange fnOffsetSeekWrong)

/-- 'laws.FnOffsetWhence': WHATEVER THE INPUT: true; the input reads as it did. -/
def fnOffsetWhenceSpec : ChangeSpec := { name := "fnOffsetWhence", vars := ["loop.example/lib-g01387/impl.errSource", "loop.example/lib-g01387/impl.errSink"], fn := fun _ => fun
  | [d1, d2, d3, d4, g1, g2] => { results := [.lit (.bool true)], args := [d1, d2, d3, d4], vars := [g1, g2] }
  | _ => none }
def fnOffsetWhenceRow : OpenClaim := { program := "ytnmdjhkeekhfbaadoor", sum := "01e726955a04c1d8c9f709b3c4e5c2261478a51514b68130a34294a41f25245e", func := "loop.example/lib-g01387/laws.FnOffsetWhence", spec := "fnOffsetWhence", unfollowed := true, recurses := true, named := ["io.EOF", "loop.example/lib-g01387/impl.errSource", "loop.example/lib-g01387/impl.errSink", "io.ErrShortWrite", "io.errOffset", "io.errWhence"], ifaces := true, apart := false, laid := [("io.ErrShortWrite", laid_io_ErrShortWrite), ("io.EOF", laid_io_EOF), ("io.errWhence", laid_io_errWhence), ("io.errOffset", laid_io_errOffset), ("loop.example/lib-g01387/impl.errSource", laid_loop_example_lib_g01387_impl_errSource), ("loop.example/lib-g01387/impl.errSink", laid_loop_example_lib_g01387_impl_errSink)] }
def FnOffsetWhenceSaid : Prop := fnOffsetWhenceRow.holds Tryd.pinned (OpenSpec.ofChange fnOffsetWhenceSpec)

/-- ITS FALSE NEIGHBOUR: 'it returns false'. Refute it at one input. -/
def fnOffsetWhenceWrong : ChangeSpec := { name := "fnOffsetWhence", vars := ["loop.example/lib-g01387/impl.errSource", "loop.example/lib-g01387/impl.errSink"], fn := fun _ => fun
  | [d1, d2, d3, d4, g1, g2] => { results := [.lit (.bool false)], args := [d1, d2, d3, d4], vars := [g1, g2] }
  | _ => none }
def FnOffsetWhenceWrongFalsely : Prop := fnOffsetWhenceRow.holds Tryd.pinned (OpenSpec.ofChange fnOffsetWhenceWrong)

/-- 'laws.FnOffsetWrites': WHATEVER THE INPUT: true; the input reads as it did. -/
def fnOffsetWritesSpec : ChangeSpec := { name := "fnOffsetWrites", vars := ["loop.example/lib-g01387/impl.errSource", "loop.example/lib-g01387/impl.errSink"], fn := fun _ => fun
  | [d1, d2, g1, g2] => { results := [.lit (.bool true)], args := [d1, d2], vars := [g1, g2] }
  | _ => none }
def fnOffsetWritesRow : OpenClaim := { program := "ytnmdjhkeekhfbaadoor", sum := "01e726955a04c1d8c9f709b3c4e5c2261478a51514b68130a34294a41f25245e", func := "loop.example/lib-g01387/laws.FnOffsetWrites", spec := "fnOffsetWrites", unfollowed := true, recurses := true, named := ["io.EOF", "loop.example/lib-g01387/impl.errSource", "loop.example/lib-g01387/impl.errSink", "io.ErrShortWrite", "io.errOffset", "io.errWhence"], ifaces := true, apart := false, laid := [("io.ErrShortWrite", laid_io_ErrShortWrite), ("io.EOF", laid_io_EOF), ("io.errWhence", laid_io_errWhence), ("io.errOffset", laid_io_errOffset), ("loop.example/lib-g01387/impl.errSource", laid_loop_example_lib_g01387_impl_errSource), ("loop.example/lib-g01387/impl.errSink", laid_loop_example_lib_g01387_impl_errSink)] }
def FnOffsetWritesSaid : Prop := fnOffsetWritesRow.holds Tryd.pinned (OpenSpec.ofChange fnOffsetWritesSpec)

/-- ITS FALSE NEIGHBOUR: 'it returns false'. Refute it at one input. -/
def fnOffsetWritesWrong : ChangeSpec := { name := "fnOffsetWrites", vars := ["loop.example/lib-g01387/impl.errSource", "loop.example/lib-g01387/impl.errSink"], fn := fun _ => fun
  | [d1, d2, g1, g2] => { results := [.lit (.bool false)], args := [d1, d2], vars := [g1, g2] }
  | _ => none }
def FnOffsetWritesWrongFalsely : Prop := fnOffsetWritesRow.holds Tryd.pinned (OpenSpec.ofChange fnOffsetWritesWrong)

/- THE SECOND FORM. 'bulk': how many values and letters a reading holds, each counted each time it is reached (what is shared counts as often as it is met; a slice's spare places count too). A statement '..UptoSaid' is the law's where the arguments, and the package variables that the reading takes, are together of bulk at most 1048576: NARROWER than '..Said'. Prove '..Said' where nothing that the law and all that it calls make is longer than what came in: it says more and counts as full. Else prove '..UptoSaid'. A law counts once. -/
mutual
def uptoBulk {H : Type} : DataW H → Nat
  | .lit (.string bytes) => bytes.length + 1
  | .lit _ => 1
  | .nil => 1
  | .ptr d => uptoBulk d + 1
  | .slice elems spare => uptoBulkAll elems + uptoBulkAll spare + 1
  | .agg parts => uptoBulkAll parts + 1
  | .iface _ d => uptoBulk d + 1
  | .map entries => uptoBulkEntries entries + 1
  | .held _ => 1
def uptoBulkAll {H : Type} : List (DataW H) → Nat
  | [] => 0
  | d :: r => uptoBulk d + uptoBulkAll r
def uptoBulkEntries {H : Type} : List (Lit × DataW H) → Nat
  | [] => 0
  | x :: r => uptoBulkEntry x + uptoBulkEntries r
def uptoBulkEntry {H : Type} : Lit × DataW H → Nat
  | (.string bytes, d) => bytes.length + uptoBulk d + 1
  | (_, d) => uptoBulk d + 1
 end
def uptoSmall : (H : Type) → List (DataW H) → Bool := fun _ ds => decide (uptoBulkAll ds ≤ 1048576)
def OpenSpec.upto (s : _root_.Go.ChangeSpec) : _root_.Go.OpenSpec := { _root_.Go.OpenSpec.ofChange s with cond := some uptoSmall }

/-- 'laws.FnOffsetApart', WHERE WHAT IT READS IS OF BULK AT MOST 1048576: true; the input reads as it did. -/
def fnOffsetApartUptoRow : OpenClaim := { program := "ytnmdjhkeekhfbaadoor", sum := "01e726955a04c1d8c9f709b3c4e5c2261478a51514b68130a34294a41f25245e", func := "loop.example/lib-g01387/laws.FnOffsetApart", spec := "fnOffsetApart", unfollowed := true, recurses := true, named := ["io.EOF", "loop.example/lib-g01387/impl.errSource", "loop.example/lib-g01387/impl.errSink", "io.ErrShortWrite", "io.errOffset", "io.errWhence"], ifaces := true, apart := false, laid := [("io.ErrShortWrite", laid_io_ErrShortWrite), ("io.EOF", laid_io_EOF), ("io.errWhence", laid_io_errWhence), ("io.errOffset", laid_io_errOffset), ("loop.example/lib-g01387/impl.errSource", laid_loop_example_lib_g01387_impl_errSource), ("loop.example/lib-g01387/impl.errSink", laid_loop_example_lib_g01387_impl_errSink)], narrowed := true }
def FnOffsetApartUptoSaid : Prop := fnOffsetApartUptoRow.holds Tryd.pinned (OpenSpec.upto fnOffsetApartSpec)

/-- 'laws.FnOffsetAt', WHERE WHAT IT READS IS OF BULK AT MOST 1048576: true; the input reads as it did. -/
def fnOffsetAtUptoRow : OpenClaim := { program := "ytnmdjhkeekhfbaadoor", sum := "01e726955a04c1d8c9f709b3c4e5c2261478a51514b68130a34294a41f25245e", func := "loop.example/lib-g01387/laws.FnOffsetAt", spec := "fnOffsetAt", unfollowed := true, recurses := true, named := ["io.EOF", "loop.example/lib-g01387/impl.errSource", "loop.example/lib-g01387/impl.errSink", "io.ErrShortWrite", "io.errOffset", "io.errWhence"], ifaces := true, apart := false, laid := [("io.ErrShortWrite", laid_io_ErrShortWrite), ("io.EOF", laid_io_EOF), ("io.errWhence", laid_io_errWhence), ("io.errOffset", laid_io_errOffset), ("loop.example/lib-g01387/impl.errSource", laid_loop_example_lib_g01387_impl_errSource), ("loop.example/lib-g01387/impl.errSink", laid_loop_example_lib_g01387_impl_errSink)], narrowed := true }
def FnOffsetAtUptoSaid : Prop := fnOffsetAtUptoRow.holds Tryd.pinned (OpenSpec.upto fnOffsetAtSpec)

/-- 'laws.FnOffsetBases', WHERE WHAT IT READS IS OF BULK AT MOST 1048576: true; the input reads as it did. -/
def fnOffsetBasesUptoRow : OpenClaim := { program := "ytnmdjhkeekhfbaadoor", sum := "01e726955a04c1d8c9f709b3c4e5c2261478a51514b68130a34294a41f25245e", func := "loop.example/lib-g01387/laws.FnOffsetBases", spec := "fnOffsetBases", unfollowed := true, recurses := true, named := ["io.EOF", "loop.example/lib-g01387/impl.errSource", "loop.example/lib-g01387/impl.errSink", "io.ErrShortWrite", "io.errOffset", "io.errWhence"], ifaces := true, apart := false, laid := [("io.ErrShortWrite", laid_io_ErrShortWrite), ("io.EOF", laid_io_EOF), ("io.errWhence", laid_io_errWhence), ("io.errOffset", laid_io_errOffset), ("loop.example/lib-g01387/impl.errSource", laid_loop_example_lib_g01387_impl_errSource), ("loop.example/lib-g01387/impl.errSink", laid_loop_example_lib_g01387_impl_errSink)], narrowed := true }
def FnOffsetBasesUptoSaid : Prop := fnOffsetBasesUptoRow.holds Tryd.pinned (OpenSpec.upto fnOffsetBasesSpec)

/-- 'laws.FnOffsetBefore', WHERE WHAT IT READS IS OF BULK AT MOST 1048576: true; the input reads as it did. -/
def fnOffsetBeforeUptoRow : OpenClaim := { program := "ytnmdjhkeekhfbaadoor", sum := "01e726955a04c1d8c9f709b3c4e5c2261478a51514b68130a34294a41f25245e", func := "loop.example/lib-g01387/laws.FnOffsetBefore", spec := "fnOffsetBefore", unfollowed := true, recurses := true, named := ["io.EOF", "loop.example/lib-g01387/impl.errSource", "loop.example/lib-g01387/impl.errSink", "io.ErrShortWrite", "io.errOffset", "io.errWhence"], ifaces := true, apart := false, laid := [("io.ErrShortWrite", laid_io_ErrShortWrite), ("io.EOF", laid_io_EOF), ("io.errWhence", laid_io_errWhence), ("io.errOffset", laid_io_errOffset), ("loop.example/lib-g01387/impl.errSource", laid_loop_example_lib_g01387_impl_errSource), ("loop.example/lib-g01387/impl.errSink", laid_loop_example_lib_g01387_impl_errSink)], narrowed := true }
def FnOffsetBeforeUptoSaid : Prop := fnOffsetBeforeUptoRow.holds Tryd.pinned (OpenSpec.upto fnOffsetBeforeSpec)

/-- 'laws.FnOffsetCurrent', WHERE WHAT IT READS IS OF BULK AT MOST 1048576: true; the input reads as it did. -/
def fnOffsetCurrentUptoRow : OpenClaim := { program := "ytnmdjhkeekhfbaadoor", sum := "01e726955a04c1d8c9f709b3c4e5c2261478a51514b68130a34294a41f25245e", func := "loop.example/lib-g01387/laws.FnOffsetCurrent", spec := "fnOffsetCurrent", unfollowed := true, recurses := true, named := ["io.EOF", "loop.example/lib-g01387/impl.errSource", "loop.example/lib-g01387/impl.errSink", "io.ErrShortWrite", "io.errOffset", "io.errWhence"], ifaces := true, apart := false, laid := [("io.ErrShortWrite", laid_io_ErrShortWrite), ("io.EOF", laid_io_EOF), ("io.errWhence", laid_io_errWhence), ("io.errOffset", laid_io_errOffset), ("loop.example/lib-g01387/impl.errSource", laid_loop_example_lib_g01387_impl_errSource), ("loop.example/lib-g01387/impl.errSink", laid_loop_example_lib_g01387_impl_errSink)], narrowed := true }
def FnOffsetCurrentUptoSaid : Prop := fnOffsetCurrentUptoRow.holds Tryd.pinned (OpenSpec.upto fnOffsetCurrentSpec)

/-- 'laws.FnOffsetNegative', WHERE WHAT IT READS IS OF BULK AT MOST 1048576: true; the input reads as it did. -/
def fnOffsetNegativeUptoRow : OpenClaim := { program := "ytnmdjhkeekhfbaadoor", sum := "01e726955a04c1d8c9f709b3c4e5c2261478a51514b68130a34294a41f25245e", func := "loop.example/lib-g01387/laws.FnOffsetNegative", spec := "fnOffsetNegative", unfollowed := true, recurses := true, named := ["io.EOF", "loop.example/lib-g01387/impl.errSource", "loop.example/lib-g01387/impl.errSink", "io.ErrShortWrite", "io.errOffset", "io.errWhence"], ifaces := true, apart := false, laid := [("io.ErrShortWrite", laid_io_ErrShortWrite), ("io.EOF", laid_io_EOF), ("io.errWhence", laid_io_errWhence), ("io.errOffset", laid_io_errOffset), ("loop.example/lib-g01387/impl.errSource", laid_loop_example_lib_g01387_impl_errSource), ("loop.example/lib-g01387/impl.errSink", laid_loop_example_lib_g01387_impl_errSink)], narrowed := true }
def FnOffsetNegativeUptoSaid : Prop := fnOffsetNegativeUptoRow.holds Tryd.pinned (OpenSpec.upto fnOffsetNegativeSpec)

/-- 'laws.FnOffsetRoads', WHERE WHAT IT READS IS OF BULK AT MOST 1048576: true; the input reads as it did. -/
def fnOffsetRoadsUptoRow : OpenClaim := { program := "ytnmdjhkeekhfbaadoor", sum := "01e726955a04c1d8c9f709b3c4e5c2261478a51514b68130a34294a41f25245e", func := "loop.example/lib-g01387/laws.FnOffsetRoads", spec := "fnOffsetRoads", unfollowed := true, recurses := true, named := ["io.EOF", "loop.example/lib-g01387/impl.errSource", "loop.example/lib-g01387/impl.errSink", "io.ErrShortWrite", "io.errOffset", "io.errWhence"], ifaces := true, apart := false, laid := [("io.ErrShortWrite", laid_io_ErrShortWrite), ("io.EOF", laid_io_EOF), ("io.errWhence", laid_io_errWhence), ("io.errOffset", laid_io_errOffset), ("loop.example/lib-g01387/impl.errSource", laid_loop_example_lib_g01387_impl_errSource), ("loop.example/lib-g01387/impl.errSink", laid_loop_example_lib_g01387_impl_errSink)], narrowed := true }
def FnOffsetRoadsUptoSaid : Prop := fnOffsetRoadsUptoRow.holds Tryd.pinned (OpenSpec.upto fnOffsetRoadsSpec)

/-- 'laws.FnOffsetScript', WHERE WHAT IT READS IS OF BULK AT MOST 1048576: true; the input reads as it did. -/
def fnOffsetScriptUptoRow : OpenClaim := { program := "ytnmdjhkeekhfbaadoor", sum := "01e726955a04c1d8c9f709b3c4e5c2261478a51514b68130a34294a41f25245e", func := "loop.example/lib-g01387/laws.FnOffsetScript", spec := "fnOffsetScript", unfollowed := true, recurses := true, named := ["io.EOF", "loop.example/lib-g01387/impl.errSource", "loop.example/lib-g01387/impl.errSink", "io.ErrShortWrite", "io.errOffset", "io.errWhence"], ifaces := true, apart := false, laid := [("io.ErrShortWrite", laid_io_ErrShortWrite), ("io.EOF", laid_io_EOF), ("io.errWhence", laid_io_errWhence), ("io.errOffset", laid_io_errOffset), ("loop.example/lib-g01387/impl.errSource", laid_loop_example_lib_g01387_impl_errSource), ("loop.example/lib-g01387/impl.errSink", laid_loop_example_lib_g01387_impl_errSink)], narrowed := true }
def FnOffsetScriptUptoSaid : Prop := fnOffsetScriptUptoRow.holds Tryd.pinned (OpenSpec.upto fnOffsetScriptSpec)

/-- 'laws.FnOffsetSeek', WHERE WHAT IT READS IS OF BULK AT MOST 1048576: true; the input reads as it did. -/
def fnOffsetSeekUptoRow : OpenClaim := { program := "ytnmdjhkeekhfbaadoor", sum := "01e726955a04c1d8c9f709b3c4e5c2261478a51514b68130a34294a41f25245e", func := "loop.example/lib-g01387/laws.FnOffsetSeek", spec := "fnOffsetSeek", unfollowed := true, recurses := true, named := ["io.EOF", "loop.example/lib-g01387/impl.errSource", "loop.example/lib-g01387/impl.errSink", "io.ErrShortWrite", "io.errOffset", "io.errWhence"], ifaces := true, apart := false, laid := [("io.ErrShortWrite", laid_io_ErrShortWrite), ("io.EOF", laid_io_EOF), ("io.errWhence", laid_io_errWhence), ("io.errOffset", laid_io_errOffset), ("loop.example/lib-g01387/impl.errSource", laid_loop_example_lib_g01387_impl_errSource), ("loop.example/lib-g01387/impl.errSink", laid_loop_example_lib_g01387_impl_errSink)], narrowed := true }
def FnOffsetSeekUptoSaid : Prop := fnOffsetSeekUptoRow.holds Tryd.pinned (OpenSpec.upto fnOffsetSeekSpec)

/-- 'laws.FnOffsetWhence', WHERE WHAT IT READS IS OF BULK AT MOST 1048576: true; the input reads as it did. -/
def fnOffsetWhenceUptoRow : OpenClaim := { program := "ytnmdjhkeekhfbaadoor", sum := "01e726955a04c1d8c9f709b3c4e5c2261478a51514b68130a34294a41f25245e", func := "loop.example/lib-g01387/laws.FnOffsetWhence", spec := "fnOffsetWhence", unfollowed := true, recurses := true, named := ["io.EOF", "loop.example/lib-g01387/impl.errSource", "loop.example/lib-g01387/impl.errSink", "io.ErrShortWrite", "io.errOffset", "io.errWhence"], ifaces := true, apart := false, laid := [("io.ErrShortWrite", laid_io_ErrShortWrite), ("io.EOF", laid_io_EOF), ("io.errWhence", laid_io_errWhence), ("io.errOffset", laid_io_errOffset), ("loop.example/lib-g01387/impl.errSource", laid_loop_example_lib_g01387_impl_errSource), ("loop.example/lib-g01387/impl.errSink", laid_loop_example_lib_g01387_impl_errSink)], narrowed := true }
def FnOffsetWhenceUptoSaid : Prop := fnOffsetWhenceUptoRow.holds Tryd.pinned (OpenSpec.upto fnOffsetWhenceSpec)

/-- 'laws.FnOffsetWrites', WHERE WHAT IT READS IS OF BULK AT MOST 1048576: true; the input reads as it did. -/
def fnOffsetWritesUptoRow : OpenClaim := { program := "ytnmdjhkeekhfbaadoor", sum := "01e726955a04c1d8c9f709b3c4e5c2261478a51514b68130a34294a41f25245e", func := "loop.example/lib-g01387/laws.FnOffsetWrites", spec := "fnOffsetWrites", unfollowed := true, recurses := true, named := ["io.EOF", "loop.example/lib-g01387/impl.errSource", "loop.example/lib-g01387/impl.errSink", "io.ErrShortWrite", "io.errOffset", "io.errWhence"], ifaces := true, apart := false, laid := [("io.ErrShortWrite", laid_io_ErrShortWrite), ("io.EOF", laid_io_EOF), ("io.errWhence", laid_io_errWhence), ("io.errOffset", laid_io_errOffset), ("loop.example/lib-g01387/impl.errSource", laid_loop_example_lib_g01387_impl_errSource), ("loop.example/lib-g01387/impl.errSink", laid_loop_example_lib_g01387_impl_errSink)], narrowed := true }
def FnOffsetWritesUptoSaid : Prop := fnOffsetWritesUptoRow.holds Tryd.pinned (OpenSpec.upto fnOffsetWritesSpec)

end Rows
end Go.Proofs.YtnmdjhkeekhfbaaDoor
