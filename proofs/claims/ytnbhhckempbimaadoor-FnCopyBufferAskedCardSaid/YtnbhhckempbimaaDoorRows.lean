/-
  NARROWER THAN 'FOR EVERY INPUT', by the rows' own cells (each row's printed sentence says how): FnCopyBuffer: ifaces, laid · FnCopyBufferAsked: ifaces, laid · FnCopyBufferEmpty: ifaces, laid · FnCopyBufferEmptyDirect: ifaces, laid · FnCopyBufferGood: ifaces, laid · FnCopyBufferNil: ifaces, laid · FnCopyBufferRoad: ifaces, laid · FnCopyBufferRoom: ifaces, laid · FnCopyBufferStages: ifaces, laid · FnCopyBufferTwo: ifaces, laid · FnCopyBufferUnused: ifaces, laid.
  DERIVED. THE GIVEN ROWS OF THIS SEAT. 11 by the template 'for every input the law returns true; each argument reads behind the call as it read before'; 0 by the template 'total and deterministic' (their statements: YtnbhhckempbimaaDoorTotals.lean).
  GIVEN WITH THE SEED: the statements are not yours to turn. If you find one false, say at which input.
  Laid BY PROGRAM, IN A SANDBOX (cutbox-rows.mjs): the forced cells as the released guide's own fill.sh prints them over the translation 999d7da6bcca120d… (all of the seat's roots in one cut). By AI agents, Wed Nov 11 2026. No macro, syntax, notation, axiom, sorry.
-/
import Derived.Test.YtnbhhckempbimaaDoorChecked
import GoSem.Claim
import GoSem.ClaimJoined
import GoSem.ClaimMapViews
import Derived.JoinedTies
import Derived.KernelRfl
namespace Go.Proofs.YtnbhhckempbimaaDoor
/- THE CELL 'sum', in the pinned program and in every row, IS THE sha256 OF THE DUMP (.gsa) THAT YtnbhhckempbimaaDoorProg.lean LOADS. Nothing in Lean hashes anything: it is a label: what it is worth is what the hold of that sum in a sandbox is worth. -/
noncomputable def Tryd.pinned : Pinned := { name := "ytnbhhckempbimaadoor", sum := "999d7da6bcca120dcfc3ddf8e606f906a52e636a26883431d758d0b5e717fb6f", checked := Tryd.checked }
namespace Rows
def none {H : Type} : Left H := { results := [], args := [] }

/- WHAT THE LISTED PACKAGE-LEVEL VARIABLES READ AS WHEN THE CALL BEGINS. Each datum BY PROGRAM (the guide's laid-datum.mjs) off the statement by which the dump's own 'gosem.cut.vars' lays the variable. In a bare row this is a premise. The card (YtnbhhckempbimaaDoorCards.lean) ties it to the program's text. -/
def laid_io_ErrShortWrite {H : Type} : DataW H := .iface "*errors.errorString" (.ptr (.agg [.lit (.string [115, 104, 111, 114, 116, 32, 119, 114, 105, 116, 101])]))
def laid_io_errInvalidWrite {H : Type} : DataW H := .iface "*errors.errorString" (.ptr (.agg [.lit (.string [105, 110, 118, 97, 108, 105, 100, 32, 119, 114, 105, 116, 101, 32, 114, 101, 115, 117, 108, 116])]))
def laid_io_EOF {H : Type} : DataW H := .iface "*errors.errorString" (.ptr (.agg [.lit (.string [69, 79, 70])]))
def laid_loop_example_lib_g01387_impl_errSource {H : Type} : DataW H := .iface "*errors.errorString" (.ptr (.agg [.lit (.string [115, 111, 117, 114, 99, 101])]))
def laid_loop_example_lib_g01387_impl_errSink {H : Type} : DataW H := .iface "*errors.errorString" (.ptr (.agg [.lit (.string [115, 105, 110, 107])]))

/-- 'laws.FnCopyBuffer': WHATEVER THE INPUT: true; the input reads as it did. -/
def fnCopyBufferSpec : ChangeSpec := { name := "fnCopyBuffer", vars := ["loop.example/lib-g01387/impl.errSource", "loop.example/lib-g01387/impl.errSink"], fn := fun _ => fun
  | [d1, d2, d3, d4, d5, d6, d7, d8, d9, g1, g2] => { results := [.lit (.bool true)], args := [d1, d2, d3, d4, d5, d6, d7, d8, d9], vars := [g1, g2] }
  | _ => none }
def fnCopyBufferRow : OpenClaim := { program := "ytnbhhckempbimaadoor", sum := "999d7da6bcca120dcfc3ddf8e606f906a52e636a26883431d758d0b5e717fb6f", func := "loop.example/lib-g01387/laws.FnCopyBuffer", spec := "fnCopyBuffer", unfollowed := true, recurses := true, named := ["io.errInvalidWrite", "io.ErrShortWrite", "io.EOF", "loop.example/lib-g01387/impl.errSource", "loop.example/lib-g01387/impl.errSink"], ifaces := true, apart := false, laid := [("io.ErrShortWrite", laid_io_ErrShortWrite), ("io.errInvalidWrite", laid_io_errInvalidWrite), ("io.EOF", laid_io_EOF), ("loop.example/lib-g01387/impl.errSource", laid_loop_example_lib_g01387_impl_errSource), ("loop.example/lib-g01387/impl.errSink", laid_loop_example_lib_g01387_impl_errSink)] }
def FnCopyBufferSaid : Prop := fnCopyBufferRow.holds Tryd.pinned (OpenSpec.ofChange fnCopyBufferSpec)

/-- ITS FALSE NEIGHBOUR: 'it returns false'. Refute it at one input. -/
def fnCopyBufferWrong : ChangeSpec := { name := "fnCopyBuffer", vars := ["loop.example/lib-g01387/impl.errSource", "loop.example/lib-g01387/impl.errSink"], fn := fun _ => fun
  | [d1, d2, d3, d4, d5, d6, d7, d8, d9, g1, g2] => { results := [.lit (.bool false)], args := [d1, d2, d3, d4, d5, d6, d7, d8, d9], vars := [g1, g2] }
  | _ => none }
def FnCopyBufferWrongFalsely : Prop := fnCopyBufferRow.holds Tryd.pinned (OpenSpec.ofChange fnCopyBufferWrong)

/-- 'laws.FnCopyBufferAsked': WHATEVER THE INPUT: true; the input reads as it did. -/
def fnCopyBufferAskedSpec : ChangeSpec := { name := "fnCopyBufferAsked", vars := ["loop.example/lib-g01387/impl.errSource", "loop.example/lib-g01387/impl.errSink"], fn := fun _ => fun
  | [d1, d2, d3, d4, d5, d6, d7, g1, g2] => { results := [.lit (.bool true)], args := [d1, d2, d3, d4, d5, d6, d7], vars := [g1, g2] }
  | _ => none }
def fnCopyBufferAskedRow : OpenClaim := { program := "ytnbhhckempbimaadoor", sum := "999d7da6bcca120dcfc3ddf8e606f906a52e636a26883431d758d0b5e717fb6f", func := "loop.example/lib-g01387/laws.FnCopyBufferAsked", spec := "fnCopyBufferAsked", unfollowed := true, recurses := true, named := ["io.errInvalidWrite", "io.ErrShortWrite", "io.EOF", "loop.example/lib-g01387/impl.errSource", "loop.example/lib-g01387/impl.errSink"], ifaces := true, apart := false, laid := [("io.ErrShortWrite", laid_io_ErrShortWrite), ("io.errInvalidWrite", laid_io_errInvalidWrite), ("io.EOF", laid_io_EOF), ("loop.example/lib-g01387/impl.errSource", laid_loop_example_lib_g01387_impl_errSource), ("loop.example/lib-g01387/impl.errSink", laid_loop_example_lib_g01387_impl_errSink)] }
def FnCopyBufferAskedSaid : Prop := fnCopyBufferAskedRow.holds Tryd.pinned (OpenSpec.ofChange fnCopyBufferAskedSpec)

/-- ITS FALSE NEIGHBOUR: 'it returns false'. Refute it at one input. -/
def fnCopyBufferAskedWrong : ChangeSpec := { name := "fnCopyBufferAsked", vars := ["loop.example/lib-g01387/impl.errSource", "loop.example/lib-g01387/impl.errSink"], fn := fun _ => fun
  | [d1, d2, d3, d4, d5, d6, d7, g1, g2] => { results := [.lit (.bool false)], args := [d1, d2, d3, d4, d5, d6, d7], vars := [g1, g2] }
  | _ => none }
def FnCopyBufferAskedWrongFalsely : Prop := fnCopyBufferAskedRow.holds Tryd.pinned (OpenSpec.ofChange fnCopyBufferAskedWrong)

/-- 'laws.FnCopyBufferEmpty': WHATEVER THE INPUT: true; the input reads as it did. -/
def fnCopyBufferEmptySpec : ChangeSpec := { name := "fnCopyBufferEmpty", vars := ["loop.example/lib-g01387/impl.errSource", "loop.example/lib-g01387/impl.errSink"], fn := fun _ => fun
  | [d1, d2, d3, d4, d5, d6, g1, g2] => { results := [.lit (.bool true)], args := [d1, d2, d3, d4, d5, d6], vars := [g1, g2] }
  | _ => none }
def fnCopyBufferEmptyRow : OpenClaim := { program := "ytnbhhckempbimaadoor", sum := "999d7da6bcca120dcfc3ddf8e606f906a52e636a26883431d758d0b5e717fb6f", func := "loop.example/lib-g01387/laws.FnCopyBufferEmpty", spec := "fnCopyBufferEmpty", unfollowed := true, recurses := true, named := ["io.errInvalidWrite", "io.ErrShortWrite", "io.EOF", "loop.example/lib-g01387/impl.errSource", "loop.example/lib-g01387/impl.errSink"], ifaces := true, apart := false, laid := [("io.ErrShortWrite", laid_io_ErrShortWrite), ("io.errInvalidWrite", laid_io_errInvalidWrite), ("io.EOF", laid_io_EOF), ("loop.example/lib-g01387/impl.errSource", laid_loop_example_lib_g01387_impl_errSource), ("loop.example/lib-g01387/impl.errSink", laid_loop_example_lib_g01387_impl_errSink)] }
def FnCopyBufferEmptySaid : Prop := fnCopyBufferEmptyRow.holds Tryd.pinned (OpenSpec.ofChange fnCopyBufferEmptySpec)

/-- ITS FALSE NEIGHBOUR: 'it returns false'. Refute it at one input. -/
def fnCopyBufferEmptyWrong : ChangeSpec := { name := "fnCopyBufferEmpty", vars := ["loop.example/lib-g01387/impl.errSource", "loop.example/lib-g01387/impl.errSink"], fn := fun _ => fun
  | [d1, d2, d3, d4, d5, d6, g1, g2] => { results := [.lit (.bool false)], args := [d1, d2, d3, d4, d5, d6], vars := [g1, g2] }
  | _ => none }
def FnCopyBufferEmptyWrongFalsely : Prop := fnCopyBufferEmptyRow.holds Tryd.pinned (OpenSpec.ofChange fnCopyBufferEmptyWrong)

/-- 'laws.FnCopyBufferEmptyDirect': WHATEVER THE INPUT: true; the input reads as it did. -/
def fnCopyBufferEmptyDirectSpec : ChangeSpec := { name := "fnCopyBufferEmptyDirect", vars := ["loop.example/lib-g01387/impl.errSource", "loop.example/lib-g01387/impl.errSink"], fn := fun _ => fun
  | [d1, d2, d3, d4, d5, d6, d7, g1, g2] => { results := [.lit (.bool true)], args := [d1, d2, d3, d4, d5, d6, d7], vars := [g1, g2] }
  | _ => none }
def fnCopyBufferEmptyDirectRow : OpenClaim := { program := "ytnbhhckempbimaadoor", sum := "999d7da6bcca120dcfc3ddf8e606f906a52e636a26883431d758d0b5e717fb6f", func := "loop.example/lib-g01387/laws.FnCopyBufferEmptyDirect", spec := "fnCopyBufferEmptyDirect", unfollowed := true, recurses := true, named := ["io.errInvalidWrite", "io.ErrShortWrite", "io.EOF", "loop.example/lib-g01387/impl.errSource", "loop.example/lib-g01387/impl.errSink"], ifaces := true, apart := false, laid := [("io.ErrShortWrite", laid_io_ErrShortWrite), ("io.errInvalidWrite", laid_io_errInvalidWrite), ("io.EOF", laid_io_EOF), ("loop.example/lib-g01387/impl.errSource", laid_loop_example_lib_g01387_impl_errSource), ("loop.example/lib-g01387/impl.errSink", laid_loop_example_lib_g01387_impl_errSink)] }
def FnCopyBufferEmptyDirectSaid : Prop := fnCopyBufferEmptyDirectRow.holds Tryd.pinned (OpenSpec.ofChange fnCopyBufferEmptyDirectSpec)

/-- ITS FALSE NEIGHBOUR: 'it returns false'. Refute it at one input. -/
def fnCopyBufferEmptyDirectWrong : ChangeSpec := { name := "fnCopyBufferEmptyDirect", vars := ["loop.example/lib-g01387/impl.errSource", "loop.example/lib-g01387/impl.errSink"], fn := fun _ => fun
  | [d1, d2, d3, d4, d5, d6, d7, g1, g2] => { results := [.lit (.bool false)], args := [d1, d2, d3, d4, d5, d6, d7], vars := [g1, g2] }
  | _ => none }
def FnCopyBufferEmptyDirectWrongFalsely : Prop := fnCopyBufferEmptyDirectRow.holds Tryd.pinned (OpenSpec.ofChange fnCopyBufferEmptyDirectWrong)

/-- 'laws.FnCopyBufferGood': WHATEVER THE INPUT: true; the input reads as it did. -/
def fnCopyBufferGoodSpec : ChangeSpec := { name := "fnCopyBufferGood", vars := ["loop.example/lib-g01387/impl.errSource", "loop.example/lib-g01387/impl.errSink"], fn := fun _ => fun
  | [d1, d2, d3, d4, d5, d6, d7, d8, d9, g1, g2] => { results := [.lit (.bool true)], args := [d1, d2, d3, d4, d5, d6, d7, d8, d9], vars := [g1, g2] }
  | _ => none }
def fnCopyBufferGoodRow : OpenClaim := { program := "ytnbhhckempbimaadoor", sum := "999d7da6bcca120dcfc3ddf8e606f906a52e636a26883431d758d0b5e717fb6f", func := "loop.example/lib-g01387/laws.FnCopyBufferGood", spec := "fnCopyBufferGood", unfollowed := true, recurses := true, named := ["io.errInvalidWrite", "io.ErrShortWrite", "io.EOF", "loop.example/lib-g01387/impl.errSource", "loop.example/lib-g01387/impl.errSink"], ifaces := true, apart := false, laid := [("io.ErrShortWrite", laid_io_ErrShortWrite), ("io.errInvalidWrite", laid_io_errInvalidWrite), ("io.EOF", laid_io_EOF), ("loop.example/lib-g01387/impl.errSource", laid_loop_example_lib_g01387_impl_errSource), ("loop.example/lib-g01387/impl.errSink", laid_loop_example_lib_g01387_impl_errSink)] }
def FnCopyBufferGoodSaid : Prop := fnCopyBufferGoodRow.holds Tryd.pinned (OpenSpec.ofChange fnCopyBufferGoodSpec)

/-- ITS FALSE NEIGHBOUR: 'it returns false'. Refute it at one input. -/
def fnCopyBufferGoodWrong : ChangeSpec := { name := "fnCopyBufferGood", vars := ["loop.example/lib-g01387/impl.errSource", "loop.example/lib-g01387/impl.errSink"], fn := fun _ => fun
  | [d1, d2, d3, d4, d5, d6, d7, d8, d9, g1, g2] => { results := [.lit (.bool false)], args := [d1, d2, d3, d4, d5, d6, d7, d8, d9], vars := [g1, g2] }
  | _ => none }
def FnCopyBufferGoodWrongFalsely : Prop := fnCopyBufferGoodRow.holds Tryd.pinned (OpenSpec.ofChange fnCopyBufferGoodWrong)

/-- 'laws.FnCopyBufferNil': WHATEVER THE INPUT: true; the input reads as it did. -/
def fnCopyBufferNilSpec : ChangeSpec := { name := "fnCopyBufferNil", vars := ["loop.example/lib-g01387/impl.errSource", "loop.example/lib-g01387/impl.errSink"], fn := fun _ => fun
  | [d1, d2, d3, d4, d5, d6, d7, d8, g1, g2] => { results := [.lit (.bool true)], args := [d1, d2, d3, d4, d5, d6, d7, d8], vars := [g1, g2] }
  | _ => none }
def fnCopyBufferNilRow : OpenClaim := { program := "ytnbhhckempbimaadoor", sum := "999d7da6bcca120dcfc3ddf8e606f906a52e636a26883431d758d0b5e717fb6f", func := "loop.example/lib-g01387/laws.FnCopyBufferNil", spec := "fnCopyBufferNil", unfollowed := true, recurses := true, named := ["io.errInvalidWrite", "io.ErrShortWrite", "io.EOF", "loop.example/lib-g01387/impl.errSource", "loop.example/lib-g01387/impl.errSink"], ifaces := true, apart := false, laid := [("io.ErrShortWrite", laid_io_ErrShortWrite), ("io.errInvalidWrite", laid_io_errInvalidWrite), ("io.EOF", laid_io_EOF), ("loop.example/lib-g01387/impl.errSource", laid_loop_example_lib_g01387_impl_errSource), ("loop.example/lib-g01387/impl.errSink", laid_loop_example_lib_g01387_impl_errSink)] }
def FnCopyBufferNilSaid : Prop := fnCopyBufferNilRow.holds Tryd.pinned (OpenSpec.ofChange fnCopyBufferNilSpec)

/-- ITS FALSE NEIGHBOUR: 'it returns false'. Refute it at one input. -/
def fnCopyBufferNilWrong : ChangeSpec := { name := "fnCopyBufferNil", vars := ["loop.example/lib-g01387/impl.errSource", "loop.example/lib-g01387/impl.errSink"], fn := fun _ => fun
  | [d1, d2, d3, d4, d5, d6, d7, d8, g1, g2] => { results := [.lit (.bool false)], args := [d1, d2, d3, d4, d5, d6, d7, d8], vars := [g1, g2] }
  | _ => none }
def FnCopyBufferNilWrongFalsely : Prop := fnCopyBufferNilRow.holds Tryd.pinned (OpenSpec.ofChange fnCopyBufferNilWrong)

/-- 'laws.FnCopyBufferRoad': WHATEVER THE INPUT: true; the input reads as it did. -/
def fnCopyBufferRoadSpec : ChangeSpec := { name := "fnCopyBufferRoad", vars := ["loop.example/lib-g01387/impl.errSource", "loop.example/lib-g01387/impl.errSink"], fn := fun _ => fun
  | [d1, d2, d3, d4, d5, d6, d7, d8, g1, g2] => { results := [.lit (.bool true)], args := [d1, d2, d3, d4, d5, d6, d7, d8], vars := [g1, g2] }
  | _ => none }
def fnCopyBufferRoadRow : OpenClaim := { program := "ytnbhhckempbimaadoor", sum := "999d7da6bcca120dcfc3ddf8e606f906a52e636a26883431d758d0b5e717fb6f", func := "loop.example/lib-g01387/laws.FnCopyBufferRoad", spec := "fnCopyBufferRoad", unfollowed := true, recurses := true, named := ["io.errInvalidWrite", "io.ErrShortWrite", "io.EOF", "loop.example/lib-g01387/impl.errSource", "loop.example/lib-g01387/impl.errSink"], ifaces := true, apart := false, laid := [("io.ErrShortWrite", laid_io_ErrShortWrite), ("io.errInvalidWrite", laid_io_errInvalidWrite), ("io.EOF", laid_io_EOF), ("loop.example/lib-g01387/impl.errSource", laid_loop_example_lib_g01387_impl_errSource), ("loop.example/lib-g01387/impl.errSink", laid_loop_example_lib_g01387_impl_errSink)] }
def FnCopyBufferRoadSaid : Prop := fnCopyBufferRoadRow.holds Tryd.pinned (OpenSpec.ofChange fnCopyBufferRoadSpec)

/-- ITS FALSE NEIGHBOUR: 'it returns false'. Refute it at one input. -/
def fnCopyBufferRoadWrong : ChangeSpec := { name := "fnCopyBufferRoad", vars := ["loop.example/lib-g01387/impl.errSource", "loop.example/lib-g01387/impl.errSink"], fn := fun _ => fun
  | [d1, d2, d3, d4, d5, d6, d7, d8, g1, g2] => { results := [.lit (.bool false)], args := [d1, d2, d3, d4, d5, d6, d7, d8], vars := [g1, g2] }
  | _ => none }
def FnCopyBufferRoadWrongFalsely : Prop := fnCopyBufferRoadRow.holds Tryd.pinned (OpenSpec.ofChange fnCopyBufferRoadWrong)

/-- 'laws.FnCopyBufferRoom': WHATEVER THE INPUT: true; the input reads as it did. -/
def fnCopyBufferRoomSpec : ChangeSpec := { name := "fnCopyBufferRoom", vars := ["loop.example/lib-g01387/impl.errSource", "loop.example/lib-g01387/impl.errSink"], fn := fun _ => fun
  | [d1, d2, d3, d4, d5, d6, d7, d8, d9, g1, g2] => { results := [.lit (.bool true)], args := [d1, d2, d3, d4, d5, d6, d7, d8, d9], vars := [g1, g2] }
  | _ => none }
def fnCopyBufferRoomRow : OpenClaim := { program := "ytnbhhckempbimaadoor", sum := "999d7da6bcca120dcfc3ddf8e606f906a52e636a26883431d758d0b5e717fb6f", func := "loop.example/lib-g01387/laws.FnCopyBufferRoom", spec := "fnCopyBufferRoom", unfollowed := true, recurses := true, named := ["io.errInvalidWrite", "io.ErrShortWrite", "io.EOF", "loop.example/lib-g01387/impl.errSource", "loop.example/lib-g01387/impl.errSink"], ifaces := true, apart := false, laid := [("io.ErrShortWrite", laid_io_ErrShortWrite), ("io.errInvalidWrite", laid_io_errInvalidWrite), ("io.EOF", laid_io_EOF), ("loop.example/lib-g01387/impl.errSource", laid_loop_example_lib_g01387_impl_errSource), ("loop.example/lib-g01387/impl.errSink", laid_loop_example_lib_g01387_impl_errSink)] }
def FnCopyBufferRoomSaid : Prop := fnCopyBufferRoomRow.holds Tryd.pinned (OpenSpec.ofChange fnCopyBufferRoomSpec)

/-- ITS FALSE NEIGHBOUR: 'it returns false'. Refute it at one input. -/
def fnCopyBufferRoomWrong : ChangeSpec := { name := "fnCopyBufferRoom", vars := ["loop.example/lib-g01387/impl.errSource", "loop.example/lib-g01387/impl.errSink"], fn := fun _ => fun
  | [d1, d2, d3, d4, d5, d6, d7, d8, d9, g1, g2] => { results := [.lit (.bool false)], args := [d1, d2, d3, d4, d5, d6, d7, d8, d9], vars := [g1, g2] }
  | _ => none }
def FnCopyBufferRoomWrongFalsely : Prop := fnCopyBufferRoomRow.holds Tryd.pinned (OpenSpec.ofChange fnCopyBufferRoomWrong)

/-- 'laws.FnCopyBufferStages': WHATEVER THE INPUT: true; the input reads as it did. -/
def fnCopyBufferStagesSpec : ChangeSpec := { name := "fnCopyBufferStages", vars := ["loop.example/lib-g01387/impl.errSource", "loop.example/lib-g01387/impl.errSink"], fn := fun _ => fun
  | [d1, d2, d3, d4, d5, d6, d7, g1, g2] => { results := [.lit (.bool true)], args := [d1, d2, d3, d4, d5, d6, d7], vars := [g1, g2] }
  | _ => none }
def fnCopyBufferStagesRow : OpenClaim := { program := "ytnbhhckempbimaadoor", sum := "999d7da6bcca120dcfc3ddf8e606f906a52e636a26883431d758d0b5e717fb6f", func := "loop.example/lib-g01387/laws.FnCopyBufferStages", spec := "fnCopyBufferStages", unfollowed := true, recurses := true, named := ["io.errInvalidWrite", "io.ErrShortWrite", "io.EOF", "loop.example/lib-g01387/impl.errSource", "loop.example/lib-g01387/impl.errSink"], ifaces := true, apart := false, laid := [("io.ErrShortWrite", laid_io_ErrShortWrite), ("io.errInvalidWrite", laid_io_errInvalidWrite), ("io.EOF", laid_io_EOF), ("loop.example/lib-g01387/impl.errSource", laid_loop_example_lib_g01387_impl_errSource), ("loop.example/lib-g01387/impl.errSink", laid_loop_example_lib_g01387_impl_errSink)] }
def FnCopyBufferStagesSaid : Prop := fnCopyBufferStagesRow.holds Tryd.pinned (OpenSpec.ofChange fnCopyBufferStagesSpec)

/-- ITS FALSE NEIGHBOUR: 'it returns false'. Refute it at one input. -/
def fnCopyBufferStagesWrong : ChangeSpec := { name := "fnCopyBufferStages", vars := ["loop.example/lib-g01387/impl.errSource", "loop.example/lib-g01387/impl.errSink"], fn := fun _ => fun
  | [d1, d2, d3, d4, d5, d6, d7, g1, g2] => { results := [.lit (.bool false)], args := [d1, d2, d3, d4, d5, d6, d7], vars := [g1, g2] }
  | _ => none }
def FnCopyBufferStagesWrongFalsely : Prop := fnCopyBufferStagesRow.holds Tryd.pinned (OpenSpec.ofChange fnCopyBufferStagesWrong)

/-- 'laws.FnCopyBufferTwo': WHATEVER THE INPUT: true; the input reads as it did. -/
def fnCopyBufferTwoSpec : ChangeSpec := { name := "fnCopyBufferTwo", vars := ["loop.example/lib-g01387/impl.errSource", "loop.example/lib-g01387/impl.errSink"], fn := fun _ => fun
  | [d1, d2, d3, d4, d5, d6, d7, d8, d9, g1, g2] => { results := [.lit (.bool true)], args := [d1, d2, d3, d4, d5, d6, d7, d8, d9], vars := [g1, g2] }
  | _ => none }
def fnCopyBufferTwoRow : OpenClaim := { program := "ytnbhhckempbimaadoor", sum := "999d7da6bcca120dcfc3ddf8e606f906a52e636a26883431d758d0b5e717fb6f", func := "loop.example/lib-g01387/laws.FnCopyBufferTwo", spec := "fnCopyBufferTwo", unfollowed := true, recurses := true, named := ["io.errInvalidWrite", "io.ErrShortWrite", "io.EOF", "loop.example/lib-g01387/impl.errSource", "loop.example/lib-g01387/impl.errSink"], ifaces := true, apart := false, laid := [("io.ErrShortWrite", laid_io_ErrShortWrite), ("io.errInvalidWrite", laid_io_errInvalidWrite), ("io.EOF", laid_io_EOF), ("loop.example/lib-g01387/impl.errSource", laid_loop_example_lib_g01387_impl_errSource), ("loop.example/lib-g01387/impl.errSink", laid_loop_example_lib_g01387_impl_errSink)] }
def FnCopyBufferTwoSaid : Prop := fnCopyBufferTwoRow.holds Tryd.pinned (OpenSpec.ofChange fnCopyBufferTwoSpec)

/-- ITS FALSE NEIGHBOUR: 'it returns false'. Refute it at one input. -/
def fnCopyBufferTwoWrong : ChangeSpec := { name := "fnCopyBufferTwo", vars := ["loop.example/lib-g01387/impl.errSource", "loop.example/lib-g01387/impl.errSink"], fn := fun _ => fun
  | [d1, d2, d3, d4, d5, d6, d7, d8, d9, g1, g2] => { results := [.lit (.bool false)], args := [d1, d2, d3, d4, d5, d6, d7, d8, d9], vars := [g1, g2] }
  | _ => none }
def FnCopyBufferTwoWrongFalsely : Prop := fnCopyBufferTwoRow.holds Tryd.pinned (OpenSpec.ofChange fnCopyBufferTwoWrong)

/-- 'laws.FnCopyBufferUnused': WHATEVER THE INPUT: true; the input reads as it did. -/
def fnCopyBufferUnusedSpec : ChangeSpec := { name := "fnCopyBufferUnused", vars := ["loop.example/lib-g01387/impl.errSource", "loop.example/lib-g01387/impl.errSink"], fn := fun _ => fun
  | [d1, d2, d3, d4, d5, d6, d7, d8, g1, g2] => { results := [.lit (.bool true)], args := [d1, d2, d3, d4, d5, d6, d7, d8], vars := [g1, g2] }
  | _ => none }
def fnCopyBufferUnusedRow : OpenClaim := { program := "ytnbhhckempbimaadoor", sum := "999d7da6bcca120dcfc3ddf8e606f906a52e636a26883431d758d0b5e717fb6f", func := "loop.example/lib-g01387/laws.FnCopyBufferUnused", spec := "fnCopyBufferUnused", unfollowed := true, recurses := true, named := ["io.errInvalidWrite", "io.ErrShortWrite", "io.EOF", "loop.example/lib-g01387/impl.errSource", "loop.example/lib-g01387/impl.errSink"], ifaces := true, apart := false, laid := [("io.ErrShortWrite", laid_io_ErrShortWrite), ("io.errInvalidWrite", laid_io_errInvalidWrite), ("io.EOF", laid_io_EOF), ("loop.example/lib-g01387/impl.errSource", laid_loop_example_lib_g01387_impl_errSource), ("loop.example/lib-g01387/impl.errSink", laid_loop_example_lib_g01387_impl_errSink)] }
def FnCopyBufferUnusedSaid : Prop := fnCopyBufferUnusedRow.holds Tryd.pinned (OpenSpec.ofChange fnCopyBufferUnusedSpec)

/-- ITS FALSE NEIGHBOUR: 'it returns false'. Refute it at one input. -/
def fnCopyBufferUnusedWrong : ChangeSpec := { name := "fnCopyBufferUnused", vars := ["loop.example/lib-g01387/impl.errSource", "loop.example/lib-g01387/impl.errSink"], fn := fun _ => fun
  | [d1, d2, d3, d4, d5, d6, d7, d8, g1, g2] => { results := [.lit (.bool false)], args := [d1, d2, d3, d4, d5, d6, d7, d8], vars := [g1, g2] }
  | _ => none }
def FnCopyBufferUnusedWrongFalsely : Prop := fnCopyBufferUnusedRow.holds Tryd.pinned (OpenSpec.ofChange fnCopyBufferUnusedWrong)

/- THE SECOND FORM. 'bulk': how many values and letters a reading holds, each counted each time it is reached (what is shared counts as often as it is met; a slice's spare places count too). A statement '..UptoSaid' is the law's where the arguments, and the package variables that the reading takes, are together of bulk at most 1048576: NARROWER than '..Said'. Prove '..Said' where nothing that the law and all that it calls make is longer than what came in: it says more and counts as full. Else prove '..UptoSaid'. A law counts once. -/
mutual
def uptoBulk {H : Type} : DataW H → Nat
  | .lit (.string bytes) => bytes.length + 1
  | .lit _ => 1
  | .nil => 1
  | .ptr d => uptoBulk d + 1
  | .slice elems spare => uptoBulkAll elems + uptoBulkAll spare + 1
  | .agg parts => uptoBulkAll parts + 1
  | .iface _ d => uptoBulk d + 1
  | .map entries => uptoBulkEntries entries + 1
  | .held _ => 1
def uptoBulkAll {H : Type} : List (DataW H) → Nat
  | [] => 0
  | d :: r => uptoBulk d + uptoBulkAll r
def uptoBulkEntries {H : Type} : List (Lit × DataW H) → Nat
  | [] => 0
  | x :: r => uptoBulkEntry x + uptoBulkEntries r
def uptoBulkEntry {H : Type} : Lit × DataW H → Nat
  | (.string bytes, d) => bytes.length + uptoBulk d + 1
  | (_, d) => uptoBulk d + 1
 end
def uptoSmall : (H : Type) → List (DataW H) → Bool := fun _ ds => decide (uptoBulkAll ds ≤ 1048576)
def OpenSpec.upto (s : _root_.Go.ChangeSpec) : _root_.Go.OpenSpec := { _root_.Go.OpenSpec.ofChange s with cond := some uptoSmall }

/-- 'laws.FnCopyBuffer', WHERE WHAT IT READS IS OF BULK AT MOST 1048576: true; the input reads as it did. -/
def fnCopyBufferUptoRow : OpenClaim := { program := "ytnbhhckempbimaadoor", sum := "999d7da6bcca120dcfc3ddf8e606f906a52e636a26883431d758d0b5e717fb6f", func := "loop.example/lib-g01387/laws.FnCopyBuffer", spec := "fnCopyBuffer", unfollowed := true, recurses := true, named := ["io.errInvalidWrite", "io.ErrShortWrite", "io.EOF", "loop.example/lib-g01387/impl.errSource", "loop.example/lib-g01387/impl.errSink"], ifaces := true, apart := false, laid := [("io.ErrShortWrite", laid_io_ErrShortWrite), ("io.errInvalidWrite", laid_io_errInvalidWrite), ("io.EOF", laid_io_EOF), ("loop.example/lib-g01387/impl.errSource", laid_loop_example_lib_g01387_impl_errSource), ("loop.example/lib-g01387/impl.errSink", laid_loop_example_lib_g01387_impl_errSink)], narrowed := true }
def FnCopyBufferUptoSaid : Prop := fnCopyBufferUptoRow.holds Tryd.pinned (OpenSpec.upto fnCopyBufferSpec)

/-- 'laws.FnCopyBufferAsked', WHERE WHAT IT READS IS OF BULK AT MOST 1048576: true; the input reads as it did. -/
def fnCopyBufferAskedUptoRow : OpenClaim := { program := "ytnbhhckempbimaadoor", sum := "999d7da6bcca120dcfc3ddf8e606f906a52e636a26883431d758d0b5e717fb6f", func := "loop.example/lib-g01387/laws.FnCopyBufferAsked", spec := "fnCopyBufferAsked", unfollowed := true, recurses := true, named := ["io.errInvalidWrite", "io.ErrShortWrite", "io.EOF", "loop.example/lib-g01387/impl.errSource", "loop.example/lib-g01387/impl.errSink"], ifaces := true, apart := false, laid := [("io.ErrShortWrite", laid_io_ErrShortWrite), ("io.errInvalidWrite", laid_io_errInvalidWrite), ("io.EOF", laid_io_EOF), ("loop.example/lib-g01387/impl.errSource", laid_loop_example_lib_g01387_impl_errSource), ("loop.example/lib-g01387/impl.errSink", laid_loop_example_lib_g01387_impl_errSink)], narrowed := true }
def FnCopyBufferAskedUptoSaid : Prop := fnCopyBufferAskedUptoRow.holds Tryd.pinned (OpenSpec.upto fnCopyBufferAskedSpec)

/-- 'laws.FnCopyBufferEmpty', WHERE WHAT IT READS IS OF BULK AT MOST 1048576: true; the input reads as it did. -/
def fnCopyBufferEmptyUptoRow : OpenClaim := { program := "ytnbhhckempbimaadoor", sum := "999d7da6bcca120dcfc3ddf8e606f906a52e636a26883431d758d0b5e717fb6f", func := "loop.example/lib-g01387/laws.FnCopyBufferEmpty", spec := "fnCopyBufferEmpty", unfollowed := true, recurses := true, named := ["io.errInvalidWrite", "io.ErrShortWrite", "io.EOF", "loop.example/lib-g01387/impl.errSource", "loop.example/lib-g01387/impl.errSink"], ifaces := true, apart := false, laid := [("io.ErrShortWrite", laid_io_ErrShortWrite), ("io.errInvalidWrite", laid_io_errInvalidWrite), ("io.EOF", laid_io_EOF), ("loop.example/lib-g01387/impl.errSource", laid_loop_example_lib_g01387_impl_errSource), ("loop.example/lib-g01387/impl.errSink", laid_loop_example_lib_g01387_impl_errSink)], narrowed := true }
def FnCopyBufferEmptyUptoSaid : Prop := fnCopyBufferEmptyUptoRow.holds Tryd.pinned (OpenSpec.upto fnCopyBufferEmptySpec)

/-- 'laws.FnCopyBufferEmptyDirect', WHERE WHAT IT READS IS OF BULK AT MOST 1048576: true; the input reads as it did. -/
def fnCopyBufferEmptyDirectUptoRow : OpenClaim := { program := "ytnbhhckempbimaadoor", sum := "999d7da6bcca120dcfc3ddf8e606f906a52e636a26883431d758d0b5e717fb6f", func := "loop.example/lib-g01387/laws.FnCopyBufferEmptyDirect", spec := "fnCopyBufferEmptyDirect", unfollowed := true, recurses := true, named := ["io.errInvalidWrite", "io.ErrShortWrite", "io.EOF", "loop.example/lib-g01387/impl.errSource", "loop.example/lib-g01387/impl.errSink"], ifaces := true, apart := false, laid := [("io.ErrShortWrite", laid_io_ErrShortWrite), ("io.errInvalidWrite", laid_io_errInvalidWrite), ("io.EOF", laid_io_EOF), ("loop.example/lib-g01387/impl.errSource", laid_loop_example_lib_g01387_impl_errSource), ("loop.example/lib-g01387/impl.errSink", laid_loop_example_lib_g01387_impl_errSink)], narrowed := true }
def FnCopyBufferEmptyDirectUptoSaid : Prop := fnCopyBufferEmptyDirectUptoRow.holds Tryd.pinned (OpenSpec.upto fnCopyBufferEmptyDirectSpec)

/-- 'laws.FnCopyBufferGood', WHERE WHAT IT READS IS OF BULK AT MOST 1048576: true; the input reads as it did. -/
def fnCopyBufferGoodUptoRow : OpenClaim := { program := "ytnbhhckempbimaadoor", sum := "999d7da6bcca120dcfc3ddf8e606f906a52e636a26883431d758d0b5e717fb6f", func := "loop.example/lib-g01387/laws.FnCopyBufferGood", spec := "fnCopyBufferGood", unfollowed := true, recurses := true, named := ["io.errInvalidWrite", "io.ErrShortWrite", "io.EOF", "loop.example/lib-g01387/impl.errSource", "loop.example/lib-g01387/impl.errSink"], ifaces := true, apart := false, laid := [("io.ErrShortWrite", laid_io_ErrShortWrite), ("io.errInvalidWrite", laid_io_errInvalidWrite), ("io.EOF", laid_io_EOF), ("loop.example/lib-g01387/impl.errSource", laid_loop_example_lib_g01387_impl_errSource), ("loop.example/lib-g01387/impl.errSink", laid_loop_example_lib_g01387_impl_errSink)], narrowed := true }
def FnCopyBufferGoodUptoSaid : Prop := fnCopyBufferGoodUptoRow.holds Tryd.pinned (OpenSpec.upto fnCopyBufferGoodSpec)

/-- 'laws.FnCopyBufferNil', WHERE WHAT IT READS IS OF BULK AT MOST 1048576: true; the input reads as it did. -/
def fnCopyBufferNilUptoRow : OpenClaim := { program := "ytnbhhckempbimaadoor", sum := "999d7da6bcca120dcfc3ddf8e606f906a52e636a26883431d758d0b5e717fb6f", func := "loop.example/lib-g01387/laws.FnCopyBufferNil", spec := "fnCopyBufferNil", unfollowed := true, recurses := true, named := ["io.errInvalidWrite", "io.ErrShortWrite", "io.EOF", "loop.example/lib-g01387/impl.errSource", "loop.example/lib-g01387/impl.errSink"], ifaces := true, apart := false, laid := [("io.ErrShortWrite", laid_io_ErrShortWrite), ("io.errInvalidWrite", laid_io_errInvalidWrite), ("io.EOF", laid_io_EOF), ("loop.example/lib-g01387/impl.errSource", laid_loop_example_lib_g01387_impl_errSource), ("loop.example/lib-g01387/impl.errSink", laid_loop_example_lib_g01387_impl_errSink)], narrowed := true }
def FnCopyBufferNilUptoSaid : Prop := fnCopyBufferNilUptoRow.holds Tryd.pinned (OpenSpec.upto fnCopyBufferNilSpec)

/-- 'laws.FnCopyBufferRoad', WHERE WHAT IT READS IS OF BULK AT MOST 1048576: true; the input reads as it did. -/
def fnCopyBufferRoadUptoRow : OpenClaim := { program := "ytnbhhckempbimaadoor", sum := "999d7da6bcca120dcfc3ddf8e606f906a52e636a26883431d758d0b5e717fb6f", func := "loop.example/lib-g01387/laws.FnCopyBufferRoad", spec := "fnCopyBufferRoad", unfollowed := true, recurses := true, named := ["io.errInvalidWrite", "io.ErrShortWrite", "io.EOF", "loop.example/lib-g01387/impl.errSource", "loop.example/lib-g01387/impl.errSink"], ifaces := true, apart := false, laid := [("io.ErrShortWrite", laid_io_ErrShortWrite), ("io.errInvalidWrite", laid_io_errInvalidWrite), ("io.EOF", laid_io_EOF), ("loop.example/lib-g01387/impl.errSource", laid_loop_example_lib_g01387_impl_errSource), ("loop.example/lib-g01387/impl.errSink", laid_loop_example_lib_g01387_impl_errSink)], narrowed := true }
def FnCopyBufferRoadUptoSaid : Prop := fnCopyBufferRoadUptoRow.holds Tryd.pinned (OpenSpec.upto fnCopyBufferRoadSpec)

/-- 'laws.FnCopyBufferRoom', WHERE WHAT IT READS IS OF BULK AT MOST 1048576: true; the input reads as it did. -/
def fnCopyBufferRoomUptoRow : OpenClaim := { program := "ytnbhhckempbimaadoor", sum := "999d7da6bcca120dcfc3ddf8e606f906a52e636a26883431d758d0b5e717fb6f", func := "loop.example/lib-g01387/laws.FnCopyBufferRoom", spec := "fnCopyBufferRoom", unfollowed := true, recurses := true, named := ["io.errInvalidWrite", "io.ErrShortWrite", "io.EOF", "loop.example/lib-g01387/impl.errSource", "loop.example/lib-g01387/impl.errSink"], ifaces := true, apart := false, laid := [("io.ErrShortWrite", laid_io_ErrShortWrite), ("io.errInvalidWrite", laid_io_errInvalidWrite), ("io.EOF", laid_io_EOF), ("loop.example/lib-g01387/impl.errSource", laid_loop_example_lib_g01387_impl_errSource), ("loop.example/lib-g01387/impl.errSink", laid_loop_example_lib_g01387_impl_errSink)], narrowed := true }
def FnCopyBufferRoomUptoSaid : Prop := fnCopyBufferRoomUptoRow.holds Tryd.pinned (OpenSpec.upto fnCopyBufferRoomSpec)

/-- 'laws.FnCopyBufferStages', WHERE WHAT IT READS IS OF BULK AT MOST 1048576: true; the input reads as it did. -/
def fnCopyBufferStagesUptoRow : OpenClaim := { program := "ytnbhhckempbimaadoor", sum := "999d7da6bcca120dcfc3ddf8e606f906a52e636a26883431d758d0b5e717fb6f", func := "loop.example/lib-g01387/laws.FnCopyBufferStages", spec := "fnCopyBufferStages", unfollowed := true, recurses := true, named := ["io.errInvalidWrite", "io.ErrShortWrite", "io.EOF", "loop.example/lib-g01387/impl.errSource", "loop.example/lib-g01387/impl.errSink"], ifaces := true, apart := false, laid := [("io.ErrShortWrite", laid_io_ErrShortWrite), ("io.errInvalidWrite", laid_io_errInvalidWrite), ("io.EOF", laid_io_EOF), ("loop.example/lib-g01387/impl.errSource", laid_loop_example_lib_g01387_impl_errSource), ("loop.example/lib-g01387/impl.errSink", laid_loop_example_lib_g01387_impl_errSink)], narrowed := true }
def FnCopyBufferStagesUptoSaid : Prop := fnCopyBufferStagesUptoRow.holds Tryd.pinned (OpenSpec.upto fnCopyBufferStagesSpec)

/-- 'laws.FnCopyBufferTwo', WHERE WHAT IT READS IS OF BULK AT MOST 1048576: true; the input reads as it did. -/
def fnCopyBufferTwoUptoRow : OpenClaim := { program := "ytnbhhckempbimaadoor", sum := "999d7da6bcca120dcfc3ddf8e606f906a52e636a26883431d758d0b5e717fb6f", func := "loop.example/lib-g01387/laws.FnCopyBufferTwo", spec := "fnCopyBufferTwo", unfollowed := true, recurses := true, named := ["io.errInvalidWrite", "io.ErrShortWrite", "io.EOF", "loop.example/lib-g01387/impl.errSource", "loop.example/lib-g01387/impl.errSink"], ifaces := true, apart := false, laid := [("io.ErrShortWrite", laid_io_ErrShortWrite), ("io.errInvalidWrite", laid_io_errInvalidWrite), ("io.EOF", laid_io_EOF), ("loop.example/lib-g01387/impl.errSource", laid_loop_example_lib_g01387_impl_errSource), ("loop.example/lib-g01387/impl.errSink", laid_loop_example_lib_g01387_impl_errSink)], narrowed := true }
def FnCopyBufferTwoUptoSaid : Prop := fnCopyBufferTwoUptoRow.holds Tryd.pinned (OpenSpec.upto fnCopyBufferTwoSpec)

/-- 'laws.FnCopyBufferUnused', WHERE WHAT IT READS IS OF BULK AT MOST 1048576: true; the input reads as it did. -/
def fnCopyBufferUnusedUptoRow : OpenClaim := { program := "ytnbhhckempbimaadoor", sum := "999d7da6bcca120dcfc3ddf8e606f906a52e636a26883431d758d0b5e717fb6f", func := "loop.example/lib-g01387/laws.FnCopyBufferUnused", spec := "fnCopyBufferUnused", unfollowed := true, recurses := true, named := ["io.errInvalidWrite", "io.ErrShortWrite", "io.EOF", "loop.example/lib-g01387/impl.errSource", "loop.example/lib-g01387/impl.errSink"], ifaces := true, apart := false, laid := [("io.ErrShortWrite", laid_io_ErrShortWrite), ("io.errInvalidWrite", laid_io_errInvalidWrite), ("io.EOF", laid_io_EOF), ("loop.example/lib-g01387/impl.errSource", laid_loop_example_lib_g01387_impl_errSource), ("loop.example/lib-g01387/impl.errSink", laid_loop_example_lib_g01387_impl_errSink)], narrowed := true }
def FnCopyBufferUnusedUptoSaid : Prop := fnCopyBufferUnusedUptoRow.holds Tryd.pinned (OpenSpec.upto fnCopyBufferUnusedSpec)

end Rows
end Go.Proofs.YtnbhhckempbimaaDoor
