/-
  What the listed sentinels give: each lies where its variable says, in a block of its own.
-/
import Derived.Test.YtdcdbbcphkhmeaaDoorRows
import Derived.Test.YtdcdbbcphkhmeaaDoorFrame
import Derived.Test.YtdcdbbcphkhmeaaDoorErrs
import Derived.LaidLaws
import Derived.RowKitTokens
import Derived.WalkSmall
namespace Go.Proofs.YtdcdbbcphkhmeaaDoor
open Go.ChangeShapes Go.WideShapes Go.ChangeAt Go.RowKit

theorem own : ownKnob Tryd.prog.godebug = none := by kernel_rfl
theorem laidOut : laidOutB Tryd.prog = true := by kernel_rfl
theorem gv0 : Tryd.prog.globalNamed "io.ErrShortWrite" = some 3 := by kernel_rfl
theorem gt0 : (Tryd.prog.globals[3]?).map (·.type) = some 66 := by kernel_rfl
theorem gv1 : Tryd.prog.globalNamed "io.EOF" = some 0 := by kernel_rfl
theorem gt1 : (Tryd.prog.globals[0]?).map (·.type) = some 66 := by kernel_rfl
theorem gv2 : Tryd.prog.globalNamed "loop.example/lib-g01387/impl.errSource" = some 1 := by kernel_rfl
theorem gt2 : (Tryd.prog.globals[1]?).map (·.type) = some 66 := by kernel_rfl
theorem gv3 : Tryd.prog.globalNamed "loop.example/lib-g01387/impl.errSink" = some 2 := by kernel_rfl
theorem gt3 : (Tryd.prog.globals[2]?).map (·.type) = some 66 := by kernel_rfl
theorem cellsES : Tryd.prog.cellsOf 97 = 1 := by kernel_rfl
theorem cellsStr : Tryd.prog.cellsOf 9 = 1 := by kernel_rfl
theorem starES : "*" ++ "errors.errorString" = "*errors.errorString" := by decide
theorem rowES (u : TypeId) (h : Tryd.prog.typeName? 3 u = some "*errors.errorString") : u = 78 :=
  typeName_ptr_named (nm := "errors.errorString") (by rw [starES]; kernel_rfl) (by kernel_rfl) (by decide) u (by rw [starES]; exact h)

def laidAll : List (String × DataW Unit) := [("io.ErrShortWrite", Rows.laid_io_ErrShortWrite), ("io.EOF", Rows.laid_io_EOF), ("loop.example/lib-g01387/impl.errSource", Rows.laid_loop_example_lib_g01387_impl_errSource), ("loop.example/lib-g01387/impl.errSink", Rows.laid_loop_example_lib_g01387_impl_errSink)]

theorem door_met (os : Os) (args : Array Value) : laidMetH Tryd.prog laidAll ((World.doorLaid Tryd.prog 800 os).forCall (fun _ _ => 0) ⟨#[], args, []⟩).memory :=
  laidMetH_of_parts3 (fuel := 8) (laidMet_of_run' 8 (by kernel_rfl) (by kernel_rfl)) (by kernel_rfl) (by kernel_rfl)

theorem vars_read {H : Type} (enc : TypeId × Value → H) {W : World} {x0 x1 : Value} (h0 : W.var? Tryd.prog "loop.example/lib-g01387/impl.errSource" = some #[x0]) (h1 : W.var? Tryd.prog "loop.example/lib-g01387/impl.errSink" = some #[x1]) (i0 : IsIface x0) (i1 : IsIface x1) (sp : Nat → Bool) :
    DataW.TrodVars enc Tryd.prog W sp ["loop.example/lib-g01387/impl.errSource", "loop.example/lib-g01387/impl.errSink"] [tok enc x0, tok enc x1] [.cell 1 0, .cell 2 0] :=
  ⟨1, 66, #[x0], 1, [], [.cell 2 0], gv2, gt2, h0, trod_held Tryd.underlying66 i0 0, ⟨2, 66, #[x1], 1, [], [], gv3, gt3, h1, trod_held Tryd.underlying66 i1 0, rfl, rfl⟩, rfl⟩

theorem vars_kept {W W' : World} {x : Value} (hn : New W W') (h : W.var? Tryd.prog "loop.example/lib-g01387/impl.errSource" = some #[x]) (hl : 1 < W.heap.size) : W'.var? Tryd.prog "loop.example/lib-g01387/impl.errSource" = some #[x] := var?_below hn gv2 hl h
theorem vars_kept' {W W' : World} {x : Value} (hn : New W W') (h : W.var? Tryd.prog "loop.example/lib-g01387/impl.errSink" = some #[x]) (hl : 2 < W.heap.size) : W'.var? Tryd.prog "loop.example/lib-g01387/impl.errSink" = some #[x] := var?_below hn gv3 hl h

theorem env_of_laid {W : World} (h : laidMetH Tryd.prog laidAll W) : ∃ E, Env W.heap.size E W ∧ W.var? Tryd.prog "loop.example/lib-g01387/impl.errSource" = some #[errVal E 2] ∧ W.var? Tryd.prog "loop.example/lib-g01387/impl.errSink" = some #[errVal E 3] := by
  rw [MakeChecks.laidMetH_plain _ _ _ (by kernel_rfl)] at h
  obtain ⟨ps, ⟨g0, t0, cs0, f0, p0, q0, hg0, ht0, hv0, hd0, ⟨g1, t1, cs1, f1, p1, q1, hg1, ht1, hv1, hd1, ⟨g2, t2, cs2, f2, p2, q2, hg2, ht2, hv2, hd2, ⟨g3, t3, cs3, f3, p3, q3, hg3, ht3, hv3, hd3, hq, e3⟩, e2⟩, e1⟩, e0⟩, hnd, hrows⟩ := h
  obtain rfl := Option.some.inj (gv0.symm.trans hg0)
  obtain rfl := Option.some.inj (gt0.symm.trans ht0)
  obtain rfl := Option.some.inj (gv1.symm.trans hg1)
  obtain rfl := Option.some.inj (gt1.symm.trans ht1)
  obtain rfl := Option.some.inj (gv2.symm.trans hg2)
  obtain rfl := Option.some.inj (gt2.symm.trans ht2)
  obtain rfl := Option.some.inj (gv3.symm.trans hg3)
  obtain rfl := Option.some.inj (gt3.symm.trans ht3)
  have hq' : q3 = [] := hq
  subst hq'
  subst e3
  subst e2
  subst e1
  subst e0
  obtain ⟨l0⟩ := cs0
  obtain ⟨l1⟩ := cs1
  obtain ⟨l2⟩ := cs2
  obtain ⟨l3⟩ := cs3
  have ok0 : ∀ u v, l0 = [.iface u v] → Value.okWide Tryd.prog W .any 0 u v := fun u v e => by
    subst e
    exact (hrows 3 0 (by simp [MemPlace.row])).2 u v (by simpa using World.var?_cell hg0 hv0 0)
  have ok1 : ∀ u v, l1 = [.iface u v] → Value.okWide Tryd.prog W .any 0 u v := fun u v e => by
    subst e
    exact (hrows 0 0 (by simp [MemPlace.row])).2 u v (by simpa using World.var?_cell hg1 hv1 0)
  have ok2 : ∀ u v, l2 = [.iface u v] → Value.okWide Tryd.prog W .any 0 u v := fun u v e => by
    subst e
    exact (hrows 1 0 (by simp [MemPlace.row])).2 u v (by simpa using World.var?_cell hg2 hv2 0)
  have ok3 : ∀ u v, l3 = [.iface u v] → Value.okWide Tryd.prog W .any 0 u v := fun u v e => by
    subst e
    exact (hrows 2 0 (by simp [MemPlace.row])).2 u v (by simpa using World.var?_cell hg3 hv3 0)
  obtain ⟨a0, s0, rfl, hc0, -, -, rfl⟩ := errorString_of_trod Tryd.underlying66 rowES Tryd.underlying78 Tryd.underlying97 rfl rfl Tryd.underlying9 cellsES cellsStr hd0 ok0
  obtain ⟨a1, s1, rfl, hc1, -, -, rfl⟩ := errorString_of_trod Tryd.underlying66 rowES Tryd.underlying78 Tryd.underlying97 rfl rfl Tryd.underlying9 cellsES cellsStr hd1 ok1
  obtain ⟨a2, s2, rfl, hc2, -, -, rfl⟩ := errorString_of_trod Tryd.underlying66 rowES Tryd.underlying78 Tryd.underlying97 rfl rfl Tryd.underlying9 cellsES cellsStr hd2 ok2
  obtain ⟨a3, s3, rfl, hc3, -, -, rfl⟩ := errorString_of_trod Tryd.underlying66 rowES Tryd.underlying78 Tryd.underlying97 rfl rfl Tryd.underlying9 cellsES cellsStr hd3 ok3
  have hb0 := (hrows a0.block a0.off (by simp [MemPlace.row])).1
  have hl0 : a0.block < W.heap.size := by obtain ⟨c, t, h⟩ := hb0; exact (Array.getElem?_eq_some_iff.1 h).1
  have hx0 : W.cell? ⟨3, 0, none⟩ = some (.iface 78 (.pointer (some a0))) := by simpa using World.var?_cell hg0 hv0 0
  have hy0 := World.block_lt_of_cell? W _ hx0
  have hb1 := (hrows a1.block a1.off (by simp [MemPlace.row])).1
  have hl1 : a1.block < W.heap.size := by obtain ⟨c, t, h⟩ := hb1; exact (Array.getElem?_eq_some_iff.1 h).1
  have hx1 : W.cell? ⟨0, 0, none⟩ = some (.iface 78 (.pointer (some a1))) := by simpa using World.var?_cell hg1 hv1 0
  have hy1 := World.block_lt_of_cell? W _ hx1
  have hb2 := (hrows a2.block a2.off (by simp [MemPlace.row])).1
  have hl2 : a2.block < W.heap.size := by obtain ⟨c, t, h⟩ := hb2; exact (Array.getElem?_eq_some_iff.1 h).1
  have hx2 : W.cell? ⟨1, 0, none⟩ = some (.iface 78 (.pointer (some a2))) := by simpa using World.var?_cell hg2 hv2 0
  have hy2 := World.block_lt_of_cell? W _ hx2
  have hb3 := (hrows a3.block a3.off (by simp [MemPlace.row])).1
  have hl3 : a3.block < W.heap.size := by obtain ⟨c, t, h⟩ := hb3; exact (Array.getElem?_eq_some_iff.1 h).1
  have hx3 : W.cell? ⟨2, 0, none⟩ = some (.iface 78 (.pointer (some a3))) := by simpa using World.var?_cell hg3 hv3 0
  have hy3 := World.block_lt_of_cell? W _ hx3
  have ne01 : a0 ≠ a1 := by
    rintro rfl
    simp [MemPlace.row] at hnd
  have ne02 : a0 ≠ a2 := by
    rintro rfl
    simp [MemPlace.row] at hnd
  have ne03 : a0 ≠ a3 := by
    rintro rfl
    simp [MemPlace.row] at hnd
  have ne12 : a1 ≠ a2 := by
    rintro rfl
    simp [MemPlace.row] at hnd
  have ne13 : a1 ≠ a3 := by
    rintro rfl
    simp [MemPlace.row] at hnd
  have ne23 : a2 ≠ a3 := by
    rintro rfl
    simp [MemPlace.row] at hnd
  refine ⟨fun i => match i with | 0 => a1 | 1 => a2 | 2 => a3 | _ => a0, ⟨?_, ?_, ?_, ?_⟩, hv2, hv3⟩
  · intro i hi
    match i, hi with
    | 0, _ => exact hx1
    | 1, _ => exact hx2
    | 2, _ => exact hx3
    | 3, _ => exact hx0
    | i + 4, hi => exact absurd hi (by unfold nErrs; omega)
  · intro i hi
    match i, hi with
    | 0, _ => exact hb1
    | 1, _ => exact hb2
    | 2, _ => exact hb3
    | 3, _ => exact hb0
    | i + 4, hi => exact absurd hi (by unfold nErrs; omega)
  · intro i j hi hj e
    match i, j, hi, hj, e with
    | 0, 0, _, _, _ => exact rfl
    | 0, 1, _, _, e => exact (ne12 e).elim
    | 0, 2, _, _, e => exact (ne13 e).elim
    | 0, 3, _, _, e => exact (ne01 e.symm).elim
    | 1, 0, _, _, e => exact (ne12 e.symm).elim
    | 1, 1, _, _, _ => exact rfl
    | 1, 2, _, _, e => exact (ne23 e).elim
    | 1, 3, _, _, e => exact (ne02 e.symm).elim
    | 2, 0, _, _, e => exact (ne13 e.symm).elim
    | 2, 1, _, _, e => exact (ne23 e.symm).elim
    | 2, 2, _, _, _ => exact rfl
    | 2, 3, _, _, e => exact (ne03 e.symm).elim
    | 3, 0, _, _, e => exact (ne01 e).elim
    | 3, 1, _, _, e => exact (ne02 e).elim
    | 3, 2, _, _, e => exact (ne03 e).elim
    | 3, 3, _, _, _ => exact rfl
    | i + 4, _, hi, _, _ => exact absurd hi (by unfold nErrs; omega)
    | _, j + 4, _, hj, _ => exact absurd hj (by unfold nErrs; omega)
  · intro i hi
    match i, hi with
    | 0, _ => exact ⟨hy1, hl1⟩
    | 1, _ => exact ⟨hy2, hl2⟩
    | 2, _ => exact ⟨hy3, hl3⟩
    | 3, _ => exact ⟨hy0, hl0⟩
    | i + 4, hi => exact absurd hi (by unfold nErrs; omega)

end Go.Proofs.YtdcdbbcphkhmeaaDoor
