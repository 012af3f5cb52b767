/-
  What the deferred function of impl.CopyBuffer does, behind a return and behind a panic.
-/
import Derived.Test.YtnbhhckempbimaaDoorRoads
import Derived.Defers
import Derived.Recover
namespace Go.Proofs.YtnbhhckempbimaaDoor
open Go.RowKit
set_option linter.unusedVariables false
set_option maxRecDepth 100000

set_option maxHeartbeats 1000000 in
theorem closure_idle {w : World} {ob rx wx rb wb : Nat} {c0 c1 c2 c3 c4 c5 c6 c7 r0 r1 r2 r3 r4 r5 r6 av w0 w1 w2 gv wv : Value} (ho : At w ob 25 #[c0, c1, c2, c3, c4, c5, c6, c7])
    (hx : At w rx 49 #[.pointer (some ⟨rb, 0, none⟩)]) (hy : At w wx 55 #[.pointer (some ⟨wb, 0, none⟩)])
    (hr : At w rb 63 #[r0, r1, r2, r3, r4, r5, r6, av]) (hw : At w wb 57 #[w0, w1, w2, gv, wv]) (isA : ∃ a n c, av = .slice a n c) (isG : ∃ a n c, gv = .slice a n c) (isW : ∃ a n c, wv = .slice a n c) (is2 : ∃ a n c, c2 = .slice a n c) (is4 : ∃ a n c, c4 = .slice a n c) (is5 : ∃ a n c, c5 = .slice a n c) (is7 : ∃ b, c7 = .bool b) :
    CallsD Tryd.prog 21 #[.pointer (some ⟨ob, 0, none⟩), .pointer (some ⟨wx, 0, none⟩), .pointer (some ⟨rx, 0, none⟩)] .returning w fun e u' w' =>
      e = .returned (.tuple #[]) ∧ u' = .returning ∧ At w' ob 25 #[c0, c1, gv, c3, av, wv, c6, .bool false] ∧ Turns (· = ob) w w' := by
  obtain ⟨aa, an, ac, rfl⟩ := isA
  obtain ⟨ga, gn, gc, rfl⟩ := isG
  obtain ⟨va, vn, vc, rfl⟩ := isW
  obtain ⟨a2, n2, k2, rfl⟩ := is2
  obtain ⟨a4, n4, k4, rfl⟩ := is4
  obtain ⟨a5, n5, k5, rfl⟩ := is5
  obtain ⟨b7, rfl⟩ := is7
  have e1 : rx ≠ ob := hx.apart ho (by decide)
  have e2 : wx ≠ ob := hy.apart ho (by decide)
  have e3 : rb ≠ ob := hr.apart ho (by decide)
  have e4 : wb ≠ ob := hw.apart ho (by decide)
  have o7 := ho.get 7
  have o2 := ho.get 2
  have o4 := ho.get 4
  have o5 := ho.get 5
  have z7 := ho.soft 7
  have z2 := ho.soft 2
  have z4 := ho.soft 4
  have z5 := ho.soft 5
  have x0 := hx.get 0
  have y0 := hy.get 0
  have r7 := hr.get 7
  have w3 := hw.get 3
  have w4 := hw.get 4
  have HO := hide ho
  clear ho hx hy hr hw
  refine callsD_of_wpS Tryd.func21 rfl fun c₀ cs hu => ?_
  apply wpS_seq
  apply wpS_region
  simp [wpOpsS, go_sem, recoverD, hu, Tryd.ntmps21, Exit.thenS, o7, z7]
  refine wpS_of_wp ?_
  go_wp2
  have hA := ((((Sole.start HO.out).put 7 (.bool false)).put 2 (.slice ga gn gc)).put 4 (.slice aa an ac)).put 5 (.slice va vn vc)
  refine ⟨rfl, .returning, ?_, .tuple #[], ?_, rfl, rfl, hA.at_, hA.turns⟩
  · cases c₀; simp_all
  · simp [results, Tryd.results21]

set_option maxHeartbeats 1000000 in
theorem closure_panic {pt : TypeId} {px : Value} {w : World} {ob rx wx rb wb : Nat} {c0 c1 c2 c3 c4 c5 c6 c7 r0 r1 r2 r3 r4 r5 r6 av w0 w1 w2 gv wv : Value} (ho : At w ob 25 #[c0, c1, c2, c3, c4, c5, c6, c7])
    (hx : At w rx 49 #[.pointer (some ⟨rb, 0, none⟩)]) (hy : At w wx 55 #[.pointer (some ⟨wb, 0, none⟩)])
    (hr : At w rb 63 #[r0, r1, r2, r3, r4, r5, r6, av]) (hw : At w wb 57 #[w0, w1, w2, gv, wv]) (isA : ∃ a n c, av = .slice a n c) (isG : ∃ a n c, gv = .slice a n c) (isW : ∃ a n c, wv = .slice a n c) (is2 : ∃ a n c, c2 = .slice a n c) (is4 : ∃ a n c, c4 = .slice a n c) (is5 : ∃ a n c, c5 = .slice a n c) (is7 : ∃ b, c7 = .bool b) :
    CallsD Tryd.prog 21 #[.pointer (some ⟨ob, 0, none⟩), .pointer (some ⟨wx, 0, none⟩), .pointer (some ⟨rx, 0, none⟩)] (.panicking [{ v := .iface pt px, recovered := false }]) w fun e u' w' =>
      e = .returned (.tuple #[]) ∧ u' = .panicking [{ v := .iface pt px, recovered := true }] ∧ At w' ob 25 #[c0, c1, gv, c3, av, wv, c6, .bool true] ∧ Turns (· = ob) w w' := by
  obtain ⟨aa, an, ac, rfl⟩ := isA
  obtain ⟨ga, gn, gc, rfl⟩ := isG
  obtain ⟨va, vn, vc, rfl⟩ := isW
  obtain ⟨a2, n2, k2, rfl⟩ := is2
  obtain ⟨a4, n4, k4, rfl⟩ := is4
  obtain ⟨a5, n5, k5, rfl⟩ := is5
  obtain ⟨b7, rfl⟩ := is7
  have e1 : rx ≠ ob := hx.apart ho (by decide)
  have e2 : wx ≠ ob := hy.apart ho (by decide)
  have e3 : rb ≠ ob := hr.apart ho (by decide)
  have e4 : wb ≠ ob := hw.apart ho (by decide)
  have o7 := ho.get 7
  have o2 := ho.get 2
  have o4 := ho.get 4
  have o5 := ho.get 5
  have z7 := ho.soft 7
  have z2 := ho.soft 2
  have z4 := ho.soft 4
  have z5 := ho.soft 5
  have x0 := hx.get 0
  have y0 := hy.get 0
  have r7 := hr.get 7
  have w3 := hw.get 3
  have w4 := hw.get 4
  have HO := hide ho
  clear ho hx hy hr hw
  refine callsD_of_wpS Tryd.func21 rfl fun c₀ cs hu => ?_
  apply wpS_seq
  apply wpS_region
  simp [wpOpsS, go_sem, recoverD, hu, Tryd.ntmps21, Exit.thenS, o7, z7]
  refine wpS_of_wp ?_
  go_wp2
  have hA := ((((Sole.start HO.out).put 7 (.bool true)).put 2 (.slice ga gn gc)).put 4 (.slice aa an ac)).put 5 (.slice va vn vc)
  refine ⟨rfl, .panicking [{ v := .iface pt px, recovered := true }], ?_, .tuple #[], ?_, rfl, rfl, hA.at_, hA.turns⟩
  · rfl
  · simp [results, Tryd.results21]

end Go.Proofs.YtnbhhckempbimaaDoor
