/-
  What io.NewSectionReader, (*SectionReader).Outer and impl.OuterFresh do: for all offsets and numbers OuterFresh returns true and both numbers, and makes new memory alone.
-/
import Derived.Test.YtpcndmemfjnfaaaProg
import Derived.Test.YtpcndmemfjnfaaaWords
import Derived.WalkLawsBesides
import Derived.Deep.QuietTactic
import Derived.BigQuiet
import Derived.LaidEql
namespace Go.Proofs.Ytpcndmemfjnfaaa
open Go.RowKit

theorem newSection (t : TypeId) (a : Addr) (off n : Int) (w : World) :
    Calls Try.prog 7 #[.iface t (.pointer (some a)), .int .i64 off, .int .i64 n] w fun e w' => ∃ rem : Int, e = .returned (.pointer (some ⟨w.heap.size, 0, none⟩)) ∧
      w' = w.alloc (.cells #[.iface t (.pointer (some a)), .int .i64 off, .int .i64 off, .int .i64 rem, .int .i64 n] 36) := by
  go_enter Try.func7, Try.ntmps7
  go_wp2
  all_goals go_ret
  all_goals exact ⟨_, rfl, rfl⟩

theorem outer (b : Nat) (r x y : Value) (off n : Int) (w : World) (h : At w b 36 #[r, .int .i64 off, x, y, .int .i64 n]) :
    Calls Try.prog 8 #[.pointer (some ⟨b, 0, none⟩)] w fun e w' => e = .returned (.tuple #[r, .int .i64 off, .int .i64 n]) ∧ ∃ m, w' = w.drewN m := by
  have h0 : w.cell? ⟨b, 0, none⟩ = some r := h.get 0
  have h1 : w.cell? ⟨b, 1, none⟩ = some (.int .i64 off) := h.get 1
  have h4 : w.cell? ⟨b, 4, none⟩ = some (.int .i64 n) := h.get 4
  clear h
  go_enter Try.func8, Try.ntmps8
  go_wp2
  go_quiet (fail)
  go_wp2
  go_ret3
  exact ⟨rfl, _, rfl⟩

theorem comp25 : (Try.prog.info? 25).map (·.comparable) = some true := by kernel_rfl
theorem size28 : (Try.prog.info? 28).map (·.size) = some 1 := by kernel_rfl

theorem outerFresh (off n : Int) (w : World) :
    Calls Try.prog 6 #[.int .i64 off, .int .i64 n] w fun e w' => e = .returned (.tuple #[.bool true, .int .i64 off, .int .i64 n]) ∧ New w w' := by
  obtain ⟨i, hi, hcmp⟩ := Option.map_eq_some_iff.1 comp25
  obtain ⟨j, hj, _⟩ := Option.map_eq_some_iff.1 size28
  have heq := fun (w : World) (a : Addr) => run_eql_iface_ptr_same w a Try.underlying30 Try.underlying25 hi hcmp hj
  go_enter Try.func6, Try.ntmps6
  go_wp2_with fail
  refine (newSection _ _ _ _ _).mono ?_
  rintro e w1 ⟨rem, rfl, rfl⟩
  go_wp2_with fail
  refine (outer _ _ _ _ _ _ _ (At.made' (by simp) _ _)).mono ?_
  rintro e w2 ⟨rfl, m, rfl⟩
  go_wp2
  go_ret3
  exact ⟨rfl, below_drawn (new_trans (new_alloc _ _) (new_alloc _ _)) m⟩

theorem fnOuterAny_walk (off n : Int) (w : World) :
    Calls Try.prog 4 #[.int .i64 off, .int .i64 n] w fun e w' => e = .returned (.bool true) ∧ New w w' := by
  go_enter Try.func4, Try.ntmps4
  go_wp2_with fail
  refine (outerFresh _ _ _).mono ?_
  rintro e w1 ⟨rfl, hn⟩
  go_wp2
  go_ret
  exact ⟨rfl, hn⟩

theorem specFresh (off n : Int) (w : World) :
    Calls Try.prog 5 #[.int .i64 off, .int .i64 n] w fun e w' => e = .returned (.tuple #[.bool true, .int .i64 off, .int .i64 n]) ∧ w = w' := by
  go_enter Try.func5, Try.ntmps5
  go_wp2
  go_ret3
  exact ⟨rfl, rfl⟩

theorem fnExact_walk (off n : Int) (w : World) :
    Calls Try.prog 3 #[.int .i64 off, .int .i64 n] w fun e w' => e = .returned (.bool true) ∧ New w w' := by
  go_enter Try.func3, Try.ntmps3
  go_wp2_with (first | (go_at_call 5; refine (specFresh _ _ _).mono ?_; rintro e w1 ⟨rfl, rfl⟩) | (go_at_call 6; refine (outerFresh _ _ _).mono ?_; rintro e w1 ⟨rfl, hn⟩))
  go_ret
  exact ⟨rfl, hn⟩

end Go.Proofs.Ytpcndmemfjnfaaa
