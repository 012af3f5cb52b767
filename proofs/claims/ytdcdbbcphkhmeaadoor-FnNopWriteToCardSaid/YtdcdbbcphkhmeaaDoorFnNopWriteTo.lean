/-
  Whatever the arguments: laws.FnNopWriteTo returns true and leaves its arguments as they were; the listed error variables are as the program's text lays them (the card ties them).
-/
import Derived.Test.YtdcdbbcphkhmeaaDoorCards
import Derived.Test.YtdcdbbcphkhmeaaDoorTie
import Derived.Test.YtdcdbbcphkhmeaaDoorLaid
import Derived.Test.YtdcdbbcphkhmeaaDoorNopWtLaw
namespace Go.Proofs.YtdcdbbcphkhmeaaDoor.fnNopWriteTo
open Go.ChangeShapes Go.WideShapes Go.ChangeAt Go.RowKit
set_option linter.unusedVariables false

theorem cells3 : Tryd.prog.cellsOf 3 = 1 := by kernel_rfl
theorem cells5 : Tryd.prog.cellsOf 5 = 1 := by kernel_rfl

set_option maxRecDepth 100000 in
theorem lifted (os : Os) (started : os.Started) (H : Type) (enc : TypeId × Value → H) :
    ReturnsInHanded {} Tryd.checked os 5 .any (fun w args => (Rows.fnNopWriteToSpec.pre enc Tryd.prog Tryd.f5 [] false w args ∧ laidMetH Tryd.prog Rows.fnNopWriteToRow.laid w) ∧ sizedMet enc Tryd.prog Tryd.f5 (OpenSpec.ofChange Rows.fnNopWriteToSpec) false w args)
      (Rows.fnNopWriteToSpec.post enc Tryd.prog Tryd.f5 false true false false) := by
  refine returnsInHanded_of_change_and (C := Tryd.checked) (X := fun w _ => laidMetH Tryd.prog Rows.fnNopWriteToRow.laid w) (fun _ _ _ hh h => h.of_heap hh) own started (by kernel_rfl) Tryd.func5
    (ChangeSpec.witness_shaped (enc := enc) (C := Tryd.checked) (os := os) (X := fun w _ => laidMetH Tryd.prog Rows.fnNopWriteToRow.laid w) false (World.doorLaid Tryd.prog 800 os) #[.slice none 0 0, .slice none 0 0, .bool false, .bool false, .bool false, .slice none 0 0] 8 rfl (World.shaped_of_RefB (by kernel_rfl) (by kernel_rfl)) (by kernel_rfl) (by kernel_rfl) (by kernel_rfl) (door_met os _)) ?_
  intro W base args ds gs before hval0 hW _ _ hL _
  have hval : ∀ (j : Nat) t v, Tryd.f5.params[j]? = some t → args[j]? = some v → Value.okWide Tryd.prog W .any base t v := hval0
  have hW' := hW
  obtain ⟨p, q, hA0, hV, rfl, hfz, hnd⟩ := hW
  have hA : DataW.TrodAll enc Tryd.prog W 0 (fun _ => true) true Tryd.f5.params.toList args.toList ds p := hA0
  have hA2 := hA
  rw [Tryd.params5] at hA hval
  obtain ⟨v0, vs0, d0, ds0, p0, q0, hargs, rfl, rfl, h0, r0⟩ := trodAll_cons hA
  obtain ⟨v1, vs1_, d1, ds1, p1, q1, rfl, rfl, rfl, h1, r1⟩ := trodAll_cons r0
  obtain ⟨v2, vs2_, d2, ds2, p2, q2, rfl, rfl, rfl, h2, r2⟩ := trodAll_cons r1
  obtain ⟨v3, vs3_, d3, ds3, p3, q3, rfl, rfl, rfl, h3, r3⟩ := trodAll_cons r2
  obtain ⟨v4, vs4_, d4, ds4, p4, q4, rfl, rfl, rfl, h4, r4⟩ := trodAll_cons r3
  obtain ⟨v5, vs5_, d5, ds5, p5, q5, rfl, rfl, rfl, h5, r5⟩ := trodAll_cons r4
  obtain ⟨rfl, rfl, rfl⟩ := trodAll_nil r5
  obtain rfl : args = #[v0, v1, v2, v3, v4, v5] := by cases args; simp_all
  obtain ⟨E, hE, hvS, hvK⟩ := env_of_laid hL
  obtain ⟨rfl, rfl⟩ := hV.unique (vars_read enc hvS hvK trivial trivial _)
  obtain ⟨A0, n0, c0, zs0, rfl, hN0, hc0, hm0, hs0, hl0, hw0⟩ := open_sl Tryd.underlying22 Tryd.underlying5 cells5 (hval 0 22 v0 rfl rfl) h0
  subst hl0
  obtain ⟨A1, n1, c1, zs1, rfl, hN1, hc1, hm1, hs1, hl1, hw1⟩ := open_sl Tryd.underlying23 Tryd.underlying3 cells3 (hval 1 23 v1 rfl rfl) h1
  subst hl1
  obtain ⟨b2, rfl, rfl, rfl⟩ := open_bool Tryd.underlying4 (hval 2 4 v2 rfl rfl) h2
  obtain ⟨b3, rfl, rfl, rfl⟩ := open_bool Tryd.underlying4 (hval 3 4 v3 rfl rfl) h3
  obtain ⟨b4, rfl, rfl, rfl⟩ := open_bool Tryd.underlying4 (hval 4 4 v4 rfl rfl) h4
  obtain ⟨A5, n5, c5, zs5, rfl, hN5, hc5, hm5, hs5, hl5, hw5⟩ := open_sl Tryd.underlying23 Tryd.underlying3 cells3 (hval 5 23 v5 rfl rfl) h5
  subst hl5
  refine Calls.mono (fnNopWriteTo_walk (s := ⟨zs0, zs1, b2, b3, b4⟩) hs0 hN0 hc0 hm0 hs1 hN1 hs5 hE) fun e W' ⟨he, hg⟩ => ?_
  subst he
  exact ⟨_, rfl, _, _, _, [], _, _, hW', trodAll_cons_mk (shut_bool Tryd.underlying4 _) trodAll_mk0, trodAll_below laidOut hg (by kernel_rfl) hA2 (fun x hx => hW'.lt x (List.mem_append_left _ hx)), vars_read enc (vars_kept hg hvS (hE.lt 1 (by decide)).1) (vars_kept' hg hvK (hE.lt 2 (by decide)).1) trivial trivial _, hg.frame _, fun h => by cases h⟩

theorem said : Rows.FnNopWriteToSaid :=
  OpenClaim.holds_of_wide 5 Tryd.f5 rfl rfl rfl rfl rfl rfl rfl ⟨rfl, rfl, rfl, rfl, rfl⟩ rfl rfl rfl rfl rfl (by kernel_rfl) Tryd.func5 (by kernel_rfl)
    (of_decide_eq_true (by kernel_rfl)) (by unfold Func.isWrapper; first | (rw [if_pos (by decide +kernel)]; kernel_rfl) | (rw [if_neg (by decide +kernel)]; exact ⟨rfl, rfl⟩))
    (fun os started H enc _ => lifted os started H enc)

theorem stand : ([22, 23, 4, 4, 4, 23] : List TypeId).all (fun t => !Tryd.prog.wantsStandIn t) = true := by kernel_rfl

theorem plain (f : FuncId) (fn : Func) (hf : Tryd.pinned.checked.prog.funcNamed "loop.example/lib-g01387/laws.FnNopWriteTo" = some f) (hfn : Tryd.pinned.checked.prog.funcs[f]? = some fn) :
    true = Tryd.pinned.checked.prog.looks [] ∧ ∀ (j : Nat) t, fn.params[j]? = some t → Tryd.pinned.checked.prog.wantsStandIn t = false := by
  obtain rfl : f = 5 := Option.some.inj ((show Tryd.prog.funcNamed "loop.example/lib-g01387/laws.FnNopWriteTo" = some 5 by kernel_rfl).symm.trans hf) |>.symm
  obtain rfl : fn = Tryd.f5 := (Option.some.inj (Tryd.func5.symm.trans hfn)).symm
  refine ⟨by kernel_rfl, fun j t ht => ?_⟩
  rw [Tryd.params5] at ht
  have hm := List.all_eq_true.1 stand t (by simpa using Array.mem_of_getElem? ht)
  exact (show Tryd.prog.wantsStandIn t = false by simpa using hm)

theorem card : Rows.FnNopWriteToCardSaid :=
  Claim7.holds_tied_plain_at .later [] _ _ _ _ said (fun _ h => by cases h) (by kernel_rfl) (fun _ h => by cases h) fnNopWriteTo_row_tie rfl ⟨rfl, rfl⟩ (by kernel_rfl) rfl plain (by kernel_rfl)
#print axioms card
end Go.Proofs.YtdcdbbcphkhmeaaDoor.fnNopWriteTo
