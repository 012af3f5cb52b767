/-
  Whatever the arguments: laws.FnOffsetScript returns true and leaves its arguments as they were; the listed error variables are as the program's text lays them (the card ties them).
-/
import Derived.Test.YtnmdjhkeekhfbaaDoorCards
import Derived.Test.YtnmdjhkeekhfbaaDoorTie
import Derived.Test.YtnmdjhkeekhfbaaDoorLaid
import Derived.Test.YtnmdjhkeekhfbaaDoorLawScript
namespace Go.Proofs.YtnmdjhkeekhfbaaDoor.fnOffsetScript
open Go.ChangeShapes Go.WideShapes Go.ChangeAt Go.RowKit
set_option linter.unusedVariables false

theorem cells2 : Tryd.prog.cellsOf 2 = 1 := by kernel_rfl
theorem cells3 : Tryd.prog.cellsOf 3 = 1 := by kernel_rfl
theorem cells5 : Tryd.prog.cellsOf 5 = 1 := by kernel_rfl
theorem cells26 : Tryd.prog.cellsOf 26 = 1 := by kernel_rfl

set_option maxRecDepth 100000 in
theorem lifted (os : Os) (started : os.Started) (H : Type) (enc : TypeId × Value → H) :
    ReturnsInHanded {} Tryd.checked os 10 .any (fun w args => (Rows.fnOffsetScriptSpec.pre enc Tryd.prog Tryd.f10 [] false w args ∧ laidMetH Tryd.prog Rows.fnOffsetScriptRow.laid w) ∧ sizedMet enc Tryd.prog Tryd.f10 (OpenSpec.ofChange Rows.fnOffsetScriptSpec) false w args)
      (Rows.fnOffsetScriptSpec.post enc Tryd.prog Tryd.f10 false true false false) := by
  refine returnsInHanded_of_change_and (C := Tryd.checked) (X := fun w _ => laidMetH Tryd.prog Rows.fnOffsetScriptRow.laid w) (fun _ _ _ hh h => h.of_heap hh) own started (by kernel_rfl) Tryd.func10
    (ChangeSpec.witness_shaped (enc := enc) (C := Tryd.checked) (os := os) (X := fun w _ => laidMetH Tryd.prog Rows.fnOffsetScriptRow.laid w) false (World.doorLaid Tryd.prog 800 os) #[.int .i64 0, .int .i64 0, .slice none 0 0, .slice none 0 0, .slice none 0 0] 8 rfl (World.shaped_of_RefB (by kernel_rfl) (by kernel_rfl)) (by kernel_rfl) (by kernel_rfl) (by kernel_rfl) (door_met os _)) ?_
  intro W base args ds gs before hval0 hW _ _ hL _
  have hval : ∀ (j : Nat) t v, Tryd.f10.params[j]? = some t → args[j]? = some v → Value.okWide Tryd.prog W .any base t v := hval0
  have hW' := hW
  obtain ⟨p, q, hA0, hV, rfl, hfz, hnd⟩ := hW
  have hA : DataW.TrodAll enc Tryd.prog W 0 (fun _ => true) true Tryd.f10.params.toList args.toList ds p := hA0
  have hA2 := hA
  rw [Tryd.params10] at hA hval
  obtain ⟨v0, vs0, d0, ds0, p0, q0, hargs, rfl, rfl, h0, r0⟩ := trodAll_cons hA
  obtain ⟨v1, vs1_, d1, ds1, p1, q1, rfl, rfl, rfl, h1, r1⟩ := trodAll_cons r0
  obtain ⟨v2, vs2_, d2, ds2, p2, q2, rfl, rfl, rfl, h2, r2⟩ := trodAll_cons r1
  obtain ⟨v3, vs3_, d3, ds3, p3, q3, rfl, rfl, rfl, h3, r3⟩ := trodAll_cons r2
  obtain ⟨v4, vs4_, d4, ds4, p4, q4, rfl, rfl, rfl, h4, r4⟩ := trodAll_cons r3
  obtain ⟨rfl, rfl, rfl⟩ := trodAll_nil r4
  obtain rfl : args = #[v0, v1, v2, v3, v4] := by cases args; simp_all
  obtain ⟨E, hE, hvS, hvK⟩ := env_of_laid hL
  obtain ⟨rfl, rfl⟩ := hV.unique (vars_read enc hvS hvK trivial trivial _)
  obtain ⟨a0, rfl, rfl, rfl, w0⟩ := open_int Tryd.underlying2 (hval 0 2 v0 rfl rfl) h0
  have hb0 := i64_bounds w0
  obtain ⟨a1, rfl, rfl, rfl, w1⟩ := open_int Tryd.underlying2 (hval 1 2 v1 rfl rfl) h1
  have hb1 := i64_bounds w1
  obtain ⟨A2, n2, c2, zs2, rfl, hN2, hc2, hm2, hs2, hl2, hw2⟩ := open_sl Tryd.underlying40 Tryd.underlying3 cells3 (hval 2 40 v2 rfl rfl) h2
  subst hl2
  obtain ⟨A3, c3, ts3, rfl, ht3⟩ := open_texts Tryd.underlying23 Tryd.underlying26 Tryd.underlying5 cells26 cells5 (hval 3 23 v3 rfl rfl) h3
  obtain ⟨A4, n4, c4, zs4, rfl, hN4, hc4, hm4, hs4, hl4, hw4⟩ := open_sl Tryd.underlying24 Tryd.underlying2 cells2 (hval 4 24 v4 rfl rfl) h4
  subst hl4
  refine Calls.mono (fnOffsetScript_walk hs2 ht3 hs4 hE) fun e W' ⟨he, hg⟩ => ?_
  subst he
  exact ⟨_, rfl, _, _, _, [], _, _, hW', trodAll_cons_mk (shut_bool Tryd.underlying4 _) trodAll_mk0, trodAll_below laidOut hg (by kernel_rfl) hA2 (fun x hx => hW'.lt x (List.mem_append_left _ hx)), vars_read enc (vars_kept hg hvS (hE.lt 1 (by decide)).1) (vars_kept' hg hvK (hE.lt 2 (by decide)).1) trivial trivial _, hg.frame _, fun h => by cases h⟩

theorem said : Rows.FnOffsetScriptSaid :=
  OpenClaim.holds_of_wide 10 Tryd.f10 rfl rfl rfl rfl rfl rfl rfl ⟨rfl, rfl, rfl, rfl, rfl⟩ rfl rfl rfl rfl rfl (by kernel_rfl) Tryd.func10 (by kernel_rfl)
    (of_decide_eq_true (by kernel_rfl)) (by unfold Func.isWrapper; first | (rw [if_pos (by decide +kernel)]; kernel_rfl) | (rw [if_neg (by decide +kernel)]; exact ⟨rfl, rfl⟩))
    (fun os started H enc _ => lifted os started H enc)

theorem stand : ([2, 2, 40, 23, 24] : List TypeId).all (fun t => !Tryd.prog.wantsStandIn t) = true := by kernel_rfl

theorem plain (f : FuncId) (fn : Func) (hf : Tryd.pinned.checked.prog.funcNamed "loop.example/lib-g01387/laws.FnOffsetScript" = some f) (hfn : Tryd.pinned.checked.prog.funcs[f]? = some fn) :
    true = Tryd.pinned.checked.prog.looks [] ∧ ∀ (j : Nat) t, fn.params[j]? = some t → Tryd.pinned.checked.prog.wantsStandIn t = false := by
  obtain rfl : f = 10 := Option.some.inj ((show Tryd.prog.funcNamed "loop.example/lib-g01387/laws.FnOffsetScript" = some 10 by kernel_rfl).symm.trans hf) |>.symm
  obtain rfl : fn = Tryd.f10 := (Option.some.inj (Tryd.func10.symm.trans hfn)).symm
  refine ⟨by kernel_rfl, fun j t ht => ?_⟩
  rw [Tryd.params10] at ht
  have hm := List.all_eq_true.1 stand t (by simpa using Array.mem_of_getElem? ht)
  exact (show Tryd.prog.wantsStandIn t = false by simpa using hm)

theorem card : Rows.FnOffsetScriptCardSaid :=
  Claim7.holds_tied_plain_at .later [] _ _ _ _ said (fun _ h => by cases h) (by kernel_rfl) (fun _ h => by cases h) fnOffsetScript_row_tie rfl ⟨rfl, rfl⟩ (by kernel_rfl) rfl plain (by kernel_rfl)
#print axioms card
end Go.Proofs.YtnmdjhkeekhfbaaDoor.fnOffsetScript
