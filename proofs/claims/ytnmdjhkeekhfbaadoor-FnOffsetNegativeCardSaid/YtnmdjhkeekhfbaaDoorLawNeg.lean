/-
  laws.FnOffsetNegative returns true, whatever the arguments.
-/
import Derived.Test.YtnmdjhkeekhfbaaDoorOffBase
namespace Go.Proofs.YtnmdjhkeekhfbaaDoor
open Go.RowKit
set_option linter.unusedVariables false
set_option maxRecDepth 100000

theorem fnOffsetNegative_in {w : World} {base off : Int} {bs : List Int} {DA : Option Addr} {dc : Nat} {E : Nat → Addr} (hd : Sl w 1 DA bs.length (bs.map (Value.int .u8))) (hDn : DA = none → dc = 0) (hE : Env w.heap.size E w)
    (hb0 : 0 ≤ base) (hb1 : base ≤ 1099511627776) (ho : off < 0) (hl : bs.length ≤ 65536) :
    Calls Tryd.prog 8 #[.int .i64 base, .int .i64 off, .slice DA bs.length dc] w fun e w' => e = .returned (.bool true) ∧ New w w' := by
  have hrun : runG base 1125899906842624 [⟨1, bs, off, 0⟩] = ([⟨0, 5⟩], base, []) := by simp [runG, moveG, ho]
  have hP : PlacesAt w [⟨1, bs, off, 0⟩] [[.int .i64 1, .slice DA bs.length dc, .int .i64 off, .int .i64 0]] := PlacesAt.snoc (PlacesAt.nil _) (PlaceAt.write 1 off 0 hd hDn)
  have HP := hide hP; have HE := hide hE; have HR := hide hrun
  clear hd hDn hP hE hrun
  go_enter Tryd.func8, Tryd.ntmps8
  go_wp2_with fail
  refine (offCall (ps := [⟨1, bs, off, 0⟩]) (Placed.lit _ _ 1 rfl (by omega) HP.out (by simp) (Nat.le_refl _)) (new_alloc _ _) HE.out (by simp) ?hf (by omega) (by omega) hb0 (by omega)).mono ?_
  case hf =>
    intro p hp
    rw [List.mem_singleton.1 hp]
    exact ⟨hl, .inl ⟨rfl, ho⟩⟩
  rintro e w2 ⟨MA, mc, CA, cc, css, rfl, hran, hn⟩
  rw [HR.out] at hran ⊢
  have hN2 := hide (new_trans (new_alloc _ _) hn)
  obtain ⟨g, c, e1, hc1, hc2, hg, hm⟩ := hran.mrow (by simp)
  cases e1
  obtain ⟨x0, x1⟩ := hm 0 _ rfl
  clear hm hran hn
  go_wp2
  go_ret
  exact ⟨rfl, hN2.out⟩

theorem fnOffsetNegative_walk {w : World} {base off : Int} {bs : List Int} {DA : Option Addr} {dc : Nat} {E : Nat → Addr} (hd : Sl w 1 DA bs.length (bs.map (Value.int .u8))) (hDn : DA = none → dc = 0) (hE : Env w.heap.size E w) :
    Calls Tryd.prog 8 #[.int .i64 base, .int .i64 off, .slice DA bs.length dc] w fun e w' => e = .returned (.bool true) ∧ New w w' := by
  by_cases c1 : 0 ≤ base
  · by_cases c2 : base ≤ 1099511627776
    · by_cases c3 : off < 0
      · by_cases c4 : bs.length ≤ 65536
        · exact fnOffsetNegative_in hd hDn hE c1 c2 c3 c4
        · clear hd hDn hE
          go_enter Tryd.func8, Tryd.ntmps8
          go_wp2
          go_ret
          exact ⟨rfl, new_refl _⟩
      · clear hd hDn hE
        go_enter Tryd.func8, Tryd.ntmps8
        go_wp2
        go_ret
        exact ⟨rfl, new_refl _⟩
    · clear hd hDn hE
      go_enter Tryd.func8, Tryd.ntmps8
      go_wp2
      go_ret
      exact ⟨rfl, new_refl _⟩
  · clear hd hDn hE
    go_enter Tryd.func8, Tryd.ntmps8
    go_wp2
    go_ret
    exact ⟨rfl, new_refl _⟩

end Go.Proofs.YtnmdjhkeekhfbaaDoor
