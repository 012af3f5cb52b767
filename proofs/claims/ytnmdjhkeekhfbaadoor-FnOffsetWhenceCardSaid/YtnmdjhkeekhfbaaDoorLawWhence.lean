/-
  laws.FnOffsetWhence returns true, whatever the arguments.
-/
import Derived.Test.YtnmdjhkeekhfbaaDoorOffBase
namespace Go.Proofs.YtnmdjhkeekhfbaaDoor
open Go.RowKit
set_option linter.unusedVariables false
set_option maxRecDepth 100000


theorem under_all (limit off : Int) (size : Nat) (h : off + (size : Int) ≤ limit) : underG limit off size = ⟨size, 0⟩ := by unfold underG; rw [if_neg (by omega)]

theorem fnOffsetWhence_in {w : World} {base off wh : Int} {bs : List Int} {DA : Option Addr} {dc : Nat} {E : Nat → Addr} (hd : Sl w 1 DA bs.length (bs.map (Value.int .u8))) (hDn : DA = none → dc = 0) (hE : Env w.heap.size E w) (hb0 : 0 ≤ base) (hb1 : base ≤ 1099511627776) (hw0 : wh ≠ 0) (hw1 : wh ≠ 1) (hl : bs.length ≤ 65536) :
    Calls Tryd.prog 12 #[.int .i64 base, .slice DA bs.length dc, .int .i64 off, .int .i64 wh] w fun e w' => e = .returned (.bool true) ∧ New w w' := by
  have hrun : runG base 1125899906842624 [⟨0, bs, 0, 0⟩, ⟨2, [], off, wh⟩, ⟨0, bs, 0, 0⟩] = ([⟨bs.length, 0⟩, ⟨0, 5⟩, ⟨bs.length, 0⟩], base + bs.length + bs.length, [⟨base, bs⟩, ⟨base + bs.length, bs⟩]) := by
    have u1 := under_all 1125899906842624 base bs.length (by omega)
    have u2 := under_all 1125899906842624 (base + bs.length) bs.length (by omega)
    simp [runG, moveG, hw0, hw1, u1, u2]
  have hP : PlacesAt w [⟨0, bs, 0, 0⟩, ⟨2, [], off, wh⟩, ⟨0, bs, 0, 0⟩] [[.int .i64 0, .slice DA bs.length dc, .int .i64 0, .int .i64 0], [.int .i64 2, .slice none 0 0, .int .i64 off, .int .i64 wh], [.int .i64 0, .slice DA bs.length dc, .int .i64 0, .int .i64 0]] :=
    PlacesAt.snoc (PlacesAt.snoc (PlacesAt.snoc (PlacesAt.nil _) (PlaceAt.write 0 0 0 hd hDn)) (PlaceAt.seek _ 2 off wh)) (PlaceAt.write 0 0 0 hd hDn)
  have HP := hide hP; have HE := hide hE; have HR := hide hrun
  have g0 : (wh == 0) = false := by simp; exact hw0
  have g1 : (wh == 1) = false := by simp; exact hw1
  have HW0 := hide hw0; have HW1 := hide hw1
  clear hd hDn hP hE hrun hw0 hw1
  go_enter Tryd.func12, Tryd.ntmps12
  go_wp2_with fail
  refine (offCall (ps := [⟨0, bs, 0, 0⟩, ⟨2, [], off, wh⟩, ⟨0, bs, 0, 0⟩]) (Placed.lit _ _ 3 rfl (by omega) HP.out (by simp) (Nat.le_refl _)) (new_alloc _ _) HE.out (by simp) ?hf (by omega) (by omega) hb0 (by omega)).mono ?_
  case hf =>
    intro p hp
    simp only [List.mem_cons, List.not_mem_nil, or_false] at hp
    rcases hp with rfl | rfl | rfl
    · exact ⟨hl, .inr (.inr (by simp))⟩
    · exact ⟨by simp, .inr (.inl ⟨by simp, by simp, HW0.out, HW1.out⟩)⟩
    · exact ⟨hl, .inr (.inr (by simp))⟩
  rintro e w2 ⟨MA, mc, CA, cc, css, rfl, hran, hn⟩
  rw [HR.out] at hran ⊢
  have hN2 := hide (new_trans (new_alloc _ _) hn)
  obtain ⟨g, c, e1, hc1, hc2, hg, hm⟩ := hran.mrow (by simp)
  cases e1
  obtain ⟨x0, x1⟩ := hm 1 _ rfl
  obtain ⟨g', c', e1, hc1', hc2', hg', hm'⟩ := hran.crow (by simp)
  cases e1
  obtain ⟨A, d, y0, y1, -⟩ := hm' 1 _ rfl
  clear hm hran hn hm'
  go_wp2
  go_ret
  exact ⟨rfl, hN2.out⟩

theorem fnOffsetWhence_walk {w : World} {base off wh : Int} {bs : List Int} {DA : Option Addr} {dc : Nat} {E : Nat → Addr} (hd : Sl w 1 DA bs.length (bs.map (Value.int .u8))) (hDn : DA = none → dc = 0) (hE : Env w.heap.size E w) :
    Calls Tryd.prog 12 #[.int .i64 base, .slice DA bs.length dc, .int .i64 off, .int .i64 wh] w fun e w' => e = .returned (.bool true) ∧ New w w' := by
  by_cases c0 : 0 ≤ base
  · by_cases c1 : base ≤ 1099511627776
    · by_cases c2 : ¬ wh = 0
      · by_cases c3 : ¬ wh = 1
        · by_cases c4 : bs.length ≤ 65536
          · exact fnOffsetWhence_in hd hDn hE c0 c1 c2 c3 c4
          · clear hd hDn hE
            go_enter Tryd.func12, Tryd.ntmps12
            go_wp2
            go_ret
            exact ⟨rfl, new_refl _⟩
        · clear hd hDn hE
          go_enter Tryd.func12, Tryd.ntmps12
          go_wp2
          go_ret
          exact ⟨rfl, new_refl _⟩
      · clear hd hDn hE
        go_enter Tryd.func12, Tryd.ntmps12
        go_wp2
        go_ret
        exact ⟨rfl, new_refl _⟩
    · clear hd hDn hE
      go_enter Tryd.func12, Tryd.ntmps12
      go_wp2
      go_ret
      exact ⟨rfl, new_refl _⟩
  · clear hd hDn hE
    go_enter Tryd.func12, Tryd.ntmps12
    go_wp2
    go_ret
    exact ⟨rfl, new_refl _⟩

end Go.Proofs.YtnmdjhkeekhfbaaDoor
