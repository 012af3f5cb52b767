/-
  laws.FnOffsetBefore returns true, whatever the arguments.
-/
import Derived.Test.YtnmdjhkeekhfbaaDoorOffBase
namespace Go.Proofs.YtnmdjhkeekhfbaaDoor
open Go.RowKit
set_option linter.unusedVariables false
set_option maxRecDepth 100000


set_option maxHeartbeats 1000000 in
theorem fnOffsetBefore_false {w : World} {base off : Int} {bs : List Int} {DA : Option Addr} {dc : Nat} {E : Nat → Addr} (hd : Sl w 1 DA bs.length (bs.map (Value.int .u8))) (hDn : DA = none → dc = 0) (hE : Env w.heap.size E w) (hb0 : 0 ≤ base) (hb1 : base ≤ 1099511627776) (ho1 : off < 0) (ho2 : -1099511627776 ≤ off) (hl : bs.length ≤ 65536) :
    Calls Tryd.prog 6 #[.int .i64 base, .slice DA bs.length dc, .int .i64 off, .bool false] w fun e w' => e = .returned (.bool true) ∧ New w w' := by
  have hrun : runG base 1125899906842624 [⟨0, bs, 0, 0⟩, ⟨2, [], off, 0⟩] = ([⟨bs.length, 0⟩, ⟨0, 5⟩], base + bs.length, [⟨base, bs⟩]) := by
    have u1 : underG 1125899906842624 base bs.length = ⟨bs.length, 0⟩ := by unfold underG; rw [if_neg (by omega)]
    have u2 : seekG base (base + bs.length) (off + base) = (⟨0, 5⟩, base + bs.length, []) := by unfold seekG; rw [if_pos (by omega)]
    simp [runG, moveG, u1, u2]
  have hP : PlacesAt w [⟨0, bs, 0, 0⟩, ⟨2, [], off, 0⟩] [[.int .i64 0, .slice DA bs.length dc, .int .i64 0, .int .i64 0], [.int .i64 2, .slice none 0 0, .int .i64 (off), .int .i64 0]] :=
    PlacesAt.snoc (PlacesAt.snoc (PlacesAt.nil _) (PlaceAt.write 0 0 0 hd hDn)) (PlaceAt.seek _ 2 (off) 0)
  have HP := hide hP; have HE := hide hE; have HR := hide hrun
  clear hd hDn hP hE hrun
  have s1 : IntKind.i64.wrap (off - (bs.length : Int)) = off - (bs.length : Int) := IntWalk.i64_in _ (by omega)
  have HBN := new_alloc w (.cells #[.int .i64 2, .slice none 0 0, .int .i64 off, .int .i64 0] 28)
  go_enter Tryd.func6, Tryd.ntmps6
  go_wp2_with fail
  refine (offCall (ps := [⟨0, bs, 0, 0⟩, ⟨2, [], off, 0⟩]) (Placed.lit' (w.heap.size + 1) _ _ 2 rfl (by omega) HP.out (by simp) ?hB ?hH) ?hN HE.out (by simp) ?hf (by omega) (by omega) hb0 (by omega)).mono ?_
  case hB => exact HBN.size
  case hH => simp
  case hN => exact new_al HBN _
  case hf =>
    intro p hp
    simp only [List.mem_cons, List.not_mem_nil, or_false] at hp
    rcases hp with rfl | rfl
    · exact ⟨hl, .inr (.inr (by simp))⟩
    · exact ⟨by simp, .inr (.inr (by simp only; omega))⟩
  rintro e w2 ⟨MA, mc, CA, cc, css, rfl, hran, hn⟩
  rw [HR.out] at hran ⊢
  have hN2 := hide (new_trans (new_al HBN _) hn)
  obtain ⟨g, c, e1, hc1, hc2, hg, hm⟩ := hran.mrow (by simp)
  cases e1
  obtain ⟨x0, x1⟩ := hm 0 _ rfl
  obtain ⟨y0, y1⟩ := hm 1 _ rfl
  clear hm hran hn
  go_wp2
  go_ret
  exact ⟨rfl, hN2.out⟩


set_option maxHeartbeats 1000000 in
theorem fnOffsetBefore_true {w : World} {base off : Int} {bs : List Int} {DA : Option Addr} {dc : Nat} {E : Nat → Addr} (hd : Sl w 1 DA bs.length (bs.map (Value.int .u8))) (hDn : DA = none → dc = 0) (hE : Env w.heap.size E w) (hb0 : 0 ≤ base) (hb1 : base ≤ 1099511627776) (ho1 : off < 0) (ho2 : -1099511627776 ≤ off) (hl : bs.length ≤ 65536) :
    Calls Tryd.prog 6 #[.int .i64 base, .slice DA bs.length dc, .int .i64 off, .bool true] w fun e w' => e = .returned (.bool true) ∧ New w w' := by
  have hrun : runG base 1125899906842624 [⟨0, bs, 0, 0⟩, ⟨2, [], off - (bs.length : Int), 1⟩] = ([⟨bs.length, 0⟩, ⟨0, 5⟩], base + bs.length, [⟨base, bs⟩]) := by
    have u1 : underG 1125899906842624 base bs.length = ⟨bs.length, 0⟩ := by unfold underG; rw [if_neg (by omega)]
    have u2 : seekG base (base + bs.length) (off - (bs.length : Int) + (base + bs.length)) = (⟨0, 5⟩, base + bs.length, []) := by unfold seekG; rw [if_pos (by omega)]
    simp [runG, moveG, u1, u2]
  have hP : PlacesAt w [⟨0, bs, 0, 0⟩, ⟨2, [], off - (bs.length : Int), 1⟩] [[.int .i64 0, .slice DA bs.length dc, .int .i64 0, .int .i64 0], [.int .i64 2, .slice none 0 0, .int .i64 (off - (bs.length : Int)), .int .i64 1]] :=
    PlacesAt.snoc (PlacesAt.snoc (PlacesAt.nil _) (PlaceAt.write 0 0 0 hd hDn)) (PlaceAt.seek _ 2 (off - (bs.length : Int)) 1)
  have HP := hide hP; have HE := hide hE; have HR := hide hrun
  clear hd hDn hP hE hrun
  have s1 : IntKind.i64.wrap (off - (bs.length : Int)) = off - (bs.length : Int) := IntWalk.i64_in _ (by omega)
  have HBN := new_alloc w (.cells #[.int .i64 2, .slice none 0 0, .int .i64 (off - (bs.length : Int)), .int .i64 1] 28)
  go_enter Tryd.func6, Tryd.ntmps6
  go_wp2_with fail
  refine (offCall (ps := [⟨0, bs, 0, 0⟩, ⟨2, [], off - (bs.length : Int), 1⟩]) (Placed.lit' (w.heap.size + 1) _ _ 2 rfl (by omega) HP.out (by simp) ?hB ?hH) ?hN HE.out (by simp) ?hf (by omega) (by omega) hb0 (by omega)).mono ?_
  case hB => exact HBN.size
  case hH => simp
  case hN => exact new_al HBN _
  case hf =>
    intro p hp
    simp only [List.mem_cons, List.not_mem_nil, or_false] at hp
    rcases hp with rfl | rfl
    · exact ⟨hl, .inr (.inr (by simp))⟩
    · exact ⟨by simp, .inr (.inr (by simp only; omega))⟩
  rintro e w2 ⟨MA, mc, CA, cc, css, rfl, hran, hn⟩
  rw [HR.out] at hran ⊢
  have hN2 := hide (new_trans (new_al HBN _) hn)
  obtain ⟨g, c, e1, hc1, hc2, hg, hm⟩ := hran.mrow (by simp)
  cases e1
  obtain ⟨x0, x1⟩ := hm 0 _ rfl
  obtain ⟨y0, y1⟩ := hm 1 _ rfl
  clear hm hran hn
  go_wp2
  go_ret
  exact ⟨rfl, hN2.out⟩

theorem fnOffsetBefore_walk {w : World} {base off : Int} {bs : List Int} {cur : Bool} {DA : Option Addr} {dc : Nat} {E : Nat → Addr} (hd : Sl w 1 DA bs.length (bs.map (Value.int .u8))) (hDn : DA = none → dc = 0) (hE : Env w.heap.size E w) :
    Calls Tryd.prog 6 #[.int .i64 base, .slice DA bs.length dc, .int .i64 off, .bool cur] w fun e w' => e = .returned (.bool true) ∧ New w w' := by
  by_cases c0 : 0 ≤ base
  · by_cases c1 : base ≤ 1099511627776
    · by_cases c2 : off < 0
      · by_cases c3 : -1099511627776 ≤ off
        · by_cases c4 : bs.length ≤ 65536
          · cases cur with | false => exact fnOffsetBefore_false hd hDn hE c0 c1 c2 c3 c4 | true => exact fnOffsetBefore_true hd hDn hE c0 c1 c2 c3 c4
          · clear hd hDn hE
            go_enter Tryd.func6, Tryd.ntmps6
            go_wp2
            go_ret
            exact ⟨rfl, new_refl _⟩
        · clear hd hDn hE
          go_enter Tryd.func6, Tryd.ntmps6
          go_wp2
          go_ret
          exact ⟨rfl, new_refl _⟩
      · clear hd hDn hE
        go_enter Tryd.func6, Tryd.ntmps6
        go_wp2
        go_ret
        exact ⟨rfl, new_refl _⟩
    · clear hd hDn hE
      go_enter Tryd.func6, Tryd.ntmps6
      go_wp2
      go_ret
      exact ⟨rfl, new_refl _⟩
  · clear hd hDn hE
    go_enter Tryd.func6, Tryd.ntmps6
    go_wp2
    go_ret
    exact ⟨rfl, new_refl _⟩

end Go.Proofs.YtnmdjhkeekhfbaaDoor
