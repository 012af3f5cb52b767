/-
  laws.FnOffsetRoads returns true, whatever the arguments.
-/
import Derived.Test.YtnmdjhkeekhfbaaDoorOffEq
namespace Go.Proofs.YtnmdjhkeekhfbaaDoor
open Go.RowKit
set_option linter.unusedVariables false
set_option maxRecDepth 100000

set_option maxHeartbeats 1000000 in
theorem fnOffsetRoads_in {w : World} {base limit off : Int} {bs : List Int} {DA : Option Addr} {dc : Nat} {E : Nat → Addr} (hd : Sl w 1 DA bs.length (bs.map (Value.int .u8))) (hDn : DA = none → dc = 0) (hE : Env w.heap.size E w) (hb0 : 0 ≤ base) (hb1 : base ≤ 1099511627776) (ho0 : 0 ≤ off) (ho1 : off ≤ 1099511627776) (hl : bs.length ≤ 65536) (hm0 : 0 ≤ limit) (hm1 : limit ≤ 1125899906842624) :
    Calls Tryd.prog 9 #[.int .i64 base, .int .i64 limit, .int .i64 off, .slice DA bs.length dc] w fun e w' => e = .returned (.bool true) ∧ New w w' := by
  have hrun : runG base limit [⟨2, [], off, 0⟩, ⟨0, bs, 0, 0⟩] = ([⟨off, 0⟩, underG limit (off + base) bs.length], off + base + (underG limit (off + base) bs.length).n, [⟨off + base, bs⟩]) := by
    have u2 : seekG base base (off + base) = (⟨off, 0⟩, off + base, []) := by unfold seekG; rw [if_neg (by omega)]; simp
    simp [runG, moveG, u2]
  have hrun2 : runG base limit [⟨1, bs, off, 0⟩] = ([underG limit (off + base) bs.length], base, [⟨off + base, bs⟩]) := by
    have : ¬ off < 0 := by omega
    simp [runG, moveG, this]
  have hP : PlacesAt w [⟨2, [], off, 0⟩, ⟨0, bs, 0, 0⟩] [[.int .i64 2, .slice none 0 0, .int .i64 off, .int .i64 0], [.int .i64 0, .slice DA bs.length dc, .int .i64 0, .int .i64 0]] :=
    PlacesAt.snoc (PlacesAt.snoc (PlacesAt.nil _) (PlaceAt.seek _ 2 off 0)) (PlaceAt.write 0 0 0 hd hDn)
  have hP2 : PlacesAt w [⟨1, bs, off, 0⟩] [[.int .i64 1, .slice DA bs.length dc, .int .i64 off, .int .i64 0]] := PlacesAt.snoc (PlacesAt.nil _) (PlaceAt.write 1 off 0 hd hDn)
  have HP := hide hP; have HP2 := hide hP2; have HE := hide hE; have HR := hide hrun; have HR2 := hide hrun2
  clear hd hDn hP hE hrun hP2 hrun2
  go_enter Tryd.func9, Tryd.ntmps9
  go_wp2_with fail
  refine (offCall (ps := [⟨2, [], off, 0⟩, ⟨0, bs, 0, 0⟩]) (Placed.lit _ _ 2 rfl (by omega) HP.out (by simp) (Nat.le_refl _)) (new_alloc _ _) HE.out (by simp) ?hf (by omega) (by omega) hb0 (by omega)).mono ?_
  case hf =>
    intro p hp
    simp only [List.mem_cons, List.not_mem_nil, or_false] at hp
    rcases hp with rfl | rfl
    · exact ⟨by simp, .inr (.inr (by simp only; omega))⟩
    · exact ⟨hl, .inr (.inr (by simp))⟩
  rintro e w2 ⟨MA, mc, CA, cc, css, rfl, hran, hn⟩
  rw [HR.out] at hran ⊢
  have HN2 := hide (new_trans (new_alloc _ _) hn)
  have HRAN := hide hran
  clear hran hn HR
  go_wp2_with fail
  refine (offCall (ps := [⟨1, bs, off, 0⟩]) (Placed.lit (wr := w2) _ _ 1 rfl (by omega) HP2.out (by simp) HN2.out.size) (new_al HN2.out _) HE.out (by simp) ?hf (by omega) (by omega) hb0 (by omega)).mono ?_
  case hf =>
    intro p hp
    rw [List.mem_singleton.1 hp]
    exact ⟨hl, .inr (.inr (by simp only; omega))⟩
  rintro e w3 ⟨MA', mc', CA', cc', css', rfl, hran', hn'⟩
  rw [HR2.out] at hran' ⊢
  have hran := HRAN.out.new (new_trans (new_alloc _ _) hn')
  have HN3 := hide (new_trans (new_al HN2.out _) hn')
  generalize underG limit (off + base) bs.length = r at *
  obtain ⟨g, c, e1, hc1, hc2, hg, hm⟩ := hran.mrow (by simp)
  cases e1
  obtain ⟨x0, x1⟩ := hm 1 _ rfl
  obtain ⟨g1, c1, e1, hc11, hc12, hg1, hm1⟩ := hran'.mrow (by simp)
  cases e1
  obtain ⟨y0, y1⟩ := hm1 0 _ rfl
  obtain ⟨g2, c2, e1, hc21, hc22, hg2, hm2⟩ := hran.crow (by simp)
  cases e1
  obtain ⟨A, d, z0, z1, hsA⟩ := hm2 0 _ rfl
  obtain ⟨g3, c3, e1, hc31, hc32, hg3, hm3⟩ := hran'.crow (by simp)
  cases e1
  obtain ⟨A', d', u0, u1, hsB⟩ := hm3 0 _ rfl
  have HSA := hide hsA; have HSB := hide hsB
  have q1 := eqMoved
  have q2 := guardMoved
  clear hm hm1 hm2 hm3 hran hran' hn' HRAN hsA hsB
  go_wp2_with fail
  go_quiet (first | (go_at_call 15; refine Calls.quiet_of (sameBytes_eq rfl (by exact HSA.out.drawn _) (by exact HSB.out.drawn _) (by omega))))
  rename Nat => q9
  go_wp2
  go_ret
  exact ⟨rfl, new_drN HN3.out _⟩

theorem fnOffsetRoads_walk {w : World} {base limit off : Int} {bs : List Int} {DA : Option Addr} {dc : Nat} {E : Nat → Addr} (hd : Sl w 1 DA bs.length (bs.map (Value.int .u8))) (hDn : DA = none → dc = 0) (hE : Env w.heap.size E w) :
    Calls Tryd.prog 9 #[.int .i64 base, .int .i64 limit, .int .i64 off, .slice DA bs.length dc] w fun e w' => e = .returned (.bool true) ∧ New w w' := by
  by_cases c0 : 0 ≤ base
  · by_cases c1 : base ≤ 1099511627776
    · by_cases c2 : 0 ≤ off
      · by_cases c3 : off ≤ 1099511627776
        · by_cases c4 : bs.length ≤ 65536
          · by_cases c5 : 0 ≤ limit
            · by_cases c6 : limit ≤ 1125899906842624
              · exact fnOffsetRoads_in hd hDn hE c0 c1 c2 c3 c4 c5 c6
              · clear hd hDn hE
                go_enter Tryd.func9, Tryd.ntmps9
                go_wp2
                go_ret
                exact ⟨rfl, new_refl _⟩
            · clear hd hDn hE
              go_enter Tryd.func9, Tryd.ntmps9
              go_wp2
              go_ret
              exact ⟨rfl, new_refl _⟩
          · clear hd hDn hE
            go_enter Tryd.func9, Tryd.ntmps9
            go_wp2
            go_ret
            exact ⟨rfl, new_refl _⟩
        · clear hd hDn hE
          go_enter Tryd.func9, Tryd.ntmps9
          go_wp2
          go_ret
          exact ⟨rfl, new_refl _⟩
      · clear hd hDn hE
        go_enter Tryd.func9, Tryd.ntmps9
        go_wp2
        go_ret
        exact ⟨rfl, new_refl _⟩
    · clear hd hDn hE
      go_enter Tryd.func9, Tryd.ntmps9
      go_wp2
      go_ret
      exact ⟨rfl, new_refl _⟩
  · clear hd hDn hE
    go_enter Tryd.func9, Tryd.ntmps9
    go_wp2
    go_ret
    exact ⟨rfl, new_refl _⟩

end Go.Proofs.YtnmdjhkeekhfbaaDoor
