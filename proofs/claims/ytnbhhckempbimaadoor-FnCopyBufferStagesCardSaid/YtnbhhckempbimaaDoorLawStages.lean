/-
  laws.FnCopyBufferStages returns true, whatever the arguments.
-/
import Derived.Test.YtnbhhckempbimaaDoorLawCopy
namespace Go.Proofs.YtnbhhckempbimaaDoor
open Go.RowKit
set_option linter.unusedVariables false
set_option maxRecDepth 100000

set_option maxHeartbeats 2000000 in
theorem fnCopyBufferStages_in {w : World} {s : Src} {DA PA : Option Addr} {dc pc m : Nat} {room: Int} {quiet : Bool} {E : Nat → Addr} (hd : Sl w 1 DA s.data.length (s.data.map (Value.int .u8))) (hDn : DA = none → dc = 0) (hdc : s.data.length ≤ dc) (hdm : dc ≤ 9223372036854775807)
    (hp : Sl w 1 PA s.pieces.length (s.pieces.map (Value.int .i64))) (hPn : PA = none → pc = 0) (hdir : s.direct = false) (hr1 : -9223372036854775808 ≤ room) (hr2 : room ≤ 9223372036854775807)
    (hdl : s.data.length ≤ 65536) (hpl : s.pieces.length ≤ 4096) (hm0 : 0 < m) (hm : m ≤ 65536) (hE : Env w.heap.size E w) :
    Calls Tryd.prog 11 #[.slice DA s.data.length dc, .slice PA s.pieces.length pc, .bool s.together, .bool s.broken, .int .i64 room, .bool quiet, .int .i64 (m : Int)] w fun e w' => e = .returned (.bool true) ∧ New w w' := by
  have HSRC : Hid (∀ W, Sl W 1 DA s.data.length (s.data.map (Value.int .u8)) → Sl W 1 PA s.pieces.length (s.pieces.map (Value.int .i64)) → Calls Tryd.prog 15 #[.slice DA s.data.length dc, .slice PA s.pieces.length pc, .bool s.together, .bool s.broken, .bool false] W (SourcePost s W)) := by
    intro W h1 h2
    have := source_any (s := s) h1 hDn h2 hPn (by omega) (by omega)
    rwa [hdir] at this
  have HDIR := hide hdir
  clear hdir
  have HD := hide hd; have HP := hide hp; have HDN := hide hDn; have HPN := hide hPn; have HE := hide hE
  clear hd hp hDn hPn hE
  have hmk : ∀ W : World, (Instr.makeSlice 22 (.int .i64 (m : Int)) (.int .i64 (m : Int))).run Tryd.prog W = .ok (.slice (some ⟨W.heap.size, 0, none⟩) m m) (W.alloc (.cells (zeros m).toArray 5)) := fun W => run_make_bytes 22 5 Tryd.underlying22 info5 m (by omega) W
  have hm1 : ¬ ((m : Int) < 1) := by omega
  have hm2 : ¬ ((65536 : Int) < (m : Int)) := by omega
  go_enter Tryd.func11, Tryd.ntmps11
  go_wp2_with fail
  go_cut [15] (fun v wx => ∃ k, v = .pointer (some ⟨k, 0, none⟩) ∧ Hid (OutAt w s room quiet false m k wx))
  case first =>
    have tokS : True := trivial
    have tokC : True := trivial
    go_region_held3 (fun _ => True) (trivial)
      (first
        | (have _t := tokS; go_at_call 15; refine (HSRC.out _ (by exact HD.out.new (by repeat (with_reducible first | exact new_refl _ | apply new_al | apply new_dr | apply new_drN))) (by exact HP.out.new (by repeat (with_reducible first | exact new_refl _ | apply new_al | apply new_dr | apply new_drN)))).mono ?_; rintro e wS ⟨dv, pv, rfl, hdv, hpv, mS⟩; have nS0 : Hid (New w wS) := hide (new_trans (by repeat (with_reducible first | exact new_refl _ | apply new_al | apply new_dr | apply new_drN)) mS); have nS := hide mS; (first | (have hKS := At.new (t := 25) (cs := zero8) (by repeat (with_reducible first | exact At.made _ _ _ | apply At.laid | apply At.drew | apply At.drawn)) mS; (try simp only [World.size_alloc] at hKS); have HKS := hide hKS; clear hKS) | skip); obtain ⟨A1, k1, rfl, hn1, hs1⟩ := Sl.of_own hdv; obtain ⟨A2, k2, rfl, hn2, hs2⟩ := Sl.of_own hpv; have HS1 := hide hs1; have HS2 := hide hs2; have HK1 := hide hn1; have HK2 := hide hn2; clear hdv hpv mS hs1 hs2 hn1 hn2 tokS)
        | (have _t := tokC; go_at_call 14; refine (impl_z (s := s) (E := E) (by exact HS1.out.new (by repeat (with_reducible first | exact new_refl _ | apply new_al | apply new_dr | apply new_drN))) HK1.out (by exact HS2.out.new (by repeat (with_reducible first | exact new_refl _ | apply new_al | apply new_dr | apply new_drN))) HK2.out (by repeat (with_reducible first | exact At.made' (by simp) _ _ | refine At.new ?_ nS.out | apply At.laid | apply At.drew | apply At.drawn)) (by exact HE.out.of_new (by repeat (with_reducible first | exact nS0.out | apply new_al | apply new_dr | apply new_drN))) hm0 hm hr1 hr2 hdl hpl).mono ?_; rintro e wC ⟨GA, gc, BA, bc, AA, ac, VA, vc, asked, writes, rfl, hF, mC⟩; have HF := hide hF; have nC := hide mC; clear hF tokC; first | (have hKC := At.new (t := 25) (cs := zero8) (by repeat (with_reducible first | exact HKS.out | exact At.made _ _ _ | apply At.laid | apply At.drew | apply At.drawn)) mC; (try simp only [World.size_alloc] at hKC); have t0 := hKC.get 0; have t1 := hKC.get 1; have t2 := hKC.get 2; have t3 := hKC.get 3; have t4 := hKC.get 4; have t5 := hKC.get 5; have t6 := hKC.get 6; have t7 := hKC.get 7; have f0 := hKC.soft 0; have f1 := hKC.soft 1; have f2 := hKC.soft 2; have f3 := hKC.soft 3; have f4 := hKC.soft 4; have f5 := hKC.soft 5; have f6 := hKC.soft 6; have f7 := hKC.soft 7; have HKC := hide hKC; clear hKC mC) | clear mC))
    all_goals
      go_wp2_with fail
      go_meet
      case rel =>
        have hz1 := Below.size nS0.out
        have hz2 := Below.size nS.out
        have hz3 := Below.size nC.out
        simp only [World.size_alloc, World.drew] at hz2 hz3
        refine ⟨_, rfl, hide ?_⟩
        first
          | (have _h := HKC; skip)
          | exact out_alloc nC.out HF.out (by repeat (with_reducible first | exact nS0.out | apply new_al | apply new_dr | apply new_drN))
        all_goals
          refine out_store HKC.out nC.out HF.out (by repeat (with_reducible first | exact nS0.out | apply new_al | apply new_dr | apply new_drN)) ?_ ?_
          · omega
          · first | omega | (simp; omega) | (simp; done)
  case rest =>
    obtain ⟨k, rfl, hO⟩ := hcut
    obtain ⟨GA, gc, BA, bc, AA, ac, VA, vc, asked, writes, hK, hgs, has, hws, hT, hkk, hN4, hcap⟩ := hO.out
    have hnotT : ∀ (x : Bool) (w : World), (Op.unary .not (.bool x)).run Tryd.prog w = .ok (.bool (!x)) w := fun _ _ => rfl
    have hml := mostLe s room
    clear hO hmk
    obtain ⟨T1, T2, T3, T4, T5⟩ := hT
    have hr0 : roadOf s.direct false = 0 := by rw [HDIR.out]; rfl
    obtain ⟨KK, _, _, hask, _⟩ := T5 hr0
    have x4 := hK.get 4
    have HN4 := hide hN4; have HAS := hide has; have HASK := hide hask
    have hpos := T2 (by rw [hr0]; decide)
    clear hK hgs has hws hN4 hcap T1 T2 T4 T5 hask hr0 hml
    have hposi : (0 : Int) < (asked.length : Int) := by omega
    obtain ⟨ad, rfl, hab, hcell⟩ := HAS.out.2 hpos
    have hall : ∀ j, j < asked.length → wc.cell? (ad.add j) = some (.int .i64 (m : Int)) := fun j hj => by
      refine hcell j _ ?_
      have e : asked[j]? = some (m : Int) := by
        rw [HASK.out] at hj ⊢
        rw [List.length_replicate] at hj
        rw [List.getElem?_replicate, if_pos hj]
      rw [List.getElem?_map, e]; rfl
    have HALL := hide hall
    clear hcell hall HASK
    generalize asked.length = an at *
    go_wp2_with fail
    go_loop [45] (fun i => ∃ j : Nat, j ≤ an ∧ i = .int .i64 j) (fun i => an - (intOf i).toNat)
    case atStart => exact ⟨0, Nat.zero_le _, rfl⟩
    case round =>
      obtain ⟨j, hj, rfl⟩ := hrel
      by_cases hlt : j < an
      · have hcz := HALL.out j hlt
        have hji : (j : Int) < (an : Int) := by omega
        have hm3 : ¬ ((m : Int) < (m : Int)) := by omega
        go_wp2
        go_round
        case rel => exact ⟨j + 1, by omega, by go_num⟩
        case measure => simp [intOf]; omega
      · have hge : ¬ ((j : Int) < (an : Int)) := by omega
        go_wp2
        go_ret
        exact ⟨rfl, HN4.out⟩

theorem fnCopyBufferStages_walk {w : World} {s : Src} {DA PA : Option Addr} {dc pc : Nat} {room z : Int} {quiet : Bool} {E : Nat → Addr} (hd : Sl w 1 DA s.data.length (s.data.map (Value.int .u8))) (hDn : DA = none → dc = 0) (hdc : s.data.length ≤ dc) (hdm : dc ≤ 9223372036854775807)
    (hp : Sl w 1 PA s.pieces.length (s.pieces.map (Value.int .i64))) (hPn : PA = none → pc = 0) (hdir : s.direct = false) (hr : -9223372036854775808 ≤ room ∧ room ≤ 9223372036854775807) (hE : Env w.heap.size E w) :
    Calls Tryd.prog 11 #[.slice DA s.data.length dc, .slice PA s.pieces.length pc, .bool s.together, .bool s.broken, .int .i64 room, .bool quiet, .int .i64 z] w fun e w' => e = .returned (.bool true) ∧ New w w' := by
  by_cases c1 : s.data.length ≤ 65536
  · by_cases c2 : s.pieces.length ≤ 4096
    · by_cases c3 : 1 ≤ z
      · by_cases c4 : z ≤ 65536
        · obtain ⟨m, rfl⟩ := Int.eq_ofNat_of_zero_le (show 0 ≤ z by omega)
          exact fnCopyBufferStages_in hd hDn hdc hdm hp hPn hdir hr.1 hr.2 c1 c2 (by omega) (by omega) hE
        · clear hd hDn hp hPn hE hdir
          have c3' : ¬ (z < 1) := by omega
          go_enter Tryd.func11, Tryd.ntmps11
          go_wp2
          go_ret
          exact ⟨rfl, new_refl _⟩
      · clear hd hDn hp hPn hE hdir
        have c3' : z < 1 := by omega
        go_enter Tryd.func11, Tryd.ntmps11
        go_wp2
        go_ret
        exact ⟨rfl, new_refl _⟩
    · clear hd hDn hp hPn hE hdir
      go_enter Tryd.func11, Tryd.ntmps11
      go_wp2
      go_ret
      exact ⟨rfl, new_refl _⟩
  · clear hd hDn hp hPn hE hdir
    go_enter Tryd.func11, Tryd.ntmps11
    go_wp2
    go_ret
    exact ⟨rfl, new_refl _⟩

end Go.Proofs.YtnbhhckempbimaaDoor
