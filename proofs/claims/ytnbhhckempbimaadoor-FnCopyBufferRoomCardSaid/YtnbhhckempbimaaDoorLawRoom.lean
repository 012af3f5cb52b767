/-
  laws.FnCopyBufferRoom returns true, whatever the arguments.
-/
import Derived.Test.YtnbhhckempbimaaDoorLawCopy
namespace Go.Proofs.YtnbhhckempbimaaDoor
open Go.RowKit
set_option linter.unusedVariables false
set_option maxRecDepth 100000

theorem copyCode_mono (s : Src) (room more : Int) (h0 : 0 ≤ room) (h3 : 0 ≤ more) : s.copyCode room false = 0 → s.copyCode (room + more) false = 0 := by
  intro h
  have h1 : room.toNat ≤ (room + more).toNat := by omega
  by_cases h2 : s.data.length ≤ room.toNat
  · have e : s.copyCode (room + more) false = s.copyCode room false := by unfold Src.copyCode; rw [if_pos h2, if_pos (Nat.le_trans h2 h1)]
    rw [e]; exact h
  · unfold Src.copyCode at h; rw [if_neg h2] at h; simp at h

set_option maxHeartbeats 4000000 in
theorem fnCopyBufferRoom_in {w : World} {s : Src} {DA PA : Option Addr} {dc pc m : Nat} {room more : Int} {taking : Bool} {E : Nat → Addr} (hd : Sl w 1 DA s.data.length (s.data.map (Value.int .u8))) (hDn : DA = none → dc = 0)
    (hp : Sl w 1 PA s.pieces.length (s.pieces.map (Value.int .i64))) (hPn : PA = none → pc = 0) (hrm0 : 0 ≤ room) (hrm1 : room ≤ 1048576) (hmo0 : 0 ≤ more) (hmo1 : more ≤ 1048576)
    (hdl : s.data.length ≤ 65536) (hpl : s.pieces.length ≤ 4096) (hm0 : 0 < m) (hm : m ≤ 65536) (hE : Env w.heap.size E w) :
    Calls Tryd.prog 10 #[.slice DA s.data.length dc, .slice PA s.pieces.length pc, .bool s.together, .bool s.broken, .bool s.direct, .bool taking, .int .i64 room, .int .i64 more, .int .i64 (m : Int)] w fun e w' => e = .returned (.bool true) ∧ New w w' := by
  have hr1 : -9223372036854775808 ≤ room := by omega
  have hr2 : room ≤ 9223372036854775807 := by omega
  have hs1 : -9223372036854775808 ≤ room + more := by omega
  have hs2 : room + more ≤ 9223372036854775807 := by omega
  have HD := hide hd; have HP := hide hp; have HDN := hide hDn; have HPN := hide hPn; have HE := hide hE
  clear hd hp hDn hPn hE
  have hmk : ∀ W : World, (Instr.makeSlice 22 (.int .i64 (m : Int)) (.int .i64 (m : Int))).run Tryd.prog W = .ok (.slice (some ⟨W.heap.size, 0, none⟩) m m) (W.alloc (.cells (zeros m).toArray 5)) := fun W => run_make_bytes 22 5 Tryd.underlying22 info5 m (by omega) W
  have hm1 : ¬ ((m : Int) < 1) := by omega
  have hm2 : ¬ ((65536 : Int) < (m : Int)) := by omega
  have hq1 : ¬ (room < 0) := by omega
  have hq2 : ¬ (more < 0) := by omega
  have hq3 : ¬ (1048576 < room) := by omega
  have hq4 : ¬ (1048576 < more) := by omega
  go_enter Tryd.func10, Tryd.ntmps10
  go_wp2_with fail
  go_cut [19] (fun v wx => ∃ k, v = .pointer (some ⟨k, 0, none⟩) ∧ Hid (OutAt w s room false taking m k wx))
  case first =>
    have tokS : True := trivial
    have tokC : True := trivial
    go_region_held3 (fun _ => True) (trivial)
      (first
        | (have _t := tokS; go_at_call 15; refine (source_any (s := s) (by exact HD.out.new (by repeat (with_reducible first | exact new_refl _ | apply new_al | apply new_dr | apply new_drN))) HDN.out (by exact HP.out.new (by repeat (with_reducible first | exact new_refl _ | apply new_al | apply new_dr | apply new_drN))) HPN.out (by omega) (by omega)).mono ?_; rintro e wS ⟨dv, pv, rfl, hdv, hpv, mS⟩; have nS0 : Hid (New w wS) := hide (new_trans (by repeat (with_reducible first | exact new_refl _ | apply new_al | apply new_dr | apply new_drN)) mS); have nS := hide mS; (first | (have hKS := At.new (t := 25) (cs := zero8) (by repeat (with_reducible first | exact At.made _ _ _ | apply At.laid | apply At.drew | apply At.drawn)) mS; (try simp only [World.size_alloc] at hKS); have HKS := hide hKS; clear hKS) | skip); obtain ⟨A1, k1, rfl, hn1, hs1⟩ := Sl.of_own hdv; obtain ⟨A2, k2, rfl, hn2, hs2⟩ := Sl.of_own hpv; have HS1 := hide hs1; have HS2 := hide hs2; have HK1 := hide hn1; have HK2 := hide hn2; clear hdv hpv mS hs1 hs2 hn1 hn2 tokS)
        | (have _t := tokC; go_at_call 14; refine (impl_z (s := s) (E := E) (by exact HS1.out.new (by repeat (with_reducible first | exact new_refl _ | apply new_al | apply new_dr | apply new_drN))) HK1.out (by exact HS2.out.new (by repeat (with_reducible first | exact new_refl _ | apply new_al | apply new_dr | apply new_drN))) HK2.out (by repeat (with_reducible first | exact At.made' (by simp) _ _ | refine At.new ?_ nS.out | apply At.laid | apply At.drew | apply At.drawn)) (by exact HE.out.of_new (by repeat (with_reducible first | exact nS0.out | apply new_al | apply new_dr | apply new_drN))) hm0 hm hr1 hr2 hdl hpl).mono ?_; rintro e wC ⟨GA, gc, BA, bc, AA, ac, VA, vc, asked, writes, rfl, hF, mC⟩; have HF := hide hF; have nC := hide mC; clear hF tokC; first | (have hKC := At.new (t := 25) (cs := zero8) (by repeat (with_reducible first | exact HKS.out | exact At.made _ _ _ | apply At.laid | apply At.drew | apply At.drawn)) mC; (try simp only [World.size_alloc] at hKC); have t0 := hKC.get 0; have t1 := hKC.get 1; have t2 := hKC.get 2; have t3 := hKC.get 3; have t4 := hKC.get 4; have t5 := hKC.get 5; have t6 := hKC.get 6; have t7 := hKC.get 7; have f0 := hKC.soft 0; have f1 := hKC.soft 1; have f2 := hKC.soft 2; have f3 := hKC.soft 3; have f4 := hKC.soft 4; have f5 := hKC.soft 5; have f6 := hKC.soft 6; have f7 := hKC.soft 7; have HKC := hide hKC; clear hKC mC) | clear mC))
    all_goals
      go_wp2_with fail
      go_meet
      case rel =>
        have hz1 := Below.size nS0.out
        have hz2 := Below.size nS.out
        have hz3 := Below.size nC.out
        simp only [World.size_alloc, World.drew] at hz2 hz3
        refine ⟨_, rfl, hide ?_⟩
        first
          | (have _h := HKC; skip)
          | exact out_alloc nC.out HF.out (by repeat (with_reducible first | exact nS0.out | apply new_al | apply new_dr | apply new_drN))
        all_goals
          refine out_store HKC.out nC.out HF.out (by repeat (with_reducible first | exact nS0.out | apply new_al | apply new_dr | apply new_drN)) ?_ ?_
          · omega
          · first | omega | (simp; omega) | (simp; done)
  case rest =>
    obtain ⟨k, rfl, hO⟩ := hcut
    obtain ⟨GA, gc, BA, bc, AA, ac, VA, vc, asked, writes, hK, hgs, has, hws, hT, hkk, hN4, hcap⟩ := hO.out
    have HK := hide hK; have HGS := hide hgs; have HN4 := hide hN4
    have HDc := hide (HD.out.new hN4); have HPc := hide (HP.out.new hN4); have HEc := hide (HE.out.of_new hN4)
    clear hO hK hgs has hws hT hN4 hcap HD HP HE
    have hwr : IntKind.i64.wrap (room + more) = room + more := IntWalk.i64_in _ (by omega)
    go_wp2_with fail
    go_cut [20] (fun v wx => ∃ k, v = .pointer (some ⟨k, 0, none⟩) ∧ Hid (OutAt wc s (room + more) false taking m k wx))
    case first =>
      have tokS : True := trivial
      have tokC : True := trivial
      go_region_held3 (fun _ => True) (trivial)
        (first
          | (have _t := tokS; go_at_call 15; refine (source_any (s := s) (by exact HDc.out.new (by repeat (with_reducible first | exact new_refl _ | apply new_al | apply new_dr | apply new_drN))) HDN.out (by exact HPc.out.new (by repeat (with_reducible first | exact new_refl _ | apply new_al | apply new_dr | apply new_drN))) HPN.out (by omega) (by omega)).mono ?_; rintro e wS ⟨dv, pv, rfl, hdv, hpv, mS⟩; have nS0 : Hid (New wc wS) := hide (new_trans (by repeat (with_reducible first | exact new_refl _ | apply new_al | apply new_dr | apply new_drN)) mS); have nS := hide mS; (first | (have hKS := At.new (t := 25) (cs := zero8) (by repeat (with_reducible first | exact At.made _ _ _ | apply At.laid | apply At.drew | apply At.drawn)) mS; (try simp only [World.size_alloc] at hKS); have HKS := hide hKS; clear hKS) | skip); obtain ⟨A1, k1, rfl, hn1, hs1⟩ := Sl.of_own hdv; obtain ⟨A2, k2, rfl, hn2, hs2⟩ := Sl.of_own hpv; have HS1 := hide hs1; have HS2 := hide hs2; have HK1 := hide hn1; have HK2 := hide hn2; clear hdv hpv mS hs1 hs2 hn1 hn2 tokS)
          | (have _t := tokC; go_at_call 14; refine (impl_z (s := s) (E := E) (by exact HS1.out.new (by repeat (with_reducible first | exact new_refl _ | apply new_al | apply new_dr | apply new_drN))) HK1.out (by exact HS2.out.new (by repeat (with_reducible first | exact new_refl _ | apply new_al | apply new_dr | apply new_drN))) HK2.out (by repeat (with_reducible first | exact At.made' (by simp) _ _ | refine At.new ?_ nS.out | apply At.laid | apply At.drew | apply At.drawn)) (by exact HEc.out.of_new (by repeat (with_reducible first | exact nS0.out | apply new_al | apply new_dr | apply new_drN))) hm0 hm hs1 hs2 hdl hpl).mono ?_; rintro e wC ⟨GA, gc, BA, bc, AA, ac, VA, vc, asked, writes, rfl, hF, mC⟩; have HF := hide hF; have nC := hide mC; clear hF tokC; first | (have hKC := At.new (t := 25) (cs := zero8) (by repeat (with_reducible first | exact HKS.out | exact At.made _ _ _ | apply At.laid | apply At.drew | apply At.drawn)) mC; (try simp only [World.size_alloc] at hKC); have t0 := hKC.get 0; have t1 := hKC.get 1; have t2 := hKC.get 2; have t3 := hKC.get 3; have t4 := hKC.get 4; have t5 := hKC.get 5; have t6 := hKC.get 6; have t7 := hKC.get 7; have f0 := hKC.soft 0; have f1 := hKC.soft 1; have f2 := hKC.soft 2; have f3 := hKC.soft 3; have f4 := hKC.soft 4; have f5 := hKC.soft 5; have f6 := hKC.soft 6; have f7 := hKC.soft 7; have HKC := hide hKC; clear hKC mC) | clear mC))
      all_goals
        go_wp2_with fail
        go_meet
        case rel =>
          have hz1 := Below.size nS0.out
          have hz2 := Below.size nS.out
          have hz3 := Below.size nC.out
          simp only [World.size_alloc, World.drew] at hz2 hz3
          refine ⟨_, rfl, hide ?_⟩
          first
            | (have _h := HKC; skip)
            | exact out_alloc nC.out HF.out (by repeat (with_reducible first | exact nS0.out | apply new_al | apply new_dr | apply new_drN))
          all_goals
            refine out_store HKC.out nC.out HF.out (by repeat (with_reducible first | exact nS0.out | apply new_al | apply new_dr | apply new_drN)) ?_ ?_
            · omega
            · first | omega | (simp; omega) | (simp; done)
    case rest =>
      obtain ⟨k2, rfl, hO⟩ := hcut
      obtain ⟨GB, gd, BB, bd, AB, ad, VB, vd, asked2, writes2, hK2, hgs2, has2, hws2, hT2, hkk2, hN5, hcap2⟩ := hO.out
      have hK5 := HK.out.new hN5
      have HN6 := hide (new_trans HN4.out hN5)
      have hmm : s.most room ≤ s.most (room + more) := by
        unfold Src.most
        have h1 : room.toNat ≤ (room + more).toNat := by omega
        simp only [Nat.min_def]
        split <;> split <;> omega
      have hm2l := mostLe s (room + more)
      have hlen : ((s.data.take (s.most room)).length) = s.most room := by rw [List.length_take]; exact Nat.min_eq_left (mostLe s room)
      have hcode := copyCode_mono s room more hrm0 hmo0
      have HG1 := hide (HGS.out.new hN5)
      have HG2 : Hid (Sl wc 1 GB (s.most room) ((s.data.take (s.most room)).map (Value.int .u8))) := by
        refine ⟨by rw [List.length_map, hlen, Nat.mul_one], fun h0 => ?_⟩
        obtain ⟨ad', e, hb, hc⟩ := hgs2.2 (by omega)
        refine ⟨ad', e, hb, fun j u hu => hc j u ?_⟩
        rw [List.getElem?_map, List.getElem?_take] at hu
        rw [List.getElem?_map, List.getElem?_take]
        split at hu
        · rename_i hj
          rw [if_pos (by omega)]; exact hu
        · cases hu
      have x0 := hK5.get 0
      have x1 := hK5.get 1
      have x2 := hK5.get 2
      have y0 := hK2.get 0
      have y1 := hK2.get 1
      have y2 := hK2.get 2
      have y3 := hK2.get 3
      have HC := hide hcode
      obtain ⟨hg1, hg2⟩ := hcap2
      clear hO hmk hK2 hgs2 has2 hws2 hT2 hN5 hK5 HK HGS HN4 HDc HPc HEc hcode hwr
      generalize s.most room = mm at *
      generalize s.most (room + more) = mn at *
      generalize s.data.take mm = zs at *
      generalize s.copyCode room false = code at *
      generalize s.copyCode (room + more) false = code2 at *
      have HL := hide hlen
      clear hlen
      have i1 : (mm : Int) ≤ (mn : Int) := by omega
      have i2 : ((mm : Int) == (mm : Int)) = true := by simp
      have i3 : ((mn : Int) == (mn : Int)) = true := by simp
      have i4 : (0 : Int) ≤ (mm : Int) := by omega
      have i5 : (mm : Int) ≤ (gd : Int) := by omega
      have i6 : ((m : Int) == (m : Int)) = true := by simp
      by_cases hc0 : code = 0
      · have hc2 := HC.out hc0
        subst hc0
        subst hc2
        go_wp2_with fail
        go_quiet (first | (go_at_call 17; refine Calls.quiet_of (sameBytes_eq HL.out (by exact HG1.out.drawn _) (by exact HG2.out.drawn _) (by omega))))
        rename Nat => q1
        go_wp2
        go_ret
        exact ⟨rfl, new_drN HN6.out _⟩
      · have hc3 : ((code : Int) != 0) = true := by simp; omega
        go_wp2_with fail
        go_quiet (first | (go_at_call 17; refine Calls.quiet_of (sameBytes_eq HL.out (by exact HG1.out.drawn _) (by exact HG2.out.drawn _) (by omega))))
        rename Nat => q1
        go_wp2
        go_ret
        exact ⟨rfl, new_drN HN6.out _⟩

theorem fnCopyBufferRoom_walk {w : World} {s : Src} {DA PA : Option Addr} {dc pc : Nat} {room more z : Int} {taking : Bool} {E : Nat → Addr} (hd : Sl w 1 DA s.data.length (s.data.map (Value.int .u8))) (hDn : DA = none → dc = 0)
    (hp : Sl w 1 PA s.pieces.length (s.pieces.map (Value.int .i64))) (hPn : PA = none → pc = 0) (hE : Env w.heap.size E w) :
    Calls Tryd.prog 10 #[.slice DA s.data.length dc, .slice PA s.pieces.length pc, .bool s.together, .bool s.broken, .bool s.direct, .bool taking, .int .i64 room, .int .i64 more, .int .i64 z] w fun e w' => e = .returned (.bool true) ∧ New w w' := by
  by_cases c1 : s.data.length ≤ 65536
  · by_cases c2 : s.pieces.length ≤ 4096
    · by_cases c3 : z < 1
      · clear hd hDn hp hPn hE
        go_enter Tryd.func10, Tryd.ntmps10
        go_wp2
        go_ret
        exact ⟨rfl, new_refl _⟩
      · by_cases c4 : 65536 < z
        · clear hd hDn hp hPn hE
          go_enter Tryd.func10, Tryd.ntmps10
          go_wp2
          go_ret
          exact ⟨rfl, new_refl _⟩
        · by_cases c5 : room < 0
          · clear hd hDn hp hPn hE
            go_enter Tryd.func10, Tryd.ntmps10
            go_wp2
            go_ret
            exact ⟨rfl, new_refl _⟩
          · by_cases c6 : more < 0
            · clear hd hDn hp hPn hE
              go_enter Tryd.func10, Tryd.ntmps10
              go_wp2
              go_ret
              exact ⟨rfl, new_refl _⟩
            · by_cases c7 : 1048576 < room
              · clear hd hDn hp hPn hE
                go_enter Tryd.func10, Tryd.ntmps10
                go_wp2
                go_ret
                exact ⟨rfl, new_refl _⟩
              · by_cases c8 : 1048576 < more
                · clear hd hDn hp hPn hE
                  go_enter Tryd.func10, Tryd.ntmps10
                  go_wp2
                  go_ret
                  exact ⟨rfl, new_refl _⟩
                · obtain ⟨m, rfl⟩ := Int.eq_ofNat_of_zero_le (show 0 ≤ z by omega)
                  exact fnCopyBufferRoom_in hd hDn hp hPn (by omega) (by omega) (by omega) (by omega) c1 c2 (by omega) (by omega) hE
    · clear hd hDn hp hPn hE
      go_enter Tryd.func10, Tryd.ntmps10
      go_wp2
      go_ret
      exact ⟨rfl, new_refl _⟩
  · clear hd hDn hp hPn hE
    go_enter Tryd.func10, Tryd.ntmps10
    go_wp2
    go_ret
    exact ⟨rfl, new_refl _⟩

end Go.Proofs.YtnbhhckempbimaaDoor
