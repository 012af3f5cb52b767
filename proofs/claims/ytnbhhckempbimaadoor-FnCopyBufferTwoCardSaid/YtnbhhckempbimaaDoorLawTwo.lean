/-
  laws.FnCopyBufferTwo returns true, whatever the arguments.
-/
import Derived.Test.YtnbhhckempbimaaDoorLawCopy
namespace Go.Proofs.YtnbhhckempbimaaDoor
open Go.RowKit
set_option linter.unusedVariables false
set_option maxRecDepth 100000

set_option maxHeartbeats 4000000 in
theorem fnCopyBufferTwo_in {w : World} {s s2 : Src} {DA PA OA : Option Addr} {dc pc oc m m2 : Nat} {room : Int} {quiet : Bool} {E : Nat → Addr} (hd : Sl w 1 DA s.data.length (s.data.map (Value.int .u8))) (hDn : DA = none → dc = 0)
    (hp : Sl w 1 PA s.pieces.length (s.pieces.map (Value.int .i64))) (hPn : PA = none → pc = 0) (ho : Sl w 1 OA s2.pieces.length (s2.pieces.map (Value.int .i64))) (hOn : OA = none → oc = 0)
    (hdir : s.direct = false) (hdir2 : s2.direct = false) (hsd : s2.data = s.data) (hst : s2.together = !s.together) (hsb : s2.broken = s.broken) (hr1 : -9223372036854775808 ≤ room) (hr2 : room ≤ 9223372036854775807)
    (hdl : s.data.length ≤ 65536) (hpl : s.pieces.length ≤ 4096) (hol : s2.pieces.length ≤ 4096) (hm0 : 0 < m) (hm : m ≤ 65536) (hn0 : 0 < m2) (hn : m2 ≤ 65536) (hE : Env w.heap.size E w) :
    Calls Tryd.prog 12 #[.slice DA s.data.length dc, .slice PA s.pieces.length pc, .bool s.together, .bool s.broken, .slice OA s2.pieces.length oc, .int .i64 room, .bool quiet, .int .i64 (m : Int), .int .i64 (m2 : Int)] w fun e w' => e = .returned (.bool true) ∧ New w w' := by
  have HSRC : Hid (∀ W, Sl W 1 DA s.data.length (s.data.map (Value.int .u8)) → Sl W 1 PA s.pieces.length (s.pieces.map (Value.int .i64)) → Calls Tryd.prog 15 #[.slice DA s.data.length dc, .slice PA s.pieces.length pc, .bool s.together, .bool s.broken, .bool false] W (SourcePost s W)) := by
    intro W h1 h2
    have := source_any (s := s) (dc := dc) h1 hDn h2 hPn (by omega) (by omega)
    rwa [hdir] at this
  have HSRC2 : Hid (∀ W, Sl W 1 DA s.data.length (s.data.map (Value.int .u8)) → Sl W 1 OA s2.pieces.length (s2.pieces.map (Value.int .i64)) → Calls Tryd.prog 15 #[.slice DA s.data.length dc, .slice OA s2.pieces.length oc, .bool (!s.together), .bool s.broken, .bool false] W (SourcePost s2 W)) := by
    intro W h1 h2
    have := source_any (s := s2) (dc := dc) (by rw [hsd]; exact h1) hDn h2 hOn (by rw [hsd]; omega) (by omega)
    rwa [hsd, hst, hsb, hdir2] at this
  have hdl2 : s2.data.length ≤ 65536 := by rw [hsd]; exact hdl
  have HR0 : Hid (roadOf s.direct false = 0) := by show roadOf s.direct false = 0; rw [hdir]; rfl
  have HR2 : Hid (roadOf s2.direct false = 0) := by show roadOf s2.direct false = 0; rw [hdir2]; rfl
  have HMM : Hid (s2.most room = s.most room) := by show s2.most room = s.most room; unfold Src.most; rw [hsd]
  have HCC : Hid (s2.copyCode room quiet = s.copyCode room quiet) := by show s2.copyCode room quiet = s.copyCode room quiet; unfold Src.copyCode; rw [hsd, hsb]
  have HSD := hide hsd
  have HD := hide hd; have HP := hide hp; have HO := hide ho; have HE := hide hE
  clear hd hp ho hDn hPn hOn hE hdir hdir2 hsd hst hsb
  have hmk : ∀ W : World, (Instr.makeSlice 22 (.int .i64 (m : Int)) (.int .i64 (m : Int))).run Tryd.prog W = .ok (.slice (some ⟨W.heap.size, 0, none⟩) m m) (W.alloc (.cells (zeros m).toArray 5)) := fun W => run_make_bytes 22 5 Tryd.underlying22 info5 m (by omega) W
  have hmk2 : ∀ W : World, (Instr.makeSlice 22 (.int .i64 (m2 : Int)) (.int .i64 (m2 : Int))).run Tryd.prog W = .ok (.slice (some ⟨W.heap.size, 0, none⟩) m2 m2) (W.alloc (.cells (zeros m2).toArray 5)) := fun W => run_make_bytes 22 5 Tryd.underlying22 info5 m2 (by omega) W
  have hm1 : ¬ ((m : Int) < 1) := by omega
  have hm2 : ¬ ((65536 : Int) < (m : Int)) := by omega
  have hm3 : ¬ ((m2 : Int) < 1) := by omega
  have hm4 : ¬ ((65536 : Int) < (m2 : Int)) := by omega
  have hnotT : ∀ (x : Bool) (w : World), (Op.unary .not (.bool x)).run Tryd.prog w = .ok (.bool (!x)) w := fun _ _ => rfl
  have hml := mostLe s room
  go_enter Tryd.func12, Tryd.ntmps12
  go_wp2_with fail
  go_cut [19] (fun v wx => ∃ k, v = .pointer (some ⟨k, 0, none⟩) ∧ Hid (OutAt w s room quiet false m k wx))
  case first =>
    have tokS : True := trivial
    have tokC : True := trivial
    go_region_held3 (fun _ => True) (trivial)
      (first
        | (have _t := tokS; go_at_call 15; refine (HSRC.out _ (by exact HD.out.new (by repeat (with_reducible first | exact new_refl _ | apply new_al | apply new_dr | apply new_drN))) (by exact HP.out.new (by repeat (with_reducible first | exact new_refl _ | apply new_al | apply new_dr | apply new_drN)))).mono ?_; rintro e wS ⟨dv, pv, rfl, hdv, hpv, mS⟩; have nS0 : Hid (New w wS) := hide (new_trans (by repeat (with_reducible first | exact new_refl _ | apply new_al | apply new_dr | apply new_drN)) mS); have nS := hide mS; (first | (have hKS := At.new (t := 25) (cs := zero8) (by repeat (with_reducible first | exact At.made _ _ _ | apply At.laid | apply At.drew | apply At.drawn)) mS; (try simp only [World.size_alloc] at hKS); have HKS := hide hKS; clear hKS) | skip); obtain ⟨A1, k1, rfl, hn1, hs1⟩ := Sl.of_own hdv; obtain ⟨A2, k2, rfl, hn2, hs2⟩ := Sl.of_own hpv; have HS1 := hide hs1; have HS2 := hide hs2; have HK1 := hide hn1; have HK2 := hide hn2; clear hdv hpv mS hs1 hs2 hn1 hn2 tokS)
        | (have _t := tokC; go_at_call 14; refine (impl_z (s := s) (E := E) (by exact HS1.out.new (by repeat (with_reducible first | exact new_refl _ | apply new_al | apply new_dr | apply new_drN))) HK1.out (by exact HS2.out.new (by repeat (with_reducible first | exact new_refl _ | apply new_al | apply new_dr | apply new_drN))) HK2.out (by repeat (with_reducible first | exact At.made' (by simp) _ _ | refine At.new ?_ nS.out | apply At.laid | apply At.drew | apply At.drawn)) (by exact HE.out.of_new (by repeat (with_reducible first | exact nS0.out | apply new_al | apply new_dr | apply new_drN))) hm0 hm hr1 hr2 hdl hpl).mono ?_; rintro e wC ⟨GA, gc, BA, bc, AA, ac, VA, vc, asked, writes, rfl, hF, mC⟩; have HF := hide hF; have nC := hide mC; clear hF tokC; first | (have hKC := At.new (t := 25) (cs := zero8) (by repeat (with_reducible first | exact HKS.out | exact At.made _ _ _ | apply At.laid | apply At.drew | apply At.drawn)) mC; (try simp only [World.size_alloc] at hKC); have t0 := hKC.get 0; have t1 := hKC.get 1; have t2 := hKC.get 2; have t3 := hKC.get 3; have t4 := hKC.get 4; have t5 := hKC.get 5; have t6 := hKC.get 6; have t7 := hKC.get 7; have f0 := hKC.soft 0; have f1 := hKC.soft 1; have f2 := hKC.soft 2; have f3 := hKC.soft 3; have f4 := hKC.soft 4; have f5 := hKC.soft 5; have f6 := hKC.soft 6; have f7 := hKC.soft 7; have HKC := hide hKC; clear hKC mC) | clear mC))
    all_goals
      go_wp2_with fail
      go_meet
      case rel =>
        have hz1 := Below.size nS0.out
        have hz2 := Below.size nS.out
        have hz3 := Below.size nC.out
        simp only [World.size_alloc, World.drew] at hz2 hz3
        refine ⟨_, rfl, hide ?_⟩
        first
          | (have _h := HKC; skip)
          | exact out_alloc nC.out HF.out (by repeat (with_reducible first | exact nS0.out | apply new_al | apply new_dr | apply new_drN))
        all_goals
          refine out_store HKC.out nC.out HF.out (by repeat (with_reducible first | exact nS0.out | apply new_al | apply new_dr | apply new_drN)) ?_ ?_
          · omega
          · first | omega | (simp; omega) | (simp; done)
  case rest =>
    obtain ⟨k, rfl, hO⟩ := hcut
    obtain ⟨GA, gc, BA, bc, AA, ac, VA, vc, asked, writes, hK, hgs, has, hws, hT, hkk, hN4, hcap⟩ := hO.out
    have hap := hT.2.1 (by rw [HR0.out]; decide)
    have HK := hide hK; have HGS := hide hgs; have HN4 := hide hN4
    have HDc := hide (HD.out.new hN4); have HOc := hide (HO.out.new hN4); have HEc := hide (HE.out.of_new hN4)
    clear hO hmk hK hgs has hws hT hN4 hcap HSRC HD HP HO HE
    go_wp2_with fail
    go_cut [20] (fun v wx => ∃ k, v = .pointer (some ⟨k, 0, none⟩) ∧ Hid (OutAt wc s2 room quiet false m2 k wx))
    case first =>
      have tokS : True := trivial
      have tokC : True := trivial
      go_region_held3 (fun _ => True) (trivial)
        (first
          | (have _t := tokS; go_at_call 15; refine (HSRC2.out _ (by exact HDc.out.new (by repeat (with_reducible first | exact new_refl _ | apply new_al | apply new_dr | apply new_drN))) (by exact HOc.out.new (by repeat (with_reducible first | exact new_refl _ | apply new_al | apply new_dr | apply new_drN)))).mono ?_; rintro e wS ⟨dv, pv, rfl, hdv, hpv, mS⟩; have nS0 : Hid (New wc wS) := hide (new_trans (by repeat (with_reducible first | exact new_refl _ | apply new_al | apply new_dr | apply new_drN)) mS); have nS := hide mS; (first | (have hKS := At.new (t := 25) (cs := zero8) (by repeat (with_reducible first | exact At.made _ _ _ | apply At.laid | apply At.drew | apply At.drawn)) mS; (try simp only [World.size_alloc] at hKS); have HKS := hide hKS; clear hKS) | skip); obtain ⟨A1, k1, rfl, hn1, hs1⟩ := Sl.of_own hdv; obtain ⟨A2, k2, rfl, hn2, hs2⟩ := Sl.of_own hpv; have HS1 := hide hs1; have HS2 := hide hs2; have HK1 := hide hn1; have HK2 := hide hn2; clear hdv hpv mS hs1 hs2 hn1 hn2 tokS)
          | (have _t := tokC; go_at_call 14; refine (impl_z (s := s2) (E := E) (by exact HS1.out.new (by repeat (with_reducible first | exact new_refl _ | apply new_al | apply new_dr | apply new_drN))) HK1.out (by exact HS2.out.new (by repeat (with_reducible first | exact new_refl _ | apply new_al | apply new_dr | apply new_drN))) HK2.out (by repeat (with_reducible first | exact At.made' (by simp) _ _ | refine At.new ?_ nS.out | apply At.laid | apply At.drew | apply At.drawn)) (by exact HEc.out.of_new (by repeat (with_reducible first | exact nS0.out | apply new_al | apply new_dr | apply new_drN))) hn0 hn hr1 hr2 hdl2 hol).mono ?_; rintro e wC ⟨GA, gc, BA, bc, AA, ac, VA, vc, asked, writes, rfl, hF, mC⟩; have HF := hide hF; have nC := hide mC; clear hF tokC; first | (have hKC := At.new (t := 25) (cs := zero8) (by repeat (with_reducible first | exact HKS.out | exact At.made _ _ _ | apply At.laid | apply At.drew | apply At.drawn)) mC; (try simp only [World.size_alloc] at hKC); have t0 := hKC.get 0; have t1 := hKC.get 1; have t2 := hKC.get 2; have t3 := hKC.get 3; have t4 := hKC.get 4; have t5 := hKC.get 5; have t6 := hKC.get 6; have t7 := hKC.get 7; have f0 := hKC.soft 0; have f1 := hKC.soft 1; have f2 := hKC.soft 2; have f3 := hKC.soft 3; have f4 := hKC.soft 4; have f5 := hKC.soft 5; have f6 := hKC.soft 6; have f7 := hKC.soft 7; have HKC := hide hKC; clear hKC mC) | clear mC))
      all_goals
        go_wp2_with fail
        go_meet
        case rel =>
          have hz1 := Below.size nS0.out
          have hz2 := Below.size nS.out
          have hz3 := Below.size nC.out
          simp only [World.size_alloc, World.drew] at hz2 hz3
          refine ⟨_, rfl, hide ?_⟩
          first
            | (have _h := HKC; skip)
            | exact out_alloc nC.out HF.out (by repeat (with_reducible first | exact nS0.out | apply new_al | apply new_dr | apply new_drN))
          all_goals
            refine out_store HKC.out nC.out HF.out (by repeat (with_reducible first | exact nS0.out | apply new_al | apply new_dr | apply new_drN)) ?_ ?_
            · omega
            · first | omega | (simp; omega) | (simp; done)
    case rest =>
      obtain ⟨k2, rfl, hO⟩ := hcut
      obtain ⟨GB, gd, BB, bd, AB, ad, VB, vd, asked2, writes2, hK2, hgs2, has2, hws2, hT2, hkk2, hN5, hcap2⟩ := hO.out
      have hap2 := hT2.2.1 (by rw [HR2.out]; decide)
      rw [HMM.out, HCC.out] at hK2
      rw [HMM.out, HSD.out] at hgs2
      have hK5 := HK.out.new hN5
      have HG1 := hide (HGS.out.new hN5); have HG2 := hide hgs2
      have HN6 := hide (new_trans HN4.out hN5)
      have x0 := hK5.get 0
      have x1 := hK5.get 1
      have x2 := hK5.get 2
      have x4 := hK5.get 4
      have y0 := hK2.get 0
      have y1 := hK2.get 1
      have y2 := hK2.get 2
      have y4 := hK2.get 4
      have hapi : (0 : Int) < (asked.length : Int) := by omega
      have hapi2 : (0 : Int) < (asked2.length : Int) := by omega
      clear hO hmk2 hK2 hgs2 has2 hws2 hT2 hN5 hcap2 hK5 HK HGS HN4 HSRC2 HDc HOc HEc HMM HCC HSD HR0 HR2
      have hlen : ((s.data.take (s.most room)).length) = s.most room := by rw [List.length_take]; exact Nat.min_eq_left hml
      generalize hmm : s.most room = mm at *
      generalize s.copyCode room quiet = code at *
      generalize s.data.take mm = zs at *
      generalize asked.length = an at *
      generalize asked2.length = bn at *
      have HL := hide hlen
      clear hlen hmm
      go_wp2_with fail
      refine (sameBytes_eq HL.out HG1.out HG2.out (by omega)).mono ?_
      rintro e w6 ⟨rfl, q, rfl⟩
      go_wp2
      go_ret
      exact ⟨rfl, new_drN HN6.out _⟩

theorem fnCopyBufferTwo_walk {w : World} {s s2 : Src} {DA PA OA : Option Addr} {dc pc oc : Nat} {room z z2 : Int} {quiet : Bool} {E : Nat → Addr} (hd : Sl w 1 DA s.data.length (s.data.map (Value.int .u8))) (hDn : DA = none → dc = 0)
    (hp : Sl w 1 PA s.pieces.length (s.pieces.map (Value.int .i64))) (hPn : PA = none → pc = 0) (ho : Sl w 1 OA s2.pieces.length (s2.pieces.map (Value.int .i64))) (hOn : OA = none → oc = 0)
    (hdir : s.direct = false) (hdir2 : s2.direct = false) (hsd : s2.data = s.data) (hst : s2.together = !s.together) (hsb : s2.broken = s.broken) (hr : -9223372036854775808 ≤ room ∧ room ≤ 9223372036854775807) (hE : Env w.heap.size E w) :
    Calls Tryd.prog 12 #[.slice DA s.data.length dc, .slice PA s.pieces.length pc, .bool s.together, .bool s.broken, .slice OA s2.pieces.length oc, .int .i64 room, .bool quiet, .int .i64 z, .int .i64 z2] w fun e w' => e = .returned (.bool true) ∧ New w w' := by
  by_cases c1 : s.data.length ≤ 65536
  · by_cases c2 : s.pieces.length ≤ 4096
    · by_cases c3 : 1 ≤ z
      · by_cases c4 : z ≤ 65536
        · by_cases c5 : 1 ≤ z2
          · by_cases c6 : z2 ≤ 65536
            · by_cases c7 : s2.pieces.length ≤ 4096
              · obtain ⟨m, rfl⟩ := Int.eq_ofNat_of_zero_le (show 0 ≤ z by omega)
                obtain ⟨m2, rfl⟩ := Int.eq_ofNat_of_zero_le (show 0 ≤ z2 by omega)
                exact fnCopyBufferTwo_in hd hDn hp hPn ho hOn hdir hdir2 hsd hst hsb hr.1 hr.2 c1 c2 c7 (by omega) (by omega) (by omega) (by omega) hE
              · have c3' : ¬ (z < 1) := by omega
                have c5' : ¬ (z2 < 1) := by omega
                clear hd hDn hp hPn ho hOn hE hdir hdir2 hsd hst hsb
                go_enter Tryd.func12, Tryd.ntmps12
                go_wp2
                go_ret
                exact ⟨rfl, new_refl _⟩
            · have c3' : ¬ (z < 1) := by omega
              have c5' : ¬ (z2 < 1) := by omega
              clear hd hDn hp hPn ho hOn hE hdir hdir2 hsd hst hsb
              go_enter Tryd.func12, Tryd.ntmps12
              go_wp2
              go_ret
              exact ⟨rfl, new_refl _⟩
          · have c3' : ¬ (z < 1) := by omega
            have c5' : z2 < 1 := by omega
            clear hd hDn hp hPn ho hOn hE hdir hdir2 hsd hst hsb
            go_enter Tryd.func12, Tryd.ntmps12
            go_wp2
            go_ret
            exact ⟨rfl, new_refl _⟩
        · have c3' : ¬ (z < 1) := by omega
          clear hd hDn hp hPn ho hOn hE hdir hdir2 hsd hst hsb
          go_enter Tryd.func12, Tryd.ntmps12
          go_wp2
          go_ret
          exact ⟨rfl, new_refl _⟩
      · have c3' : z < 1 := by omega
        clear hd hDn hp hPn ho hOn hE hdir hdir2 hsd hst hsb
        go_enter Tryd.func12, Tryd.ntmps12
        go_wp2
        go_ret
        exact ⟨rfl, new_refl _⟩
    · clear hd hDn hp hPn ho hOn hE hdir hdir2 hsd hst hsb
      go_enter Tryd.func12, Tryd.ntmps12
      go_wp2
      go_ret
      exact ⟨rfl, new_refl _⟩
  · clear hd hDn hp hPn ho hOn hE hdir hdir2 hsd hst hsb
    go_enter Tryd.func12, Tryd.ntmps12
    go_wp2
    go_ret
    exact ⟨rfl, new_refl _⟩

end Go.Proofs.YtnbhhckempbimaaDoor
