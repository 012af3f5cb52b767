/-
  laws.FnCopyBuffer returns true, whatever the arguments.
-/
import Derived.Test.YtnbhhckempbimaaDoorOut
namespace Go.Proofs.YtnbhhckempbimaaDoor
open Go.RowKit
set_option linter.unusedVariables false
set_option maxRecDepth 100000

theorem out_alloc {w W wC : World} {s : Src} {room : Int} {quiet taking : Bool} {m : Nat} {GA BA AA VA : Option Addr} {gc bc ac vc : Nat} {asked writes : List Int} (hC : New W wC) (hF : wC.ownsRow W.heap.size 5 1 (.slice GA (s.most room) gc) (s.most room) ((s.data.take (s.most room)).map (Value.int .u8)) ∧ wC.ownsRow W.heap.size 3 1 (.slice AA asked.length ac) asked.length (asked.map (Value.int .i64)) ∧
    wC.ownsRow W.heap.size 3 1 (.slice VA writes.length vc) writes.length (writes.map (Value.int .i64)) ∧ Told s room m (roadOf s.direct taking) asked writes) (hW : New w W) :
    OutAt w s room quiet taking m wC.heap.size (wC.alloc (.cells #[.int .i64 (s.most room : Nat), .int .i64 (s.copyCode room quiet : Nat), .slice GA (s.most room) gc, .slice BA m bc, .slice AA asked.length ac, .slice VA writes.length vc, .int .i64 (roadOf s.direct taking : Nat), .bool false] 25)) :=
  out_of hW hC hF.1 hF.2.1 hF.2.2.1 hF.2.2.2 (Turns.of_new (new_alloc _ _) _) (Nat.le_trans hW.size hC.size) (.inr (Nat.le_refl _)) (At.made _ _ _)

theorem out_store {w W wC : World} {s : Src} {room : Int} {quiet taking : Bool} {m k : Nat} {GA BA AA VA : Option Addr} {gc bc ac vc : Nat} {asked writes : List Int} (hK : At wC k 25 zero8) (hC : New W wC) (hF : wC.ownsRow W.heap.size 5 1 (.slice GA (s.most room) gc) (s.most room) ((s.data.take (s.most room)).map (Value.int .u8)) ∧ wC.ownsRow W.heap.size 3 1 (.slice AA asked.length ac) asked.length (asked.map (Value.int .i64)) ∧
    wC.ownsRow W.heap.size 3 1 (.slice VA writes.length vc) writes.length (writes.map (Value.int .i64)) ∧ Told s room m (roadOf s.direct taking) asked writes) (hW : New w W) (hk : w.heap.size ≤ k) (hkW : k < W.heap.size) :
    OutAt w s room quiet taking m k ((((((((wC.setCell ⟨k, 0, none⟩ (.int .i64 (s.most room : Nat))).setCell ⟨k, 1, none⟩ (.int .i64 (s.copyCode room quiet : Nat))).setCell ⟨k, 2, none⟩ (.slice GA (s.most room) gc)).setCell ⟨k, 3, none⟩ (.slice BA m bc)).setCell ⟨k, 4, none⟩ (.slice AA asked.length ac)).setCell ⟨k, 5, none⟩ (.slice VA writes.length vc)).setCell ⟨k, 6, none⟩ (.int .i64 (roadOf s.direct taking : Nat))).setCell ⟨k, 7, none⟩ (.bool false)) :=
  out_of hW hC hF.1 hF.2.1 hF.2.2.1 hF.2.2.2 (store8 hK).turns hk (.inl hkW) (store8 hK).at_

set_option maxHeartbeats 2000000 in
theorem fnCopyBuffer_in {w : World} {s : Src} {DA PA : Option Addr} {dc pc m : Nat} {room : Int} {quiet taking : Bool} {E : Nat → Addr} (hd : Sl w 1 DA s.data.length (s.data.map (Value.int .u8))) (hDn : DA = none → dc = 0) (hdc : s.data.length ≤ dc) (hdm : dc ≤ 9223372036854775807)
    (hp : Sl w 1 PA s.pieces.length (s.pieces.map (Value.int .i64))) (hPn : PA = none → pc = 0) (hr1 : -9223372036854775808 ≤ room) (hr2 : room ≤ 9223372036854775807)
    (hdl : s.data.length ≤ 65536) (hpl : s.pieces.length ≤ 4096) (hm0 : 0 < m) (hm : m ≤ 65536) (hE : Env w.heap.size E w) :
    Calls Tryd.prog 3 #[.slice DA s.data.length dc, .slice PA s.pieces.length pc, .bool s.together, .bool s.broken, .bool s.direct, .int .i64 room, .bool quiet, .bool taking, .int .i64 (m : Int)] w fun e w' => e = .returned (.bool true) ∧ New w w' := by
  have HD := hide hd; have HP := hide hp; have HDN := hide hDn; have HPN := hide hPn; have HE := hide hE
  clear hd hp hDn hPn hE
  have hmk : ∀ W : World, (Instr.makeSlice 22 (.int .i64 (m : Int)) (.int .i64 (m : Int))).run Tryd.prog W = .ok (.slice (some ⟨W.heap.size, 0, none⟩) m m) (W.alloc (.cells (zeros m).toArray 5)) := fun W => run_make_bytes 22 5 Tryd.underlying22 info5 m (by omega) W
  have hm1 : ¬ ((m : Int) < 1) := by omega
  have hm2 : ¬ ((65536 : Int) < (m : Int)) := by omega
  go_enter Tryd.func3, Tryd.ntmps3
  go_wp2_with fail
  go_cut [19] (fun v wx => ∃ k, v = .pointer (some ⟨k, 0, none⟩) ∧ Hid (OutAt w s room quiet taking m k wx))
  case first =>
    have tokS : True := trivial
    have tokC : True := trivial
    go_region_held3 (fun _ => True) (trivial)
      (first
        | (have _t := tokS; go_at_call 15; refine (source_any (s := s) (by exact HD.out.new (by repeat (with_reducible first | exact new_refl _ | apply new_al | apply new_dr | apply new_drN))) HDN.out (by exact HP.out.new (by repeat (with_reducible first | exact new_refl _ | apply new_al | apply new_dr | apply new_drN))) HPN.out (by omega) (by omega)).mono ?_; rintro e wS ⟨dv, pv, rfl, hdv, hpv, mS⟩; have nS0 : Hid (New w wS) := hide (new_trans (by repeat (with_reducible first | exact new_refl _ | apply new_al | apply new_dr | apply new_drN)) mS); have nS := hide mS; (first | (have hKS := At.new (t := 25) (cs := zero8) (by repeat (with_reducible first | exact At.made _ _ _ | apply At.laid | apply At.drew | apply At.drawn)) mS; (try simp only [World.size_alloc] at hKS); have HKS := hide hKS; clear hKS) | skip); obtain ⟨A1, k1, rfl, hn1, hs1⟩ := Sl.of_own hdv; obtain ⟨A2, k2, rfl, hn2, hs2⟩ := Sl.of_own hpv; have HS1 := hide hs1; have HS2 := hide hs2; have HK1 := hide hn1; have HK2 := hide hn2; clear hdv hpv mS hs1 hs2 hn1 hn2 tokS)
        | (have _t := tokC; go_at_call 14; refine (impl_z (s := s) (E := E) (by exact HS1.out.new (by repeat (with_reducible first | exact new_refl _ | apply new_al | apply new_dr | apply new_drN))) HK1.out (by exact HS2.out.new (by repeat (with_reducible first | exact new_refl _ | apply new_al | apply new_dr | apply new_drN))) HK2.out (by repeat (with_reducible first | exact At.made' (by simp) _ _ | refine At.new ?_ nS.out | apply At.laid | apply At.drew | apply At.drawn)) (by exact HE.out.of_new (by repeat (with_reducible first | exact nS0.out | apply new_al | apply new_dr | apply new_drN))) hm0 hm hr1 hr2 hdl hpl).mono ?_; rintro e wC ⟨GA, gc, BA, bc, AA, ac, VA, vc, asked, writes, rfl, hF, mC⟩; have HF := hide hF; have nC := hide mC; clear hF tokC; first | (have hKC := At.new (t := 25) (cs := zero8) (by repeat (with_reducible first | exact HKS.out | exact At.made _ _ _ | apply At.laid | apply At.drew | apply At.drawn)) mC; (try simp only [World.size_alloc] at hKC); have t0 := hKC.get 0; have t1 := hKC.get 1; have t2 := hKC.get 2; have t3 := hKC.get 3; have t4 := hKC.get 4; have t5 := hKC.get 5; have t6 := hKC.get 6; have t7 := hKC.get 7; have f0 := hKC.soft 0; have f1 := hKC.soft 1; have f2 := hKC.soft 2; have f3 := hKC.soft 3; have f4 := hKC.soft 4; have f5 := hKC.soft 5; have f6 := hKC.soft 6; have f7 := hKC.soft 7; have HKC := hide hKC; clear hKC mC) | clear mC))
    all_goals
      go_wp2_with fail
      go_meet
      case rel =>
        have hz1 := Below.size nS0.out
        have hz2 := Below.size nS.out
        have hz3 := Below.size nC.out
        simp only [World.size_alloc, World.drew] at hz2 hz3
        refine ⟨_, rfl, hide ?_⟩
        first
          | (have _h := HKC; skip)
          | exact out_alloc nC.out HF.out (by repeat (with_reducible first | exact nS0.out | apply new_al | apply new_dr | apply new_drN))
        all_goals
          refine out_store HKC.out nC.out HF.out (by repeat (with_reducible first | exact nS0.out | apply new_al | apply new_dr | apply new_drN)) ?_ ?_
          · omega
          · first | omega | (simp; omega) | (simp; done)
  case rest =>
    obtain ⟨k, rfl, hO⟩ := hcut
    obtain ⟨GA, gc, BA, bc, AA, ac, VA, vc, asked, writes, hK, hgs, has, hws, hT, hkk, hN4, hcap⟩ := hO.out
    have HK := hide hK; have HGS4 := hide hgs; have HN4 := hide hN4
    clear hO hK hgs has hws hT hN4 hcap hmk
    have hml := mostLe s room
    go_wp2_with fail
    refine (spec_any (s := s) (HD.out.new HN4.out) HDN.out hdc hdm (by omega) hr2).mono ?_
    rintro e w5 ⟨v, rfl, hv, hN5⟩
    obtain ⟨A5, k5, rfl, -, hs5⟩ := Sl.of_own hv
    have hK5 := HK.out.new hN5
    have HG5 := hide (HGS4.out.new hN5); have HS5 := hide hs5
    have HN6 := hide (new_trans HN4.out hN5)
    have x0 := hK5.get 0
    have x1 := hK5.get 1
    have x2 := hK5.get 2
    have x7 := hK5.get 7
    clear hv hN5 hs5 hK5 HK HGS4 HN4
    have hlen : ((s.data.take (s.most room)).length) = s.most room := by rw [List.length_take]; exact Nat.min_eq_left hml
    generalize hmm : s.most room = mm at *
    generalize s.copyCode room quiet = code at *
    generalize s.data.take mm = zs at *
    have hnotT : ∀ (x : Bool) (w : World), (Op.unary .not (.bool x)).run Tryd.prog w = .ok (.bool (!x)) w := fun _ _ => rfl
    have HL := hide hlen
    clear hlen hmm
    go_wp2_with fail
    refine (sameBytes_eq HL.out HG5.out HS5.out (by omega)).mono ?_
    rintro e w6 ⟨rfl, q, rfl⟩
    go_wp2
    go_ret
    exact ⟨rfl, new_drN HN6.out _⟩

theorem fnCopyBuffer_walk {w : World} {s : Src} {DA PA : Option Addr} {dc pc : Nat} {room z : Int} {quiet taking : Bool} {E : Nat → Addr} (hd : Sl w 1 DA s.data.length (s.data.map (Value.int .u8))) (hDn : DA = none → dc = 0) (hdc : s.data.length ≤ dc) (hdm : dc ≤ 9223372036854775807)
    (hp : Sl w 1 PA s.pieces.length (s.pieces.map (Value.int .i64))) (hPn : PA = none → pc = 0) (hr : -9223372036854775808 ≤ room ∧ room ≤ 9223372036854775807) (hE : Env w.heap.size E w) :
    Calls Tryd.prog 3 #[.slice DA s.data.length dc, .slice PA s.pieces.length pc, .bool s.together, .bool s.broken, .bool s.direct, .int .i64 room, .bool quiet, .bool taking, .int .i64 z] w fun e w' => e = .returned (.bool true) ∧ New w w' := by
  by_cases c1 : s.data.length ≤ 65536
  · by_cases c2 : s.pieces.length ≤ 4096
    · by_cases c3 : 1 ≤ z
      · by_cases c4 : z ≤ 65536
        · obtain ⟨m, rfl⟩ := Int.eq_ofNat_of_zero_le (show 0 ≤ z by omega)
          exact fnCopyBuffer_in hd hDn hdc hdm hp hPn hr.1 hr.2 c1 c2 (by omega) (by omega) hE
        · clear hd hDn hp hPn hE
          have c3' : ¬ (z < 1) := by omega
          go_enter Tryd.func3, Tryd.ntmps3
          go_wp2
          go_ret
          exact ⟨rfl, new_refl _⟩
      · clear hd hDn hp hPn hE
        have c3' : z < 1 := by omega
        go_enter Tryd.func3, Tryd.ntmps3
        go_wp2
        go_ret
        exact ⟨rfl, new_refl _⟩
    · clear hd hDn hp hPn hE
      go_enter Tryd.func3, Tryd.ntmps3
      go_wp2
      go_ret
      exact ⟨rfl, new_refl _⟩
  · clear hd hDn hp hPn hE
    go_enter Tryd.func3, Tryd.ntmps3
    go_wp2
    go_ret
    exact ⟨rfl, new_refl _⟩

end Go.Proofs.YtnbhhckempbimaaDoor
