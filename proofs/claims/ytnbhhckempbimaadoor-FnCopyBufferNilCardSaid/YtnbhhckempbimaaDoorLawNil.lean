/-
  laws.FnCopyBufferNil returns true, whatever the arguments.
-/
import Derived.Test.YtnbhhckempbimaaDoorLawEmpty
import Derived.Test.YtnbhhckempbimaaDoorSpecCopy
import Derived.Test.YtnbhhckempbimaaDoorSame
namespace Go.Proofs.YtnbhhckempbimaaDoor
open Go.RowKit
set_option linter.unusedVariables false
set_option maxRecDepth 100000

/-- The eight cells of a result in a block of the law's own. -/
def outCells (s : Src) (room : Int) (quiet taking : Bool) (GA BA AA VA : Option Addr) (gc bn bc an ac vn vc : Nat) : Array Value :=
  #[.int .i64 (s.most room : Nat), .int .i64 (s.copyCode room quiet : Nat), .slice GA (s.most room) gc, .slice BA bn bc, .slice AA an ac, .slice VA vn vc, .int .i64 (roadOf s.direct taking : Nat), .bool false]

theorem most_le (s : Src) (room : Int) : s.most room ≤ s.data.length := Nat.min_le_right _ _

set_option maxHeartbeats 1000000 in
theorem fnCopyBufferNil_in {w : World} {s : Src} {DA PA : Option Addr} {dc pc : Nat} {room : Int} {quiet taking : Bool} {E : Nat → Addr} (hd : Sl w 1 DA s.data.length (s.data.map (Value.int .u8))) (hDn : DA = none → dc = 0) (hdc : s.data.length ≤ dc) (hdm : dc ≤ 9223372036854775807)
    (hp : Sl w 1 PA s.pieces.length (s.pieces.map (Value.int .i64))) (hPn : PA = none → pc = 0) (hr1 : -9223372036854775808 ≤ room) (hr2 : room ≤ 9223372036854775807)
    (hdl : s.data.length ≤ 65536) (hpl : s.pieces.length ≤ 4096) (hE : Env w.heap.size E w) :
    Calls Tryd.prog 8 #[.slice DA s.data.length dc, .slice PA s.pieces.length pc, .bool s.together, .bool s.broken, .bool s.direct, .int .i64 room, .bool quiet, .bool taking] w fun e w' => e = .returned (.bool true) ∧ New w w' := by
  have HD := hide hd; have HP := hide hp; have HDN := hide hDn; have HPN := hide hPn; have HE := hide hE
  clear hd hp hDn hPn hE
  go_enter Tryd.func8, Tryd.ntmps8
  go_wp2_with fail
  refine (source_any (s := s) HD.out HDN.out HP.out HPN.out (by omega) (by omega)).mono ?_
  rintro e w2 ⟨dv, pv, rfl, hdv, hpv, hN2⟩
  obtain ⟨A1, k1, rfl, hn1, hs1⟩ := Sl.of_own hdv
  obtain ⟨A2, k2, rfl, hn2, hs2⟩ := Sl.of_own hpv
  have HN2 := hide hN2
  have HS1 := hide hs1; have HS2 := hide hs2; have HK1 := hide hn1; have HK2 := hide hn2
  clear hdv hpv hN2 hs1 hs2 hn1 hn2
  go_wp2_with fail
  obtain ⟨size, hsize⟩ : ∃ n : Nat, n = 32768 := ⟨_, rfl⟩
  have HSZ := hide hsize
  clear hsize
  refine (impl_none (s := s) (E := E) HS1.out HK1.out HS2.out HK2.out (by exact (HE.out.below HN2.out).up HN2.out.size) HSZ hr1 hr2 (by omega) (by omega)).mono ?_
  rintro e w3 ⟨gv, bv, av, wv, asked, writes, rfl, hg, ha, hw, hT, ⟨BA, bc, rfl, hB⟩, hN3⟩
  obtain ⟨GA, gc, rfl, -, hgs⟩ := Sl.of_own hg
  obtain ⟨AA, ac, rfl, -, -⟩ := Sl.of_own ha
  obtain ⟨VA, vc, rfl, -, -⟩ := Sl.of_own hw
  have HN3 := hide (new_trans HN2.out hN3)
  have HGS := hide hgs
  clear hg ha hw hT hB hN3 hgs HS1 HS2 HK1 HK2 HSZ
  have hml := most_le s room
  go_upto_region 4 with (fail)
  have hK : At (w3.alloc (.cells #[.int .i64 (s.most room : Nat), .int .i64 (s.copyCode room quiet : Nat), .slice GA (s.most room) gc, .slice BA 0 bc, .slice AA asked.length ac, .slice VA writes.length vc, .int .i64 (roadOf s.direct taking : Nat), .bool false] 25)) w3.heap.size 25 #[.int .i64 (s.most room : Nat), .int .i64 (s.copyCode room quiet : Nat), .slice GA (s.most room) gc, .slice BA 0 bc, .slice AA asked.length ac, .slice VA writes.length vc, .int .i64 (roadOf s.direct taking : Nat), .bool false] := At.made _ _ _
  have HN4 := hide (new_al HN3.out (.cells #[.int .i64 (s.most room : Nat), .int .i64 (s.copyCode room quiet : Nat), .slice GA (s.most room) gc, .slice BA 0 bc, .slice AA asked.length ac, .slice VA writes.length vc, .int .i64 (roadOf s.direct taking : Nat), .bool false] 25))
  have HGS4 := hide (HGS.out.laid (.cells #[.int .i64 (s.most room : Nat), .int .i64 (s.copyCode room quiet : Nat), .slice GA (s.most room) gc, .slice BA 0 bc, .slice AA asked.length ac, .slice VA writes.length vc, .int .i64 (roadOf s.direct taking : Nat), .bool false] 25))
  generalize w3.alloc (.cells #[.int .i64 (s.most room : Nat), .int .i64 (s.copyCode room quiet : Nat), .slice GA (s.most room) gc, .slice BA 0 bc, .slice AA asked.length ac, .slice VA writes.length vc, .int .i64 (roadOf s.direct taking : Nat), .bool false] 25) = w4 at *
  generalize w3.heap.size = K at *
  have HK := hide hK
  clear hK HGS HN3
  go_wp2_with fail
  refine (spec_any (s := s) (HD.out.new HN4.out) HDN.out hdc hdm (by omega) hr2).mono ?_
  rintro e w5 ⟨v, rfl, hv, hN5⟩
  obtain ⟨A5, k5, rfl, -, hs5⟩ := Sl.of_own hv
  have hK5 := HK.out.new hN5
  have HG5 := hide (HGS4.out.new hN5); have HS5 := hide hs5
  have HN6 := hide (new_trans HN4.out hN5)
  have x0 := hK5.get 0
  have x1 := hK5.get 1
  have x2 := hK5.get 2
  have x7 := hK5.get 7
  clear hv hN5 hs5 hK5 HK HGS4 HN4
  have hlen : ((s.data.take (s.most room)).length) = s.most room := by rw [List.length_take]; exact Nat.min_eq_left hml
  generalize hmm : s.most room = m at *
  generalize s.copyCode room quiet = code at *
  generalize s.data.take m = zs at *
  have hnotT : ∀ (x : Bool) (w : World), (Op.unary .not (.bool x)).run Tryd.prog w = .ok (.bool (!x)) w := fun _ _ => rfl
  have HL := hide hlen
  clear hlen hmm
  go_wp2_with fail
  refine (sameBytes_eq HL.out HG5.out HS5.out (by omega)).mono ?_
  rintro e w6 ⟨rfl, q, rfl⟩
  go_wp2
  go_ret
  exact ⟨rfl, new_drN HN6.out _⟩

theorem fnCopyBufferNil_walk {w : World} {s : Src} {DA PA : Option Addr} {dc pc : Nat} {room : Int} {quiet taking : Bool} {E : Nat → Addr} (hd : Sl w 1 DA s.data.length (s.data.map (Value.int .u8))) (hDn : DA = none → dc = 0) (hdc : s.data.length ≤ dc) (hdm : dc ≤ 9223372036854775807)
    (hp : Sl w 1 PA s.pieces.length (s.pieces.map (Value.int .i64))) (hPn : PA = none → pc = 0) (hr : -9223372036854775808 ≤ room ∧ room ≤ 9223372036854775807) (hE : Env w.heap.size E w) :
    Calls Tryd.prog 8 #[.slice DA s.data.length dc, .slice PA s.pieces.length pc, .bool s.together, .bool s.broken, .bool s.direct, .int .i64 room, .bool quiet, .bool taking] w fun e w' => e = .returned (.bool true) ∧ New w w' := by
  by_cases c1 : s.data.length ≤ 65536
  · by_cases c2 : s.pieces.length ≤ 4096
    · exact fnCopyBufferNil_in hd hDn hdc hdm hp hPn hr.1 hr.2 c1 c2 hE
    · clear hd hDn hp hPn hE
      go_enter Tryd.func8, Tryd.ntmps8
      go_wp2
      go_ret
      exact ⟨rfl, new_refl _⟩
  · clear hd hDn hp hPn hE
    go_enter Tryd.func8, Tryd.ntmps8
    go_wp2
    go_ret
    exact ⟨rfl, new_refl _⟩

end Go.Proofs.YtnbhhckempbimaaDoor
