/-
  laws.FnCopyBufferEmpty and laws.FnCopyBufferEmptyDirect return true, whatever the arguments.
-/
import Derived.Test.YtnbhhckempbimaaDoorImplP
import Derived.Test.YtnbhhckempbimaaDoorSource
namespace Go.Proofs.YtnbhhckempbimaaDoor
open Go.RowKit
set_option linter.unusedVariables false
set_option maxRecDepth 100000

theorem Env.up {B B' : Nat} {E : Nat → Addr} {w : World} (h : Env B E w) (hB : B ≤ B') : Env B' E w :=
  ⟨h.cell, h.blk, h.inj, fun i hi => ⟨Nat.lt_of_lt_of_le (h.lt i hi).1 hB, Nat.lt_of_lt_of_le (h.lt i hi).2 hB⟩⟩

set_option maxHeartbeats 1000000 in
theorem fnCopyBufferEmpty_in {w : World} {s : Src} {DA PA : Option Addr} {dc pc : Nat} {room : Int} {quiet : Bool} {E : Nat → Addr} (hd : Sl w 1 DA s.data.length (s.data.map (Value.int .u8))) (hDn : DA = none → dc = 0)
    (hp : Sl w 1 PA s.pieces.length (s.pieces.map (Value.int .i64))) (hPn : PA = none → pc = 0) (hdir : s.direct = false) (hr1 : -9223372036854775808 ≤ room) (hr2 : room ≤ 9223372036854775807)
    (hdl : s.data.length ≤ 65536) (hpl : s.pieces.length ≤ 4096) (hE : Env w.heap.size E w) :
    Calls Tryd.prog 5 #[.slice DA s.data.length dc, .slice PA s.pieces.length pc, .bool s.together, .bool s.broken, .int .i64 room, .bool quiet] w fun e w' => e = .returned (.bool true) ∧ New w w' := by
  have HD := hide hd; have HP := hide hp; have HDN := hide hDn; have HPN := hide hPn; have HE := hide hE
  have HSRC : Hid (∀ W, Sl W 1 DA s.data.length (s.data.map (Value.int .u8)) → Sl W 1 PA s.pieces.length (s.pieces.map (Value.int .i64)) → Calls Tryd.prog 15 #[.slice DA s.data.length dc, .slice PA s.pieces.length pc, .bool s.together, .bool s.broken, .bool false] W (SourcePost s W)) := by
    intro W h1 h2
    have := source_any (s := s) h1 hDn h2 hPn (by omega) (by omega)
    rwa [hdir] at this
  have HDIR := hide hdir
  clear hd hp hDn hPn hE hdir
  go_enter Tryd.func5, Tryd.ntmps5
  go_wp2_with fail
  refine (HSRC.out _ HD.out HP.out).mono ?_
  rintro e w2 ⟨dv, pv, rfl, hdv, hpv, hN2⟩
  obtain ⟨A1, k1, rfl, hn1, hs1⟩ := Sl.of_own hdv
  obtain ⟨A2, k2, rfl, hn2, hs2⟩ := Sl.of_own hpv
  have HN2 := hide hN2
  have HS1 := hide hs1; have HS2 := hide hs2; have HK1 := hide hn1; have HK2 := hide hn2
  clear hdv hpv hN2 hs1 hs2 hn1 hn2
  go_wp2_with fail
  refine (impl_panic_false (s := s) (E := E) (by exact HS1.out.laid _) HK1.out (by exact HS2.out.laid _) HK2.out (by exact ((HE.out.below HN2.out).alloc _).up (by have := HN2.out.size; simp; omega)) hr1 hr2 (by omega) (by omega)).mono ?_
  rintro e w3 ⟨BA, bn, bc, rfl, hN3⟩
  have HN3 := hide (new_trans (new_al HN2.out _) hN3)
  clear hN3
  go_wp2
  go_ret
  exact ⟨rfl, by exact new_al HN3.out _⟩

set_option maxHeartbeats 1000000 in
theorem fnCopyBufferEmptyDirect_false {w : World} {s : Src} {DA PA : Option Addr} {dc pc : Nat} {room : Int} {quiet : Bool} {E : Nat → Addr} (hd : Sl w 1 DA s.data.length (s.data.map (Value.int .u8))) (hDn : DA = none → dc = 0)
    (hp : Sl w 1 PA s.pieces.length (s.pieces.map (Value.int .i64))) (hPn : PA = none → pc = 0) (hdir : s.direct = true) (hr1 : -9223372036854775808 ≤ room) (hr2 : room ≤ 9223372036854775807)
    (hdl : s.data.length ≤ 65536) (hpl : s.pieces.length ≤ 4096) (hE : Env w.heap.size E w) :
    Calls Tryd.prog 6 #[.slice DA s.data.length dc, .slice PA s.pieces.length pc, .bool s.together, .bool s.broken, .int .i64 room, .bool quiet, .bool false] w fun e w' => e = .returned (.bool true) ∧ New w w' := by
  have HD := hide hd; have HP := hide hp; have HDN := hide hDn; have HPN := hide hPn; have HE := hide hE
  have HSRC : Hid (∀ W, Sl W 1 DA s.data.length (s.data.map (Value.int .u8)) → Sl W 1 PA s.pieces.length (s.pieces.map (Value.int .i64)) → Calls Tryd.prog 15 #[.slice DA s.data.length dc, .slice PA s.pieces.length pc, .bool s.together, .bool s.broken, .bool true] W (SourcePost s W)) := by
    intro W h1 h2
    have := source_any (s := s) h1 hDn h2 hPn (by omega) (by omega)
    rwa [hdir] at this
  have HDIR := hide hdir
  clear hd hp hDn hPn hE hdir
  have hnot : ∀ (x : Bool) (w : World), (Op.unary .not (.bool x)).run Tryd.prog w = .ok (.bool (!x)) w := fun _ _ => rfl
  go_enter Tryd.func6, Tryd.ntmps6
  go_wp2_with fail
  refine (HSRC.out _ HD.out HP.out).mono ?_
  rintro e w2 ⟨dv, pv, rfl, hdv, hpv, hN2⟩
  obtain ⟨A1, k1, rfl, hn1, hs1⟩ := Sl.of_own hdv
  obtain ⟨A2, k2, rfl, hn2, hs2⟩ := Sl.of_own hpv
  have HN2 := hide hN2
  have HS1 := hide hs1; have HS2 := hide hs2; have HK1 := hide hn1; have HK2 := hide hn2
  clear hdv hpv hN2 hs1 hs2 hn1 hn2
  go_wp2_with fail
  refine (impl_panic_false (s := s) (E := E) (by exact HS1.out.laid _) HK1.out (by exact HS2.out.laid _) HK2.out (by exact ((HE.out.below HN2.out).alloc _).up (by have := HN2.out.size; simp; omega)) hr1 hr2 (by omega) (by omega)).mono ?_
  rintro e w3 ⟨BA, bn, bc, rfl, hN3⟩
  have HN3 := hide (new_trans (new_al HN2.out _) hN3)
  clear hN3
  go_wp2
  go_ret
  exact ⟨rfl, by exact new_al HN3.out _⟩

set_option maxHeartbeats 1000000 in
theorem fnCopyBufferEmptyDirect_true {w : World} {s : Src} {DA PA : Option Addr} {dc pc : Nat} {room : Int} {quiet : Bool} {E : Nat → Addr} (hd : Sl w 1 DA s.data.length (s.data.map (Value.int .u8))) (hDn : DA = none → dc = 0)
    (hp : Sl w 1 PA s.pieces.length (s.pieces.map (Value.int .i64))) (hPn : PA = none → pc = 0) (hdir : s.direct = false) (hr1 : -9223372036854775808 ≤ room) (hr2 : room ≤ 9223372036854775807)
    (hdl : s.data.length ≤ 65536) (hpl : s.pieces.length ≤ 4096) (hE : Env w.heap.size E w) :
    Calls Tryd.prog 6 #[.slice DA s.data.length dc, .slice PA s.pieces.length pc, .bool s.together, .bool s.broken, .int .i64 room, .bool quiet, .bool true] w fun e w' => e = .returned (.bool true) ∧ New w w' := by
  have HD := hide hd; have HP := hide hp; have HDN := hide hDn; have HPN := hide hPn; have HE := hide hE
  have HSRC : Hid (∀ W, Sl W 1 DA s.data.length (s.data.map (Value.int .u8)) → Sl W 1 PA s.pieces.length (s.pieces.map (Value.int .i64)) → Calls Tryd.prog 15 #[.slice DA s.data.length dc, .slice PA s.pieces.length pc, .bool s.together, .bool s.broken, .bool false] W (SourcePost s W)) := by
    intro W h1 h2
    have := source_any (s := s) h1 hDn h2 hPn (by omega) (by omega)
    rwa [hdir] at this
  have HDIR := hide hdir
  clear hd hp hDn hPn hE hdir
  have hnot : ∀ (x : Bool) (w : World), (Op.unary .not (.bool x)).run Tryd.prog w = .ok (.bool (!x)) w := fun _ _ => rfl
  go_enter Tryd.func6, Tryd.ntmps6
  go_wp2_with fail
  refine (HSRC.out _ HD.out HP.out).mono ?_
  rintro e w2 ⟨dv, pv, rfl, hdv, hpv, hN2⟩
  obtain ⟨A1, k1, rfl, hn1, hs1⟩ := Sl.of_own hdv
  obtain ⟨A2, k2, rfl, hn2, hs2⟩ := Sl.of_own hpv
  have HN2 := hide hN2
  have HS1 := hide hs1; have HS2 := hide hs2; have HK1 := hide hn1; have HK2 := hide hn2
  clear hdv hpv hN2 hs1 hs2 hn1 hn2
  go_wp2_with fail
  refine (impl_panic_true (s := s) (E := E) (by exact HS1.out.laid _) HK1.out (by exact HS2.out.laid _) HK2.out (by exact ((HE.out.below HN2.out).alloc _).up (by have := HN2.out.size; simp; omega)) hr1 hr2 (by omega) (by omega)).mono ?_
  rintro e w3 ⟨BA, bn, bc, rfl, hN3⟩
  have HN3 := hide (new_trans (new_al HN2.out _) hN3)
  clear hN3
  go_wp2
  go_ret
  exact ⟨rfl, by exact new_al HN3.out _⟩

theorem fnCopyBufferEmpty_walk {w : World} {s : Src} {DA PA : Option Addr} {dc pc : Nat} {room : Int} {quiet : Bool} {E : Nat → Addr} (hd : Sl w 1 DA s.data.length (s.data.map (Value.int .u8))) (hDn : DA = none → dc = 0)
    (hp : Sl w 1 PA s.pieces.length (s.pieces.map (Value.int .i64))) (hPn : PA = none → pc = 0) (hdir : s.direct = false) (hr : -9223372036854775808 ≤ room ∧ room ≤ 9223372036854775807) (hE : Env w.heap.size E w) :
    Calls Tryd.prog 5 #[.slice DA s.data.length dc, .slice PA s.pieces.length pc, .bool s.together, .bool s.broken, .int .i64 room, .bool quiet] w fun e w' => e = .returned (.bool true) ∧ New w w' := by
  by_cases c1 : s.data.length ≤ 65536
  · by_cases c2 : s.pieces.length ≤ 4096
    · exact fnCopyBufferEmpty_in hd hDn hp hPn hdir hr.1 hr.2 c1 c2 hE
    · clear hd hDn hp hPn hE hdir
      go_enter Tryd.func5, Tryd.ntmps5
      go_wp2
      go_ret
      exact ⟨rfl, new_refl _⟩
  · clear hd hDn hp hPn hE hdir
    go_enter Tryd.func5, Tryd.ntmps5
    go_wp2
    go_ret
    exact ⟨rfl, new_refl _⟩

theorem fnCopyBufferEmptyDirect_walk {w : World} {s : Src} {DA PA : Option Addr} {dc pc : Nat} {room : Int} {quiet taking : Bool} {E : Nat → Addr} (hd : Sl w 1 DA s.data.length (s.data.map (Value.int .u8))) (hDn : DA = none → dc = 0)
    (hp : Sl w 1 PA s.pieces.length (s.pieces.map (Value.int .i64))) (hPn : PA = none → pc = 0) (hdir : s.direct = !taking) (hr : -9223372036854775808 ≤ room ∧ room ≤ 9223372036854775807) (hE : Env w.heap.size E w) :
    Calls Tryd.prog 6 #[.slice DA s.data.length dc, .slice PA s.pieces.length pc, .bool s.together, .bool s.broken, .int .i64 room, .bool quiet, .bool taking] w fun e w' => e = .returned (.bool true) ∧ New w w' := by
  by_cases c1 : s.data.length ≤ 65536
  · by_cases c2 : s.pieces.length ≤ 4096
    · cases taking with
      | false => exact fnCopyBufferEmptyDirect_false hd hDn hp hPn hdir hr.1 hr.2 c1 c2 hE
      | true => exact fnCopyBufferEmptyDirect_true hd hDn hp hPn hdir hr.1 hr.2 c1 c2 hE
    · clear hd hDn hp hPn hE hdir
      go_enter Tryd.func6, Tryd.ntmps6
      go_wp2
      go_ret
      exact ⟨rfl, new_refl _⟩
  · clear hd hDn hp hPn hE hdir
    go_enter Tryd.func6, Tryd.ntmps6
    go_wp2
    go_ret
    exact ⟨rfl, new_refl _⟩

end Go.Proofs.YtnbhhckempbimaaDoor
