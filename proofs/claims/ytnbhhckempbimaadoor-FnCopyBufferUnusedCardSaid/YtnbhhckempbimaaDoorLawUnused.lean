/-
  laws.FnCopyBufferUnused returns true, whatever the arguments.
-/
import Derived.Test.YtnbhhckempbimaaDoorLawEmpty
import Derived.Test.YtnbhhckempbimaaDoorSame
namespace Go.Proofs.YtnbhhckempbimaaDoor
open Go.RowKit
set_option linter.unusedVariables false
set_option maxRecDepth 100000

set_option maxHeartbeats 1000000 in
theorem unused_true_true {w : World} {s : Src} {DA PA TA : Option Addr} {dc pc tc : Nat} {room : Int} {buf : List Int} {E : Nat → Addr} (hd : Sl w 1 DA s.data.length (s.data.map (Value.int .u8))) (hDn : DA = none → dc = 0)
    (hp : Sl w 1 PA s.pieces.length (s.pieces.map (Value.int .i64))) (hPn : PA = none → pc = 0) (ht : Sl w 1 TA buf.length (buf.map (Value.int .u8))) (hTn : TA = none → tc = 0) (hdir : s.direct = true) (hr1 : -9223372036854775808 ≤ room) (hr2 : room ≤ 9223372036854775807)
    (hdl : s.data.length ≤ 65536) (hpl : s.pieces.length ≤ 4096) (hb1 : 1 ≤ buf.length) (hb2 : buf.length ≤ 65536) (hE : Env w.heap.size E w) :
    Calls Tryd.prog 13 #[.slice DA s.data.length dc, .slice PA s.pieces.length pc, .bool s.together, .bool s.broken, .int .i64 room, .bool true, .bool true, .slice TA buf.length tc] w fun e w' => e = .returned (.bool true) ∧ New w w' := by
  have HSRC : Hid (∀ W, Sl W 1 DA s.data.length (s.data.map (Value.int .u8)) → Sl W 1 PA s.pieces.length (s.pieces.map (Value.int .i64)) → Calls Tryd.prog 15 #[.slice DA s.data.length dc, .slice PA s.pieces.length pc, .bool s.together, .bool s.broken, .bool true] W (SourcePost s W)) := by
    intro W h1 h2
    have := source_any (s := s) h1 hDn h2 hPn (by omega) (by omega)
    rwa [hdir] at this
  have HRO : Hid (roadOf s.direct true ≠ 0) := by show roadOf s.direct true ≠ 0; rw [hdir]; decide
  have HD := hide hd; have HP := hide hp; have HTB := hide ht; have HTN := hide hTn; have HE := hide hE; have HDIR := hide hdir
  clear hd hp hDn hPn hE hdir ht hTn
  have hnotT : ∀ (x : Bool) (w : World), (Op.unary .not (.bool x)).run Tryd.prog w = .ok (.bool (!x)) w := fun _ _ => rfl
  have hb1i : ¬ ((buf.length : Int) < 1) := by omega
  go_enter Tryd.func13, Tryd.ntmps13
  go_wp2_with fail
  refine (HSRC.out _ HD.out HP.out).mono ?_
  rintro e w2 ⟨dv, pv, rfl, hdv, hpv, hN2⟩
  obtain ⟨A1, k1, rfl, hn1, hs1⟩ := Sl.of_own hdv
  obtain ⟨A2, k2, rfl, hn2, hs2⟩ := Sl.of_own hpv
  have HN2 := hide hN2
  have HS1 := hide hs1; have HS2 := hide hs2; have HK1 := hide hn1; have HK2 := hide hn2
  clear hdv hpv hN2 hs1 hs2 hn1 hn2
  go_wp2_with (at_builtin; (with_reducible refine wpList_append_empty rfl (.tmp 50) (.tmp 51) 22 rfl 5 (.int .u8 0) 1 1 Tryd.underlying22 info5 rfl (by decide) _ rfl TA buf.length tc (buf.map (Value.int .u8)) rfl HTN.out ?c1 (ints_oneCell _ _) ?c3 ?c4 rfl ?_))
  case c1 => exact HTB.out.new HN2.out
  case c3 => unfold maxLen; omega
  case c4 => omega
  intro bv w3 hbv hN3 hlt3
  obtain ⟨B3, b3, rfl, hbn, hbs⟩ := Sl.of_own hbv
  have HN3 := hide (new_trans HN2.out hN3)
  have HS13 := hide (HS1.out.new hN3); have HS23 := hide (HS2.out.new hN3); have HBS := hide hbs; have HBN := hide hbn
  clear hbv hN3 hlt3 hbs hbn HS1 HS2 HN2
  go_wp2_with fail
  refine (impl_any (s := s) (E := E) (taking := true) HS13.out HK1.out HS23.out HK2.out HBS.out HBN.out (by exact (HE.out.below HN3.out).up HN3.out.size) (by omega) (by omega) hr1 hr2 (by omega) (by omega)).mono ?_
  rintro e w4 ⟨gv, bv, av, wv, asked, writes, rfl, hg, ha, hw, hT, ⟨BA, bc, rfl, hB⟩, hN4⟩
  obtain ⟨GA, gc, rfl, -, -⟩ := Sl.of_own hg
  obtain ⟨AA, ac, rfl, -, -⟩ := Sl.of_own ha
  obtain ⟨VA, vc, rfl, -, -⟩ := Sl.of_own hw
  have HN4 := hide (new_trans HN3.out hN4)
  have HBUF := hide (hB rfl HRO.out)
  clear hg ha hw hT hB hN4 HS13 HS23 HK1 HK2 HBS HBN HN3
  simp only [Bool.false_eq_true, if_false]
  go_upto_region 6 with (fail)
  have HN5 := hide (new_al HN4.out (.cells #[.int .i64 (s.most room : Nat), .int .i64 (s.copyCode room false : Nat), .slice GA (s.most room) gc, .slice BA buf.length bc, .slice AA asked.length ac, .slice VA writes.length vc, .int .i64 (roadOf s.direct true : Nat), .bool false] 25))
  have hK : At (w4.alloc (.cells #[.int .i64 (s.most room : Nat), .int .i64 (s.copyCode room false : Nat), .slice GA (s.most room) gc, .slice BA buf.length bc, .slice AA asked.length ac, .slice VA writes.length vc, .int .i64 (roadOf s.direct true : Nat), .bool false] 25)) w4.heap.size 25 #[.int .i64 (s.most room : Nat), .int .i64 (s.copyCode room false : Nat), .slice GA (s.most room) gc, .slice BA buf.length bc, .slice AA asked.length ac, .slice VA writes.length vc, .int .i64 (roadOf s.direct true : Nat), .bool false] := At.made _ _ _
  have HB5 := hide (HBUF.out.laid (.cells #[.int .i64 (s.most room : Nat), .int .i64 (s.copyCode room false : Nat), .slice GA (s.most room) gc, .slice BA buf.length bc, .slice AA asked.length ac, .slice VA writes.length vc, .int .i64 (roadOf s.direct true : Nat), .bool false] 25))
  generalize w4.alloc (.cells #[.int .i64 (s.most room : Nat), .int .i64 (s.copyCode room false : Nat), .slice GA (s.most room) gc, .slice BA buf.length bc, .slice AA asked.length ac, .slice VA writes.length vc, .int .i64 (roadOf s.direct true : Nat), .bool false] 25) = w5 at *
  generalize w4.heap.size = K at *
  have x3 := hK.get 3
  have x7 := hK.get 7
  clear hK HBUF HN4
  go_wp2_with fail
  refine (sameBytes_eq rfl HB5.out (HTB.out.new HN5.out) (by omega)).mono ?_
  rintro e w6 ⟨rfl, q, rfl⟩
  go_wp2
  go_ret
  exact ⟨rfl, new_drN HN5.out _⟩

set_option maxHeartbeats 1000000 in
theorem unused_true_false {w : World} {s : Src} {DA PA TA : Option Addr} {dc pc tc : Nat} {room : Int} {buf : List Int} {E : Nat → Addr} (hd : Sl w 1 DA s.data.length (s.data.map (Value.int .u8))) (hDn : DA = none → dc = 0)
    (hp : Sl w 1 PA s.pieces.length (s.pieces.map (Value.int .i64))) (hPn : PA = none → pc = 0) (ht : Sl w 1 TA buf.length (buf.map (Value.int .u8))) (hTn : TA = none → tc = 0) (hdir : s.direct = true) (hr1 : -9223372036854775808 ≤ room) (hr2 : room ≤ 9223372036854775807)
    (hdl : s.data.length ≤ 65536) (hpl : s.pieces.length ≤ 4096) (hb1 : 1 ≤ buf.length) (hb2 : buf.length ≤ 65536) (hE : Env w.heap.size E w) :
    Calls Tryd.prog 13 #[.slice DA s.data.length dc, .slice PA s.pieces.length pc, .bool s.together, .bool s.broken, .int .i64 room, .bool true, .bool false, .slice TA buf.length tc] w fun e w' => e = .returned (.bool true) ∧ New w w' := by
  have HSRC : Hid (∀ W, Sl W 1 DA s.data.length (s.data.map (Value.int .u8)) → Sl W 1 PA s.pieces.length (s.pieces.map (Value.int .i64)) → Calls Tryd.prog 15 #[.slice DA s.data.length dc, .slice PA s.pieces.length pc, .bool s.together, .bool s.broken, .bool true] W (SourcePost s W)) := by
    intro W h1 h2
    have := source_any (s := s) h1 hDn h2 hPn (by omega) (by omega)
    rwa [hdir] at this
  have HRO : Hid (roadOf s.direct true ≠ 0) := by show roadOf s.direct true ≠ 0; rw [hdir]; decide
  have HD := hide hd; have HP := hide hp; have HTB := hide ht; have HTN := hide hTn; have HE := hide hE; have HDIR := hide hdir
  clear hd hp hDn hPn hE hdir ht hTn
  have hnotT : ∀ (x : Bool) (w : World), (Op.unary .not (.bool x)).run Tryd.prog w = .ok (.bool (!x)) w := fun _ _ => rfl
  have hb1i : ¬ ((buf.length : Int) < 1) := by omega
  go_enter Tryd.func13, Tryd.ntmps13
  go_wp2_with fail
  refine (HSRC.out _ HD.out HP.out).mono ?_
  rintro e w2 ⟨dv, pv, rfl, hdv, hpv, hN2⟩
  obtain ⟨A1, k1, rfl, hn1, hs1⟩ := Sl.of_own hdv
  obtain ⟨A2, k2, rfl, hn2, hs2⟩ := Sl.of_own hpv
  have HN2 := hide hN2
  have HS1 := hide hs1; have HS2 := hide hs2; have HK1 := hide hn1; have HK2 := hide hn2
  clear hdv hpv hN2 hs1 hs2 hn1 hn2
  go_wp2_with (at_builtin; (with_reducible refine wpList_append_empty rfl (.tmp 50) (.tmp 51) 22 rfl 5 (.int .u8 0) 1 1 Tryd.underlying22 info5 rfl (by decide) _ rfl TA buf.length tc (buf.map (Value.int .u8)) rfl HTN.out ?c1 (ints_oneCell _ _) ?c3 ?c4 rfl ?_))
  case c1 => exact HTB.out.new HN2.out
  case c3 => unfold maxLen; omega
  case c4 => omega
  intro bv w3 hbv hN3 hlt3
  obtain ⟨B3, b3, rfl, hbn, hbs⟩ := Sl.of_own hbv
  have HN3 := hide (new_trans HN2.out hN3)
  have HS13 := hide (HS1.out.new hN3); have HS23 := hide (HS2.out.new hN3); have HBS := hide hbs; have HBN := hide hbn
  clear hbv hN3 hlt3 hbs hbn HS1 HS2 HN2
  go_wp2_with fail
  refine (impl_any (s := s) (E := E) (taking := true) HS13.out HK1.out HS23.out HK2.out HBS.out HBN.out (by exact (HE.out.below HN3.out).up HN3.out.size) (by omega) (by omega) hr1 hr2 (by omega) (by omega)).mono ?_
  rintro e w4 ⟨gv, bv, av, wv, asked, writes, rfl, hg, ha, hw, hT, ⟨BA, bc, rfl, hB⟩, hN4⟩
  obtain ⟨GA, gc, rfl, -, -⟩ := Sl.of_own hg
  obtain ⟨AA, ac, rfl, -, -⟩ := Sl.of_own ha
  obtain ⟨VA, vc, rfl, -, -⟩ := Sl.of_own hw
  have HN4 := hide (new_trans HN3.out hN4)
  have HBUF := hide (hB rfl HRO.out)
  clear hg ha hw hT hB hN4 HS13 HS23 HK1 HK2 HBS HBN HN3
  simp only [Bool.false_eq_true, if_false]
  go_upto_region 6 with (fail)
  have HN5 := hide (new_al HN4.out (.cells #[.int .i64 (s.most room : Nat), .int .i64 (s.copyCode room false : Nat), .slice GA (s.most room) gc, .slice BA buf.length bc, .slice AA asked.length ac, .slice VA writes.length vc, .int .i64 (roadOf s.direct true : Nat), .bool false] 25))
  have hK : At (w4.alloc (.cells #[.int .i64 (s.most room : Nat), .int .i64 (s.copyCode room false : Nat), .slice GA (s.most room) gc, .slice BA buf.length bc, .slice AA asked.length ac, .slice VA writes.length vc, .int .i64 (roadOf s.direct true : Nat), .bool false] 25)) w4.heap.size 25 #[.int .i64 (s.most room : Nat), .int .i64 (s.copyCode room false : Nat), .slice GA (s.most room) gc, .slice BA buf.length bc, .slice AA asked.length ac, .slice VA writes.length vc, .int .i64 (roadOf s.direct true : Nat), .bool false] := At.made _ _ _
  have HB5 := hide (HBUF.out.laid (.cells #[.int .i64 (s.most room : Nat), .int .i64 (s.copyCode room false : Nat), .slice GA (s.most room) gc, .slice BA buf.length bc, .slice AA asked.length ac, .slice VA writes.length vc, .int .i64 (roadOf s.direct true : Nat), .bool false] 25))
  generalize w4.alloc (.cells #[.int .i64 (s.most room : Nat), .int .i64 (s.copyCode room false : Nat), .slice GA (s.most room) gc, .slice BA buf.length bc, .slice AA asked.length ac, .slice VA writes.length vc, .int .i64 (roadOf s.direct true : Nat), .bool false] 25) = w5 at *
  generalize w4.heap.size = K at *
  have x3 := hK.get 3
  have x7 := hK.get 7
  clear hK HBUF HN4
  go_wp2_with fail
  refine (sameBytes_eq rfl HB5.out (HTB.out.new HN5.out) (by omega)).mono ?_
  rintro e w6 ⟨rfl, q, rfl⟩
  go_wp2
  go_ret
  exact ⟨rfl, new_drN HN5.out _⟩

set_option maxHeartbeats 1000000 in
theorem unused_false_true {w : World} {s : Src} {DA PA TA : Option Addr} {dc pc tc : Nat} {room : Int} {buf : List Int} {E : Nat → Addr} (hd : Sl w 1 DA s.data.length (s.data.map (Value.int .u8))) (hDn : DA = none → dc = 0)
    (hp : Sl w 1 PA s.pieces.length (s.pieces.map (Value.int .i64))) (hPn : PA = none → pc = 0) (ht : Sl w 1 TA buf.length (buf.map (Value.int .u8))) (hTn : TA = none → tc = 0) (hdir : s.direct = true) (hr1 : -9223372036854775808 ≤ room) (hr2 : room ≤ 9223372036854775807)
    (hdl : s.data.length ≤ 65536) (hpl : s.pieces.length ≤ 4096) (hb1 : 1 ≤ buf.length) (hb2 : buf.length ≤ 65536) (hE : Env w.heap.size E w) :
    Calls Tryd.prog 13 #[.slice DA s.data.length dc, .slice PA s.pieces.length pc, .bool s.together, .bool s.broken, .int .i64 room, .bool false, .bool true, .slice TA buf.length tc] w fun e w' => e = .returned (.bool true) ∧ New w w' := by
  have HSRC : Hid (∀ W, Sl W 1 DA s.data.length (s.data.map (Value.int .u8)) → Sl W 1 PA s.pieces.length (s.pieces.map (Value.int .i64)) → Calls Tryd.prog 15 #[.slice DA s.data.length dc, .slice PA s.pieces.length pc, .bool s.together, .bool s.broken, .bool true] W (SourcePost s W)) := by
    intro W h1 h2
    have := source_any (s := s) h1 hDn h2 hPn (by omega) (by omega)
    rwa [hdir] at this
  have HRO : Hid (roadOf s.direct false ≠ 0) := by show roadOf s.direct false ≠ 0; rw [hdir]; decide
  have HD := hide hd; have HP := hide hp; have HTB := hide ht; have HTN := hide hTn; have HE := hide hE; have HDIR := hide hdir
  clear hd hp hDn hPn hE hdir ht hTn
  have hnotT : ∀ (x : Bool) (w : World), (Op.unary .not (.bool x)).run Tryd.prog w = .ok (.bool (!x)) w := fun _ _ => rfl
  have hb1i : ¬ ((buf.length : Int) < 1) := by omega
  go_enter Tryd.func13, Tryd.ntmps13
  go_wp2_with fail
  refine (HSRC.out _ HD.out HP.out).mono ?_
  rintro e w2 ⟨dv, pv, rfl, hdv, hpv, hN2⟩
  obtain ⟨A1, k1, rfl, hn1, hs1⟩ := Sl.of_own hdv
  obtain ⟨A2, k2, rfl, hn2, hs2⟩ := Sl.of_own hpv
  have HN2 := hide hN2
  have HS1 := hide hs1; have HS2 := hide hs2; have HK1 := hide hn1; have HK2 := hide hn2
  clear hdv hpv hN2 hs1 hs2 hn1 hn2
  go_wp2_with (at_builtin; (with_reducible refine wpList_append_empty rfl (.tmp 50) (.tmp 51) 22 rfl 5 (.int .u8 0) 1 1 Tryd.underlying22 info5 rfl (by decide) _ rfl TA buf.length tc (buf.map (Value.int .u8)) rfl HTN.out ?c1 (ints_oneCell _ _) ?c3 ?c4 rfl ?_))
  case c1 => exact HTB.out.new HN2.out
  case c3 => unfold maxLen; omega
  case c4 => omega
  intro bv w3 hbv hN3 hlt3
  obtain ⟨B3, b3, rfl, hbn, hbs⟩ := Sl.of_own hbv
  have HN3 := hide (new_trans HN2.out hN3)
  have HS13 := hide (HS1.out.new hN3); have HS23 := hide (HS2.out.new hN3); have HBS := hide hbs; have HBN := hide hbn
  clear hbv hN3 hlt3 hbs hbn HS1 HS2 HN2
  go_wp2_with fail
  refine (impl_any (s := s) (E := E) (taking := false) HS13.out HK1.out HS23.out HK2.out HBS.out HBN.out (by exact (HE.out.below HN3.out).up HN3.out.size) (by omega) (by omega) hr1 hr2 (by omega) (by omega)).mono ?_
  rintro e w4 ⟨gv, bv, av, wv, asked, writes, rfl, hg, ha, hw, hT, ⟨BA, bc, rfl, hB⟩, hN4⟩
  obtain ⟨GA, gc, rfl, -, -⟩ := Sl.of_own hg
  obtain ⟨AA, ac, rfl, -, -⟩ := Sl.of_own ha
  obtain ⟨VA, vc, rfl, -, -⟩ := Sl.of_own hw
  have HN4 := hide (new_trans HN3.out hN4)
  have HBUF := hide (hB rfl HRO.out)
  clear hg ha hw hT hB hN4 HS13 HS23 HK1 HK2 HBS HBN HN3
  simp only [Bool.false_eq_true, if_false]
  go_upto_region 6 with (fail)
  have HN5 := hide (new_al HN4.out (.cells #[.int .i64 (s.most room : Nat), .int .i64 (s.copyCode room false : Nat), .slice GA (s.most room) gc, .slice BA buf.length bc, .slice AA asked.length ac, .slice VA writes.length vc, .int .i64 (roadOf s.direct false : Nat), .bool false] 25))
  have hK : At (w4.alloc (.cells #[.int .i64 (s.most room : Nat), .int .i64 (s.copyCode room false : Nat), .slice GA (s.most room) gc, .slice BA buf.length bc, .slice AA asked.length ac, .slice VA writes.length vc, .int .i64 (roadOf s.direct false : Nat), .bool false] 25)) w4.heap.size 25 #[.int .i64 (s.most room : Nat), .int .i64 (s.copyCode room false : Nat), .slice GA (s.most room) gc, .slice BA buf.length bc, .slice AA asked.length ac, .slice VA writes.length vc, .int .i64 (roadOf s.direct false : Nat), .bool false] := At.made _ _ _
  have HB5 := hide (HBUF.out.laid (.cells #[.int .i64 (s.most room : Nat), .int .i64 (s.copyCode room false : Nat), .slice GA (s.most room) gc, .slice BA buf.length bc, .slice AA asked.length ac, .slice VA writes.length vc, .int .i64 (roadOf s.direct false : Nat), .bool false] 25))
  generalize w4.alloc (.cells #[.int .i64 (s.most room : Nat), .int .i64 (s.copyCode room false : Nat), .slice GA (s.most room) gc, .slice BA buf.length bc, .slice AA asked.length ac, .slice VA writes.length vc, .int .i64 (roadOf s.direct false : Nat), .bool false] 25) = w5 at *
  generalize w4.heap.size = K at *
  have x3 := hK.get 3
  have x7 := hK.get 7
  clear hK HBUF HN4
  go_wp2_with fail
  refine (sameBytes_eq rfl HB5.out (HTB.out.new HN5.out) (by omega)).mono ?_
  rintro e w6 ⟨rfl, q, rfl⟩
  go_wp2
  go_ret
  exact ⟨rfl, new_drN HN5.out _⟩

set_option maxHeartbeats 1000000 in
theorem unused_false_false {w : World} {s : Src} {DA PA TA : Option Addr} {dc pc tc : Nat} {room : Int} {buf : List Int} {E : Nat → Addr} (hd : Sl w 1 DA s.data.length (s.data.map (Value.int .u8))) (hDn : DA = none → dc = 0)
    (hp : Sl w 1 PA s.pieces.length (s.pieces.map (Value.int .i64))) (hPn : PA = none → pc = 0) (ht : Sl w 1 TA buf.length (buf.map (Value.int .u8))) (hTn : TA = none → tc = 0) (hdir : s.direct = false) (hr1 : -9223372036854775808 ≤ room) (hr2 : room ≤ 9223372036854775807)
    (hdl : s.data.length ≤ 65536) (hpl : s.pieces.length ≤ 4096) (hb1 : 1 ≤ buf.length) (hb2 : buf.length ≤ 65536) (hE : Env w.heap.size E w) :
    Calls Tryd.prog 13 #[.slice DA s.data.length dc, .slice PA s.pieces.length pc, .bool s.together, .bool s.broken, .int .i64 room, .bool false, .bool false, .slice TA buf.length tc] w fun e w' => e = .returned (.bool true) ∧ New w w' := by
  have HSRC : Hid (∀ W, Sl W 1 DA s.data.length (s.data.map (Value.int .u8)) → Sl W 1 PA s.pieces.length (s.pieces.map (Value.int .i64)) → Calls Tryd.prog 15 #[.slice DA s.data.length dc, .slice PA s.pieces.length pc, .bool s.together, .bool s.broken, .bool false] W (SourcePost s W)) := by
    intro W h1 h2
    have := source_any (s := s) h1 hDn h2 hPn (by omega) (by omega)
    rwa [hdir] at this
  have HRO : Hid (roadOf s.direct true ≠ 0) := by show roadOf s.direct true ≠ 0; rw [hdir]; decide
  have HD := hide hd; have HP := hide hp; have HTB := hide ht; have HTN := hide hTn; have HE := hide hE; have HDIR := hide hdir
  clear hd hp hDn hPn hE hdir ht hTn
  have hnotT : ∀ (x : Bool) (w : World), (Op.unary .not (.bool x)).run Tryd.prog w = .ok (.bool (!x)) w := fun _ _ => rfl
  have hb1i : ¬ ((buf.length : Int) < 1) := by omega
  go_enter Tryd.func13, Tryd.ntmps13
  go_wp2_with fail
  refine (HSRC.out _ HD.out HP.out).mono ?_
  rintro e w2 ⟨dv, pv, rfl, hdv, hpv, hN2⟩
  obtain ⟨A1, k1, rfl, hn1, hs1⟩ := Sl.of_own hdv
  obtain ⟨A2, k2, rfl, hn2, hs2⟩ := Sl.of_own hpv
  have HN2 := hide hN2
  have HS1 := hide hs1; have HS2 := hide hs2; have HK1 := hide hn1; have HK2 := hide hn2
  clear hdv hpv hN2 hs1 hs2 hn1 hn2
  go_wp2_with (at_builtin; (with_reducible refine wpList_append_empty rfl (.tmp 50) (.tmp 51) 22 rfl 5 (.int .u8 0) 1 1 Tryd.underlying22 info5 rfl (by decide) _ rfl TA buf.length tc (buf.map (Value.int .u8)) rfl HTN.out ?c1 (ints_oneCell _ _) ?c3 ?c4 rfl ?_))
  case c1 => exact HTB.out.new HN2.out
  case c3 => unfold maxLen; omega
  case c4 => omega
  intro bv w3 hbv hN3 hlt3
  obtain ⟨B3, b3, rfl, hbn, hbs⟩ := Sl.of_own hbv
  have HN3 := hide (new_trans HN2.out hN3)
  have HS13 := hide (HS1.out.new hN3); have HS23 := hide (HS2.out.new hN3); have HBS := hide hbs; have HBN := hide hbn
  clear hbv hN3 hlt3 hbs hbn HS1 HS2 HN2
  go_wp2_with fail
  refine (impl_any (s := s) (E := E) (taking := true) HS13.out HK1.out HS23.out HK2.out HBS.out HBN.out (by exact (HE.out.below HN3.out).up HN3.out.size) (by omega) (by omega) hr1 hr2 (by omega) (by omega)).mono ?_
  rintro e w4 ⟨gv, bv, av, wv, asked, writes, rfl, hg, ha, hw, hT, ⟨BA, bc, rfl, hB⟩, hN4⟩
  obtain ⟨GA, gc, rfl, -, -⟩ := Sl.of_own hg
  obtain ⟨AA, ac, rfl, -, -⟩ := Sl.of_own ha
  obtain ⟨VA, vc, rfl, -, -⟩ := Sl.of_own hw
  have HN4 := hide (new_trans HN3.out hN4)
  have HBUF := hide (hB rfl HRO.out)
  clear hg ha hw hT hB hN4 HS13 HS23 HK1 HK2 HBS HBN HN3
  simp only [Bool.false_eq_true, if_false]
  go_upto_region 6 with (fail)
  have HN5 := hide (new_al HN4.out (.cells #[.int .i64 (s.most room : Nat), .int .i64 (s.copyCode room false : Nat), .slice GA (s.most room) gc, .slice BA buf.length bc, .slice AA asked.length ac, .slice VA writes.length vc, .int .i64 (roadOf s.direct true : Nat), .bool false] 25))
  have hK : At (w4.alloc (.cells #[.int .i64 (s.most room : Nat), .int .i64 (s.copyCode room false : Nat), .slice GA (s.most room) gc, .slice BA buf.length bc, .slice AA asked.length ac, .slice VA writes.length vc, .int .i64 (roadOf s.direct true : Nat), .bool false] 25)) w4.heap.size 25 #[.int .i64 (s.most room : Nat), .int .i64 (s.copyCode room false : Nat), .slice GA (s.most room) gc, .slice BA buf.length bc, .slice AA asked.length ac, .slice VA writes.length vc, .int .i64 (roadOf s.direct true : Nat), .bool false] := At.made _ _ _
  have HB5 := hide (HBUF.out.laid (.cells #[.int .i64 (s.most room : Nat), .int .i64 (s.copyCode room false : Nat), .slice GA (s.most room) gc, .slice BA buf.length bc, .slice AA asked.length ac, .slice VA writes.length vc, .int .i64 (roadOf s.direct true : Nat), .bool false] 25))
  generalize w4.alloc (.cells #[.int .i64 (s.most room : Nat), .int .i64 (s.copyCode room false : Nat), .slice GA (s.most room) gc, .slice BA buf.length bc, .slice AA asked.length ac, .slice VA writes.length vc, .int .i64 (roadOf s.direct true : Nat), .bool false] 25) = w5 at *
  generalize w4.heap.size = K at *
  have x3 := hK.get 3
  have x7 := hK.get 7
  clear hK HBUF HN4
  go_wp2_with fail
  refine (sameBytes_eq rfl HB5.out (HTB.out.new HN5.out) (by omega)).mono ?_
  rintro e w6 ⟨rfl, q, rfl⟩
  go_wp2
  go_ret
  exact ⟨rfl, new_drN HN5.out _⟩

theorem fnCopyBufferUnused_walk {w : World} {s : Src} {DA PA TA : Option Addr} {dc pc tc : Nat} {room : Int} {both direct : Bool} {buf : List Int} {E : Nat → Addr} (hd : Sl w 1 DA s.data.length (s.data.map (Value.int .u8))) (hDn : DA = none → dc = 0)
    (hp : Sl w 1 PA s.pieces.length (s.pieces.map (Value.int .i64))) (hPn : PA = none → pc = 0) (ht : Sl w 1 TA buf.length (buf.map (Value.int .u8))) (hTn : TA = none → tc = 0) (hdir : s.direct = (direct || both)) (hr : -9223372036854775808 ≤ room ∧ room ≤ 9223372036854775807) (hE : Env w.heap.size E w) :
    Calls Tryd.prog 13 #[.slice DA s.data.length dc, .slice PA s.pieces.length pc, .bool s.together, .bool s.broken, .int .i64 room, .bool both, .bool direct, .slice TA buf.length tc] w fun e w' => e = .returned (.bool true) ∧ New w w' := by
  by_cases c1 : s.data.length ≤ 65536
  · by_cases c2 : s.pieces.length ≤ 4096
    · by_cases c3 : 1 ≤ buf.length
      · by_cases c4 : buf.length ≤ 65536
        · cases both with
          | true =>
            cases direct with
            | true => exact unused_true_true hd hDn hp hPn ht hTn hdir hr.1 hr.2 c1 c2 c3 c4 hE
            | false => exact unused_true_false hd hDn hp hPn ht hTn hdir hr.1 hr.2 c1 c2 c3 c4 hE
          | false =>
            cases direct with
            | true => exact unused_false_true hd hDn hp hPn ht hTn hdir hr.1 hr.2 c1 c2 c3 c4 hE
            | false => exact unused_false_false hd hDn hp hPn ht hTn hdir hr.1 hr.2 c1 c2 c3 c4 hE
        · clear hd hDn hp hPn hE ht hTn hdir
          have c3' : ¬ ((buf.length : Int) < 1) := by omega
          go_enter Tryd.func13, Tryd.ntmps13
          go_wp2
          go_ret
          exact ⟨rfl, new_refl _⟩
      · clear hd hDn hp hPn hE ht hTn hdir
        have c3' : (buf.length : Int) < 1 := by omega
        generalize buf.length = n at *
        go_enter Tryd.func13, Tryd.ntmps13
        go_wp2
        go_ret
        exact ⟨rfl, new_refl _⟩
    · clear hd hDn hp hPn hE ht hTn hdir
      go_enter Tryd.func13, Tryd.ntmps13
      go_wp2
      go_ret
      exact ⟨rfl, new_refl _⟩
  · clear hd hDn hp hPn hE ht hTn hdir
    go_enter Tryd.func13, Tryd.ntmps13
    go_wp2
    go_ret
    exact ⟨rfl, new_refl _⟩

end Go.Proofs.YtnbhhckempbimaaDoor
