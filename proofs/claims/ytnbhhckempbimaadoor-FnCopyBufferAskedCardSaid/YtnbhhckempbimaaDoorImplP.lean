/-
  What impl.CopyBuffer returns for an empty buffer that is not nil: it panics within, and recovers.
-/
import Derived.Test.YtnbhhckempbimaaDoorImpl
namespace Go.Proofs.YtnbhhckempbimaaDoor
open Go.RowKit
set_option linter.unusedVariables false
set_option maxRecDepth 100000

theorem wpList_append_naught {P : Program} {w : World} {ops : Array Oper} {rest : List Oper} {o : Oper} {a : Act} {Q : Exit → Act → World → Prop} (hgd : o.guard = none) (s x : Operand) (t : TypeId)
    (ho : o.op = .call { callee := .builtin .append, args := #[s, x], argTypes := #[t, t] })
    (e : TypeId) (z : Value) (size bytes : Nat) (ht : P.underlying t = some (.slice e)) (hinfo : (P.info? e).map (fun i => (i.zero, i.size, i.bytes)) = some (some z, size, bytes))
    (g : Nat) (hs : a.eval s = .slice (some ⟨g, 0, none⟩) 0 0) (ad : Addr) (c : Nat) (hx : a.eval x = .slice (some ad) 0 c)
    (h : wpList P ops Q rest (a.put o.dst (.slice (some ⟨g, 0, none⟩) 0 0)) w) : wpList P ops Q (o :: rest) a w := by
  obtain ⟨i, hi, hz, h2, h3⟩ := info_parts hinfo
  refine wpList_plain hgd fun _ hK => ?_
  have hrun := run_append_room_cells (P := P) w t o.type e i ht hi g 0 0 0 ad 0 c [] (by simp) (by simp) (by simp) (Nat.le_refl _) (by simp) (by simp)
  unfold Oper.wp execOp
  simp only [ho, resolve, invoke, builtin, Sem.run_bind, Sem.run_pure, Result.andThen_ok, List.map_toArray, List.map_cons, List.map_nil, hs, hx, hrun]
  exact hK _ _ h

/-- What impl.CopyBuffer returns behind the panic. -/
def PanicPost (w : World) (e : Ending) (w' : World) : Prop :=
  ∃ A n c, e = .returned (.agg #[.int .i64 0, .int .i64 0, .slice none 0 0, .slice A n c, .slice none 0 0, .slice none 0 0, .int .i64 0, .bool true]) ∧ New w w'

set_option maxHeartbeats 2000000 in
theorem impl_panic_false {w : World} {s : Src} {DA PA : Option Addr} {bad : Addr} {dc pc bc : Nat} {room : Int} {quiet : Bool} {E : Nat → Addr} (hd : Sl w 1 DA s.data.length (s.data.map (Value.int .u8))) (hDn : DA = none → dc = 0)
    (hp : Sl w 1 PA s.pieces.length (s.pieces.map (Value.int .i64))) (hPn : PA = none → pc = 0) (hE : Env w.heap.size E w)
    (hr1 : -9223372036854775808 ≤ room) (hr2 : room ≤ 9223372036854775807) (hdl : s.data.length ≤ 1000000) (hpl : s.pieces.length ≤ 1000000) :
    Calls Tryd.prog 14 #[.agg #[.slice DA s.data.length dc, .slice PA s.pieces.length pc, .bool s.together, .bool s.broken, .bool s.direct], .agg #[.int .i64 room, .bool quiet, .bool false], .slice (some bad) 0 bc, .bool false] w (PanicPost w) := by
  have HD := hide hd; have HP := hide hp; have HDN := hide hDn; have HPN := hide hPn; have HE := hide hE
  clear hd hp hDn hPn hE
  have hmf := mkF
  have hnot : ∀ (x : Bool) (w : World), (Op.unary .not (.bool x)).run Tryd.prog w = .ok (.bool (!x)) w := fun _ _ => rfl
  go_enter_defers Tryd.func14, Tryd.ntmps14
  go_wp2_with fail
  refine (open_any (s := s) (by exact ((HD.out.laid _).laid _).laid _) HDN.out (by exact ((HP.out.laid _).laid _).laid _) HPN.out (by omega) (by omega)).mono ?_
  rintro e w1 ⟨rb, dv, pv, rfl, hRd, hN1⟩
  have hN : New w w1 := new_trans (new_al (new_al (new_alloc _ _) _) _) hN1
  have hR0 : Rd w.heap.size w1 rb s dv pv (.slice none 0 0) 0 0 [] := hRd.mono (by simp; omega)
  have hsk : At w1 (w.heap.size + 1) 31 #[.int .i64 room, .bool quiet, .bool false] := At.new ((At.made' (by simp) _ _).laid _) hN1
  have hou : At w1 (w.heap.size + 2) 25 #[.int .i64 0, .int .i64 0, .slice none 0 0, .slice none 0 0, .slice none 0 0, .slice none 0 0, .int .i64 0, .bool false] := At.new (At.made' (by simp) _ _) hN1
  have k0 := hsk.get 0
  have k1 := hsk.get 1
  have k2 := hsk.get 2
  have u3 := hou.get 3
  have y3 := hou.soft 3
  have hls := hsk.size_lt
  have hlo := hou.size_lt
  have HR0 := hide hR0; have HN := hide hN; have HSK := hide hsk; have HOU := hide hou
  clear hRd hN1 hR0 hN hsk hou
  go_upto_region 4 with (fail)
  have hN2 : New w1 (((w1.alloc (.cells #[.pointer (some ⟨rb, 0, none⟩)] 49)).alloc (.cells #[.int .i64 room, .bool quiet, .bool false, .slice none 0 0, .slice none 0 0] 57)).alloc (.cells #[.pointer (some ⟨w1.heap.size + 1, 0, none⟩)] 55)) := new_al (new_al (new_alloc _ _) _) _
  have hrx : At (((w1.alloc (.cells #[.pointer (some ⟨rb, 0, none⟩)] 49)).alloc (.cells #[.int .i64 room, .bool quiet, .bool false, .slice none 0 0, .slice none 0 0] 57)).alloc (.cells #[.pointer (some ⟨w1.heap.size + 1, 0, none⟩)] 55)) w1.heap.size 49 #[.pointer (some ⟨rb, 0, none⟩)] := ((At.made _ _ _).laid _).laid _
  have hwb : At (((w1.alloc (.cells #[.pointer (some ⟨rb, 0, none⟩)] 49)).alloc (.cells #[.int .i64 room, .bool quiet, .bool false, .slice none 0 0, .slice none 0 0] 57)).alloc (.cells #[.pointer (some ⟨w1.heap.size + 1, 0, none⟩)] 55)) (w1.heap.size + 1) 57 #[.int .i64 room, .bool quiet, .bool false, .slice none 0 0, .slice none 0 0] := (At.made' (by simp) _ _).laid _
  have hwx : At (((w1.alloc (.cells #[.pointer (some ⟨rb, 0, none⟩)] 49)).alloc (.cells #[.int .i64 room, .bool quiet, .bool false, .slice none 0 0, .slice none 0 0] 57)).alloc (.cells #[.pointer (some ⟨w1.heap.size + 1, 0, none⟩)] 55)) (w1.heap.size + 1 + 1) 55 #[.pointer (some ⟨w1.heap.size + 1, 0, none⟩)] := At.made' (by simp) _ _
  generalize ((w1.alloc (.cells #[.pointer (some ⟨rb, 0, none⟩)] 49)).alloc (.cells #[.int .i64 room, .bool quiet, .bool false, .slice none 0 0, .slice none 0 0] 57)).alloc (.cells #[.pointer (some ⟨w1.heap.size + 1, 0, none⟩)] 55) = w2 at *
  have hw1s := HN.out.size
  generalize hrxe : w1.heap.size = rx at *
  generalize hwbe : rx + 1 = wb at *
  generalize hwxe : wb + 1 = wx at *
  have HN2 := hide (new_trans HN.out hN2)
  generalize hobe : w.heap.size + 1 + 1 = ob at *
  have HOB : Hid (w.heap.size ≤ ob) := by show w.heap.size ≤ ob; omega
  have hwbb : w.heap.size ≤ wb := by omega
  have HRD : Hid (Ready w.heap.size w2 rb wb ob rx wx s dv pv room quiet false #[.int .i64 0, .int .i64 0, .slice none 0 0, .slice none 0 0, .slice none 0 0, .slice none 0 0, .int .i64 0, .bool false]) :=
    ⟨HR0.out.new hN2, ⟨hwb, World.ownsRow_nil _ _ _ _, World.ownsRow_nil _ _ _ _, hwbb⟩, HOU.out.new hN2, hrx, hwx⟩
  have k2' := (HSK.out.new hN2).get 2
  have wx0 := hwx.get 0
  have hlo2 := HRD.out.out.size_lt
  have o3 := HRD.out.out.get 3
  have p3 := HRD.out.out.soft 3
  clear k0 k1 k2 u3 y3 hls hlo HR0 HN HSK HOU hrx hwb hwx hN2 hrxe hwbe hwxe hw1s hwbb
  go_wp2_with (at_builtin; (with_reducible refine wpList_append_naught rfl (.tmp 34) (.tmp 35) 22 rfl 5 (.int .u8 0) 1 1 Tryd.underlying22 info5 _ rfl bad bc rfl ?_))
  have HRD4 := hide ((HRD.out.put 3 (.slice (some ⟨w2.heap.size, 0, none⟩) 0 0)).new (new_alloc _ (.cells #[] 5)))
  have HT4 : Hid (Turns (fun k => w.heap.size ≤ k) w ((w2.setCell ⟨ob, 3, none⟩ (.slice (some ⟨w2.heap.size, 0, none⟩) 0 0)).alloc (.cells #[] 5))) := ((Turns.of_new HN2.out (fun k => w.heap.size ≤ k)).setCell (fun _ => HOB.out) _).alloc _
  go_wp2_with fail
  clear HRD HN2 wx0 o3 p3 k2' hlo2
  generalize w2.heap.size = H at *
  generalize (w2.setCell ⟨ob, 3, none⟩ (.slice (some ⟨H, 0, none⟩) 0 0)).alloc (.cells #[] 5) = w4 at *
  refine copy22_panic.mono ?_
  rintro e w5 ⟨⟨pt, px, rfl⟩, rfl⟩
  go_wp2
  have hat8 : At w4 ob 25 #[.int .i64 0, .int .i64 0, .slice none 0 0, .slice (some ⟨H, 0, none⟩) 0 0, .slice none 0 0, .slice none 0 0, .int .i64 0, .bool false] := HRD4.out.out
  have HCL := hide (closure_panic (pt := pt) (px := px) hat8 HRD4.out.rx HRD4.out.wx HRD4.out.rd.blk HRD4.out.wr.blk ⟨_, _, _, rfl⟩ ⟨_, _, _, rfl⟩ ⟨_, _, _, rfl⟩ ⟨_, _, _, rfl⟩ ⟨_, _, _, rfl⟩ ⟨_, _, _, rfl⟩ ⟨_, rfl⟩)
  refine bodyPostD_panic ?_
  refine leaves_cons (f := 21) (args := #[.pointer (some ⟨ob, 0, none⟩), .pointer (some ⟨wx, 0, none⟩), .pointer (some ⟨rx, 0, none⟩)]) (fun h => by cases h) (inv21 _ _ _ _) ?_
  refine HCL.out.mono ?_
  rintro e u' w9 ⟨rfl, rfl, hat9, hT9⟩
  have r0 := hat9.get 0
  have r1 := hat9.get 1
  have r2 := hat9.get 2
  have r3 := hat9.get 3
  have r4 := hat9.get 4
  have r5 := hat9.get 5
  have r6 := hat9.get 6
  have r7 := hat9.get 7
  refine ⟨.agg #[.int .i64 0, .int .i64 0, .slice none 0 0, .slice (some ⟨H, 0, none⟩) 0 0, .slice none 0 0, .slice none 0 0, .int .i64 0, .bool true], by simp [results, Tryd.results14, go_sem, r0, r1, r2, r3, r4, r5, r6, r7], ?_⟩
  exact ⟨_, _, _, rfl, (Turns.trans HT4.out hT9 (fun i _ e => by rw [e]; exact HOB.out)).below (Nat.le_refl _) (fun i hi h => by omega)⟩

set_option maxHeartbeats 2000000 in
theorem impl_panic_true {w : World} {s : Src} {DA PA : Option Addr} {bad : Addr} {dc pc bc : Nat} {room : Int} {quiet : Bool} {E : Nat → Addr} (hd : Sl w 1 DA s.data.length (s.data.map (Value.int .u8))) (hDn : DA = none → dc = 0)
    (hp : Sl w 1 PA s.pieces.length (s.pieces.map (Value.int .i64))) (hPn : PA = none → pc = 0) (hE : Env w.heap.size E w)
    (hr1 : -9223372036854775808 ≤ room) (hr2 : room ≤ 9223372036854775807) (hdl : s.data.length ≤ 1000000) (hpl : s.pieces.length ≤ 1000000) :
    Calls Tryd.prog 14 #[.agg #[.slice DA s.data.length dc, .slice PA s.pieces.length pc, .bool s.together, .bool s.broken, .bool s.direct], .agg #[.int .i64 room, .bool quiet, .bool true], .slice (some bad) 0 bc, .bool false] w (PanicPost w) := by
  have HD := hide hd; have HP := hide hp; have HDN := hide hDn; have HPN := hide hPn; have HE := hide hE
  clear hd hp hDn hPn hE
  have hmf := mkF
  have hnot : ∀ (x : Bool) (w : World), (Op.unary .not (.bool x)).run Tryd.prog w = .ok (.bool (!x)) w := fun _ _ => rfl
  go_enter_defers Tryd.func14, Tryd.ntmps14
  go_wp2_with fail
  refine (open_any (s := s) (by exact ((HD.out.laid _).laid _).laid _) HDN.out (by exact ((HP.out.laid _).laid _).laid _) HPN.out (by omega) (by omega)).mono ?_
  rintro e w1 ⟨rb, dv, pv, rfl, hRd, hN1⟩
  have hN : New w w1 := new_trans (new_al (new_al (new_alloc _ _) _) _) hN1
  have hR0 : Rd w.heap.size w1 rb s dv pv (.slice none 0 0) 0 0 [] := hRd.mono (by simp; omega)
  have hsk : At w1 (w.heap.size + 1) 31 #[.int .i64 room, .bool quiet, .bool true] := At.new ((At.made' (by simp) _ _).laid _) hN1
  have hou : At w1 (w.heap.size + 2) 25 #[.int .i64 0, .int .i64 0, .slice none 0 0, .slice none 0 0, .slice none 0 0, .slice none 0 0, .int .i64 0, .bool false] := At.new (At.made' (by simp) _ _) hN1
  have k0 := hsk.get 0
  have k1 := hsk.get 1
  have k2 := hsk.get 2
  have u3 := hou.get 3
  have y3 := hou.soft 3
  have hls := hsk.size_lt
  have hlo := hou.size_lt
  have HR0 := hide hR0; have HN := hide hN; have HSK := hide hsk; have HOU := hide hou
  clear hRd hN1 hR0 hN hsk hou
  go_upto_region 4 with (fail)
  have hN2 : New w1 (((w1.alloc (.cells #[.pointer (some ⟨rb, 0, none⟩)] 49)).alloc (.cells #[.int .i64 room, .bool quiet, .bool true, .slice none 0 0, .slice none 0 0] 57)).alloc (.cells #[.pointer (some ⟨w1.heap.size + 1, 0, none⟩)] 55)) := new_al (new_al (new_alloc _ _) _) _
  have hrx : At (((w1.alloc (.cells #[.pointer (some ⟨rb, 0, none⟩)] 49)).alloc (.cells #[.int .i64 room, .bool quiet, .bool true, .slice none 0 0, .slice none 0 0] 57)).alloc (.cells #[.pointer (some ⟨w1.heap.size + 1, 0, none⟩)] 55)) w1.heap.size 49 #[.pointer (some ⟨rb, 0, none⟩)] := ((At.made _ _ _).laid _).laid _
  have hwb : At (((w1.alloc (.cells #[.pointer (some ⟨rb, 0, none⟩)] 49)).alloc (.cells #[.int .i64 room, .bool quiet, .bool true, .slice none 0 0, .slice none 0 0] 57)).alloc (.cells #[.pointer (some ⟨w1.heap.size + 1, 0, none⟩)] 55)) (w1.heap.size + 1) 57 #[.int .i64 room, .bool quiet, .bool true, .slice none 0 0, .slice none 0 0] := (At.made' (by simp) _ _).laid _
  have hwx : At (((w1.alloc (.cells #[.pointer (some ⟨rb, 0, none⟩)] 49)).alloc (.cells #[.int .i64 room, .bool quiet, .bool true, .slice none 0 0, .slice none 0 0] 57)).alloc (.cells #[.pointer (some ⟨w1.heap.size + 1, 0, none⟩)] 55)) (w1.heap.size + 1 + 1) 55 #[.pointer (some ⟨w1.heap.size + 1, 0, none⟩)] := At.made' (by simp) _ _
  generalize ((w1.alloc (.cells #[.pointer (some ⟨rb, 0, none⟩)] 49)).alloc (.cells #[.int .i64 room, .bool quiet, .bool true, .slice none 0 0, .slice none 0 0] 57)).alloc (.cells #[.pointer (some ⟨w1.heap.size + 1, 0, none⟩)] 55) = w2 at *
  have hw1s := HN.out.size
  generalize hrxe : w1.heap.size = rx at *
  generalize hwbe : rx + 1 = wb at *
  generalize hwxe : wb + 1 = wx at *
  have HN2 := hide (new_trans HN.out hN2)
  generalize hobe : w.heap.size + 1 + 1 = ob at *
  have HOB : Hid (w.heap.size ≤ ob) := by show w.heap.size ≤ ob; omega
  have hwbb : w.heap.size ≤ wb := by omega
  have HRD : Hid (Ready w.heap.size w2 rb wb ob rx wx s dv pv room quiet true #[.int .i64 0, .int .i64 0, .slice none 0 0, .slice none 0 0, .slice none 0 0, .slice none 0 0, .int .i64 0, .bool false]) :=
    ⟨HR0.out.new hN2, ⟨hwb, World.ownsRow_nil _ _ _ _, World.ownsRow_nil _ _ _ _, hwbb⟩, HOU.out.new hN2, hrx, hwx⟩
  have k2' := (HSK.out.new hN2).get 2
  have wx0 := hwx.get 0
  have hlo2 := HRD.out.out.size_lt
  have o3 := HRD.out.out.get 3
  have p3 := HRD.out.out.soft 3
  clear k0 k1 k2 u3 y3 hls hlo HR0 HN HSK HOU hrx hwb hwx hN2 hrxe hwbe hwxe hw1s hwbb
  go_wp2_with (at_builtin; (with_reducible refine wpList_append_naught rfl (.tmp 34) (.tmp 35) 22 rfl 5 (.int .u8 0) 1 1 Tryd.underlying22 info5 _ rfl bad bc rfl ?_))
  have HRD4 := hide ((HRD.out.put 3 (.slice (some ⟨w2.heap.size, 0, none⟩) 0 0)).new (new_alloc _ (.cells #[] 5)))
  have HT4 : Hid (Turns (fun k => w.heap.size ≤ k) w ((w2.setCell ⟨ob, 3, none⟩ (.slice (some ⟨w2.heap.size, 0, none⟩) 0 0)).alloc (.cells #[] 5))) := ((Turns.of_new HN2.out (fun k => w.heap.size ≤ k)).setCell (fun _ => HOB.out) _).alloc _
  go_wp2_with fail
  clear HRD HN2 wx0 o3 p3 k2' hlo2
  generalize w2.heap.size = H at *
  generalize (w2.setCell ⟨ob, 3, none⟩ (.slice (some ⟨H, 0, none⟩) 0 0)).alloc (.cells #[] 5) = w4 at *
  refine copy22_panic.mono ?_
  rintro e w5 ⟨⟨pt, px, rfl⟩, rfl⟩
  go_wp2
  have hat8 : At w4 ob 25 #[.int .i64 0, .int .i64 0, .slice none 0 0, .slice (some ⟨H, 0, none⟩) 0 0, .slice none 0 0, .slice none 0 0, .int .i64 0, .bool false] := HRD4.out.out
  have HCL := hide (closure_panic (pt := pt) (px := px) hat8 HRD4.out.rx HRD4.out.wx HRD4.out.rd.blk HRD4.out.wr.blk ⟨_, _, _, rfl⟩ ⟨_, _, _, rfl⟩ ⟨_, _, _, rfl⟩ ⟨_, _, _, rfl⟩ ⟨_, _, _, rfl⟩ ⟨_, _, _, rfl⟩ ⟨_, rfl⟩)
  refine bodyPostD_panic ?_
  refine leaves_cons (f := 21) (args := #[.pointer (some ⟨ob, 0, none⟩), .pointer (some ⟨wx, 0, none⟩), .pointer (some ⟨rx, 0, none⟩)]) (fun h => by cases h) (inv21 _ _ _ _) ?_
  refine HCL.out.mono ?_
  rintro e u' w9 ⟨rfl, rfl, hat9, hT9⟩
  have r0 := hat9.get 0
  have r1 := hat9.get 1
  have r2 := hat9.get 2
  have r3 := hat9.get 3
  have r4 := hat9.get 4
  have r5 := hat9.get 5
  have r6 := hat9.get 6
  have r7 := hat9.get 7
  refine ⟨.agg #[.int .i64 0, .int .i64 0, .slice none 0 0, .slice (some ⟨H, 0, none⟩) 0 0, .slice none 0 0, .slice none 0 0, .int .i64 0, .bool true], by simp [results, Tryd.results14, go_sem, r0, r1, r2, r3, r4, r5, r6, r7], ?_⟩
  exact ⟨_, _, _, rfl, (Turns.trans HT4.out hT9 (fun i _ e => by rw [e]; exact HOB.out)).below (Nat.le_refl _) (fun i hi h => by omega)⟩

end Go.Proofs.YtnbhhckempbimaaDoor
