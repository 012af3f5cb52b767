/-
  What io.NopCloser returns, and what a step that reads or closes does.
-/
import Derived.Test.YtdcdbbcphkhmeaaDoorOpen
import Derived.Stop.Asserts
namespace Go.Proofs.YtdcdbbcphkhmeaaDoor
open Go.RowKit
set_option linter.unusedVariables false
set_option maxRecDepth 100000
attribute [local go_sem 10000] run_imin run_imax

/-- What io.NopCloser makes of a reader. -/
def closer (direct : Bool) (rb : Nat) (road : Value) : Value := .iface (if direct then 63 else 64) (.agg #[handOn direct rb road])

theorem assert_direct (v : Value) (w : World) : (Instr.typeAssert (.iface 58 v) 45 60 true).run Tryd.prog w = .ok (.tuple #[.iface 58 v, .bool true]) w := by kernel_rfl
theorem assert_plain (v : Value) (w : World) : (Instr.typeAssert (.iface 43 v) 45 60 true).run Tryd.prog w = .ok (.tuple #[.nilIface, .bool false]) w := run_typeAssert_lacksB Tryd.underlying60 (by kernel_rfl) (by kernel_rfl) v _ w

theorem nop_true (rb : Nat) (ra : Option Addr) (w : World) :
    Calls Tryd.prog 12 #[handOn true rb (.pointer ra)] w fun e w' => e = .returned (closer true rb (.pointer ra)) ∧ w = w' := by
  unfold handOn closer
  have ha := assert_direct
  go_enter Tryd.func12, Tryd.ntmps12
  go_wp2
  go_ret
  exact ⟨rfl, rfl⟩

theorem nop_false (rb : Nat) (ra : Option Addr) (w : World) :
    Calls Tryd.prog 12 #[handOn false rb (.pointer ra)] w fun e w' => e = .returned (closer false rb (.pointer ra)) ∧ w = w' := by
  unfold handOn closer
  have ha := assert_plain
  go_enter Tryd.func12, Tryd.ntmps12
  go_wp2
  go_ret
  exact ⟨rfl, rfl⟩

theorem nop_any (direct : Bool) (rb : Nat) (ra : Option Addr) (w : World) :
    Calls Tryd.prog 12 #[handOn direct rb (.pointer ra)] w fun e w' => e = .returned (closer direct rb (.pointer ra)) ∧ w = w' := by
  cases direct
  · exact nop_false rb ra w
  · exact nop_true rb ra w

theorem meth_read_plain (a : Addr) (w : World) : (method 200 64 (.agg #[.iface 43 (.pointer (some a))]) "Read").run Tryd.prog w = .ok (31, .pointer (some a)) w := by kernel_rfl
theorem meth_read_direct (a : Addr) (r : Value) (w : World) : (method 200 63 (.agg #[.iface 58 (.agg #[.pointer (some a), r])]) "Read").run Tryd.prog w = .ok (31, .pointer (some a)) w := by kernel_rfl

theorem meth_close_plain (v : Value) (w : World) : (method 200 64 (.agg #[v]) "Close").run Tryd.prog w = .ok (36, .agg #[v]) w := by kernel_rfl
theorem meth_close_direct (v : Value) (w : World) : (method 200 63 (.agg #[v]) "Close").run Tryd.prog w = .ok (34, .agg #[v]) w := by kernel_rfl
theorem callRead (args : Array Value) (w : World) : (callFunc 31 args).run Tryd.prog w = .ok (.enter 31 args) w := by kernel_rfl
theorem callClose1 (args : Array Value) (w : World) : (callFunc 36 args).run Tryd.prog w = .ok (.enter 36 args) w := by kernel_rfl
theorem callClose2 (args : Array Value) (w : World) : (callFunc 34 args).run Tryd.prog w = .ok (.enter 34 args) w := by kernel_rfl

theorem close_plain (v : Value) (w : World) : Calls Tryd.prog 36 #[.agg #[v]] w fun e w' => e = .returned .nilIface ∧ New w w' := by
  go_enter Tryd.func36, Tryd.ntmps36
  go_wp2
  go_ret
  exact ⟨rfl, new_alloc _ _⟩
theorem close_direct (v : Value) (w : World) : Calls Tryd.prog 34 #[.agg #[v]] w fun e w' => e = .returned .nilIface ∧ New w w' := by
  go_enter Tryd.func34, Tryd.ntmps34
  go_wp2
  go_ret
  exact ⟨rfl, new_alloc _ _⟩

theorem run_mk (m : Nat) (hm : m ≤ 1000000000) (W : World) : (Instr.makeSlice 22 (.int .i64 (m : Int)) (.int .i64 (m : Int))).run Tryd.prog W = .ok (.slice (some ⟨W.heap.size, 0, none⟩) m m) (W.alloc (.cells (zeros m).toArray 5)) :=
  run_make_bytes 22 5 Tryd.underlying22 info5 m (by omega) W

theorem sl_of_splice {w : World} {g : Nat} {cur : List Value} {bs : List Int} (h : At w g 5 (splice cur 0 (bs.map (Value.int .u8))).toArray) : Sl w 1 (some ⟨g, 0, none⟩) bs.length (bs.map (Value.int .u8)) := by
  refine ⟨by simp, fun _ => ⟨_, rfl, h.size_lt, fun j u hu => ?_⟩⟩
  rw [add0, h.get]
  have hj : j < (bs.map (Value.int .u8)).length := (List.getElem?_eq_some_iff.1 hu).1
  simp only [splice, List.take_zero, List.nil_append, List.getElem?_toArray]
  rw [List.getElem?_append_left hj]
  exact hu

/-- What a step that reads leaves. -/
def StepPost (B rb : Nat) (s : Src) (dv pv av : Value) (at_ pc : Nat) (asked : List Int) (size : Nat) (w : World) (e : Ending) (w' : World) : Prop :=
  ∃ (A : Option Addr) (c : Nat) (av' : Value), e = .returned (.agg #[.slice A (s.read at_ pc size).bytes.length c, .int .i64 ((s.read at_ pc size).bytes.length : Nat), .int .i64 ((s.read at_ pc size).code : Nat), .bool true]) ∧
    Sl w' 1 A (s.read at_ pc size).bytes.length ((s.read at_ pc size).bytes.map (Value.int .u8)) ∧ (A = none → c = 0) ∧ (∀ ad, A = some ad → w.heap.size ≤ ad.block ∧ ∃ cs, At w' ad.block 5 cs) ∧
    Rd B w' rb s dv pv av' (s.read at_ pc size).at_ (s.read at_ pc size).pc (asked ++ [(size : Int)]) ∧ Near w av av' ∧ Turns (fun k => k = rb ∨ av.ownBlock = some k) w w'

set_option maxHeartbeats 1000000 in
theorem step_read {B rb at_ pc : Nat} {w : World} {s : Src} {dv pv av road : Value} {asked : List Int} {E : Nat → Addr} {z : Int} {direct : Bool} (h : Rd B w rb s dv pv av at_ pc asked) (hE : Env B E w)
    (ha : asked.length ≤ 900000000) (hle : at_ ≤ s.data.length) (hd : s.data.length ≤ 1000000000) (hpp : s.pieces.length ≤ 1000000000) (hz : z ≤ 65536) (hBw : B ≤ w.heap.size) :
    Calls Tryd.prog 13 #[closer direct rb road, .agg #[.int .i64 0, .int .i64 z]] w (StepPost B rb s dv pv av at_ pc asked z.toNat w) := by
  have hm0 : imax z 0 = ((z.toNat : Nat) : Int) := by have := imax_toNat z 0; simpa using this
  have hzn : z.toNat ≤ 65536 := by omega
  generalize z.toNat = m at *
  have H := hide h; have HE := hide hE
  clear h hE
  have hmk := run_mk m (by omega)
  cases direct
  case false =>
    unfold closer handOn
    have hme := meth_read_plain
    have hcf := callRead
    go_enter Tryd.func13, Tryd.ntmps13
    go_wp2_with fail
    have hN : New w ((w.alloc (.cells #[.int .i64 0, .int .i64 z] 26)).alloc (.cells #[.slice none 0 0, .int .i64 0, .int .i64 0, .bool false] 37)) := new_al (new_alloc _ _) _
    have hgb : At ((w.alloc (.cells #[.int .i64 0, .int .i64 z] 26)).alloc (.cells #[.slice none 0 0, .int .i64 0, .int .i64 0, .bool false] 37)) (w.heap.size + 1) 37 #[.slice none 0 0, .int .i64 0, .int .i64 0, .bool false] := At.made' (by simp) _ _
    have hws : w.heap.size + 2 = ((w.alloc (.cells #[.int .i64 0, .int .i64 z] 26)).alloc (.cells #[.slice none 0 0, .int .i64 0, .int .i64 0, .bool false] 37)).heap.size := by simp
    rw [hws]
    generalize (w.alloc (.cells #[.int .i64 0, .int .i64 z] 26)).alloc (.cells #[.slice none 0 0, .int .i64 0, .int .i64 0, .bool false] 37) = w1 at *
    have HN := hide hN; have HGB := hide hgb; have HWS := hide hws
    clear hN hgb hws
    have hR1 := H.out.turns (Turns.of_new HN.out (fun _ => False)) (fun h => h) (fun _ _ h => h) (fun _ _ h => h) (fun _ _ h => h)
    have hlt := HN.out.size
    refine (read_any (pb := w1.heap.size) (pcur := zeros m) (hR1.turns (Turns.of_new (new_alloc w1 _) (fun _ => False)) (fun h => h) (fun _ _ h => h) (fun _ _ h => h) (fun _ _ h => h)) ((HE.out.below (HN.out.mono hBw)).alloc _) (At.made _ _ _) (by omega) (by rw [zeros_length]; exact Nat.le_refl _) hle hd hpp (fun e => by have := (hR1.data.lt _ e).2; omega) (by omega)).mono ?_
    rintro e w2 ⟨av', rfl, hR2, hnear, htu, hp2⟩
    go_wp2_with fail
    have hlen := s.read_bytes_le at_ pc m
    have hcode := s.read_code at_ pc m
    have k4 := nErrs_ge
    have hE2 : Env B E w2 := ((HE.out.below (HN.out.mono hBw)).alloc _).turns htu (fun k hk => by
      rcases hk with rfl | rfl | hk
      · omega
      · exact H.out.base
      · exact (H.out.notes.lt k hk).1)
    have hgb2 : At w2 (w.heap.size + 1) 37 #[.slice none 0 0, .int .i64 0, .int .i64 0, .bool false] := (HGB.out.laid _).turns htu (by
      rintro (e | e | e)
      · have := HWS.out; omega
      · have := H.out.blk.size_lt; omega
      · have := (H.out.notes.lt _ e).2; omega)
    generalize hn : (s.read at_ pc m).bytes.length = n at *
    generalize hc : (s.read at_ pc m).code = code at *
    have hnl : (n : Int) ≤ (m : Int) := by omega
    have hn0 : (0 : Int) ≤ (n : Int) := by omega
    have g0 := hgb2.get 0
    have g1 := hgb2.get 1
    have g2 := hgb2.get 2
    have g3 := hgb2.get 3
    have z0 := hgb2.soft 0
    have z1 := hgb2.soft 1
    have z2 := hgb2.soft 2
    have z3 := hgb2.soft 3
    have HNN := hide hn; have HC := hide hc; have HR2 := hide hR2; have HNR := hide hnear; have HTU := hide htu; have HP2 := hide hp2; have HE2 := hide hE2; have HGB2 := hide hgb2
    clear hn hc hR2 hnear htu hp2 hE2 hgb2 hR1 hme hcf hmk
    have emin : Nat.min code 5 = code := Nat.min_eq_left (by omega)
    have HNUM : Hid (∀ W : World, Env B E W → Calls Tryd.prog 15 #[errVal E code] W fun e w' => e = .returned (.int .i64 (code : Nat)) ∧ W = w') := by
      intro W hW
      have := number hW code (by omega)
      rwa [emin] at this
    clear emin
    go_region_held3 (fun _ => True) (trivial)
      (first | (go_at_call 15; refine (HNUM.out _ (by exact HE2.out.drawn 1)).mono ?_; rintro e w' ⟨rfl, rfl⟩))
    go_wp2
    have hA3 := ((((Sole.start HGB2.out).put 0 (.slice (some ⟨w1.heap.size, 0, none⟩) n m)).put 1 (.int .i64 (n : Nat))).put 2 (.int .i64 (code : Nat))).put 3 (.bool true)
    generalize (((w2.setCell ⟨w.heap.size + 1, 0, none⟩ (.slice (some ⟨w1.heap.size, 0, none⟩) n m)).setCell ⟨w.heap.size + 1, 1, none⟩ (.int .i64 (n : Nat))).setCell ⟨w.heap.size + 1, 2, none⟩ (.int .i64 (code : Nat))).setCell ⟨w.heap.size + 1, 3, none⟩ (.bool true) = w3 at *
    have r0 : w3.cell? ⟨w.heap.size + 1, 0, none⟩ = some (.slice (some ⟨w1.heap.size, 0, none⟩) n m) := hA3.at_.get 0
    have r1 : w3.cell? ⟨w.heap.size + 1, 1, none⟩ = some (.int .i64 (n : Nat)) := hA3.at_.get 1
    have r2 : w3.cell? ⟨w.heap.size + 1, 2, none⟩ = some (.int .i64 (code : Nat)) := hA3.at_.get 2
    have r3 : w3.cell? ⟨w.heap.size + 1, 3, none⟩ = some (.bool true) := hA3.at_.get 3
    have hws := HWS.out
    have hrl := H.out.blk.size_lt
    have hR3 := HR2.out.turns hA3.turns (by omega) (fun g hg e => by have := (H.out.data.lt g hg).2; omega) (fun g hg e => by have := (H.out.pieces.lt g hg).2; omega)
      (fun g hg e => own_ne HR2.out.notes HGB2.out (by decide) (e ▸ hg))
    have hP3 : At w3 w1.heap.size 5 (splice (zeros m) 0 ((s.read at_ pc m).bytes.map (Value.int .u8))).toArray := hA3.turns.at_ HP2.out (by omega)
    have hT3 : Turns (fun k => k = rb ∨ av.ownBlock = some k) w w3 := Turns.trans (Turns.trans (Turns.of_new (new_al HN.out _) _) HTU.out (fun i hi h => by
      rcases h with h | h | h
      · omega
      · exact .inl h
      · exact .inr h)) hA3.turns (fun i hi h => by omega)
    have hnear : Near w av av' := HNR.out.of_size (new_al HN.out _).size
    refine bodyPost_ret (v := .agg #[.slice (some ⟨w1.heap.size, 0, none⟩) n m, .int .i64 (n : Nat), .int .i64 (code : Nat), .bool true]) (by simp [results, Tryd.results13, go_sem, r0, r1, r2, r3]) rfl ?_
    unfold StepPost
    have hsl := (sl_of_splice hP3).drawn 1
    rw [HNN.out] at *
    rw [HC.out] at *
    exact ⟨some ⟨w1.heap.size, 0, none⟩, m, av', rfl, hsl, (fun e => by cases e), (fun ad e => by cases e; exact ⟨HN.out.size, _, hP3.drew⟩), hR3.drawn 1, hnear, hT3.drew⟩
  case true =>
    unfold closer handOn
    have hme := meth_read_direct
    have hcf := callRead
    go_enter Tryd.func13, Tryd.ntmps13
    go_wp2_with fail
    have hN : New w ((w.alloc (.cells #[.int .i64 0, .int .i64 z] 26)).alloc (.cells #[.slice none 0 0, .int .i64 0, .int .i64 0, .bool false] 37)) := new_al (new_alloc _ _) _
    have hgb : At ((w.alloc (.cells #[.int .i64 0, .int .i64 z] 26)).alloc (.cells #[.slice none 0 0, .int .i64 0, .int .i64 0, .bool false] 37)) (w.heap.size + 1) 37 #[.slice none 0 0, .int .i64 0, .int .i64 0, .bool false] := At.made' (by simp) _ _
    have hws : w.heap.size + 2 = ((w.alloc (.cells #[.int .i64 0, .int .i64 z] 26)).alloc (.cells #[.slice none 0 0, .int .i64 0, .int .i64 0, .bool false] 37)).heap.size := by simp
    rw [hws]
    generalize (w.alloc (.cells #[.int .i64 0, .int .i64 z] 26)).alloc (.cells #[.slice none 0 0, .int .i64 0, .int .i64 0, .bool false] 37) = w1 at *
    have HN := hide hN; have HGB := hide hgb; have HWS := hide hws
    clear hN hgb hws
    have hR1 := H.out.turns (Turns.of_new HN.out (fun _ => False)) (fun h => h) (fun _ _ h => h) (fun _ _ h => h) (fun _ _ h => h)
    have hlt := HN.out.size
    refine (read_any (pb := w1.heap.size) (pcur := zeros m) (hR1.turns (Turns.of_new (new_alloc w1 _) (fun _ => False)) (fun h => h) (fun _ _ h => h) (fun _ _ h => h) (fun _ _ h => h)) ((HE.out.below (HN.out.mono hBw)).alloc _) (At.made _ _ _) (by omega) (by rw [zeros_length]; exact Nat.le_refl _) hle hd hpp (fun e => by have := (hR1.data.lt _ e).2; omega) (by omega)).mono ?_
    rintro e w2 ⟨av', rfl, hR2, hnear, htu, hp2⟩
    go_wp2_with fail
    have hlen := s.read_bytes_le at_ pc m
    have hcode := s.read_code at_ pc m
    have k4 := nErrs_ge
    have hE2 : Env B E w2 := ((HE.out.below (HN.out.mono hBw)).alloc _).turns htu (fun k hk => by
      rcases hk with rfl | rfl | hk
      · omega
      · exact H.out.base
      · exact (H.out.notes.lt k hk).1)
    have hgb2 : At w2 (w.heap.size + 1) 37 #[.slice none 0 0, .int .i64 0, .int .i64 0, .bool false] := (HGB.out.laid _).turns htu (by
      rintro (e | e | e)
      · have := HWS.out; omega
      · have := H.out.blk.size_lt; omega
      · have := (H.out.notes.lt _ e).2; omega)
    generalize hn : (s.read at_ pc m).bytes.length = n at *
    generalize hc : (s.read at_ pc m).code = code at *
    have hnl : (n : Int) ≤ (m : Int) := by omega
    have hn0 : (0 : Int) ≤ (n : Int) := by omega
    have g0 := hgb2.get 0
    have g1 := hgb2.get 1
    have g2 := hgb2.get 2
    have g3 := hgb2.get 3
    have z0 := hgb2.soft 0
    have z1 := hgb2.soft 1
    have z2 := hgb2.soft 2
    have z3 := hgb2.soft 3
    have HNN := hide hn; have HC := hide hc; have HR2 := hide hR2; have HNR := hide hnear; have HTU := hide htu; have HP2 := hide hp2; have HE2 := hide hE2; have HGB2 := hide hgb2
    clear hn hc hR2 hnear htu hp2 hE2 hgb2 hR1 hme hcf hmk
    have emin : Nat.min code 5 = code := Nat.min_eq_left (by omega)
    have HNUM : Hid (∀ W : World, Env B E W → Calls Tryd.prog 15 #[errVal E code] W fun e w' => e = .returned (.int .i64 (code : Nat)) ∧ W = w') := by
      intro W hW
      have := number hW code (by omega)
      rwa [emin] at this
    clear emin
    go_region_held3 (fun _ => True) (trivial)
      (first | (go_at_call 15; refine (HNUM.out _ (by exact HE2.out.drawn 1)).mono ?_; rintro e w' ⟨rfl, rfl⟩))
    go_wp2
    have hA3 := ((((Sole.start HGB2.out).put 0 (.slice (some ⟨w1.heap.size, 0, none⟩) n m)).put 1 (.int .i64 (n : Nat))).put 2 (.int .i64 (code : Nat))).put 3 (.bool true)
    generalize (((w2.setCell ⟨w.heap.size + 1, 0, none⟩ (.slice (some ⟨w1.heap.size, 0, none⟩) n m)).setCell ⟨w.heap.size + 1, 1, none⟩ (.int .i64 (n : Nat))).setCell ⟨w.heap.size + 1, 2, none⟩ (.int .i64 (code : Nat))).setCell ⟨w.heap.size + 1, 3, none⟩ (.bool true) = w3 at *
    have r0 : w3.cell? ⟨w.heap.size + 1, 0, none⟩ = some (.slice (some ⟨w1.heap.size, 0, none⟩) n m) := hA3.at_.get 0
    have r1 : w3.cell? ⟨w.heap.size + 1, 1, none⟩ = some (.int .i64 (n : Nat)) := hA3.at_.get 1
    have r2 : w3.cell? ⟨w.heap.size + 1, 2, none⟩ = some (.int .i64 (code : Nat)) := hA3.at_.get 2
    have r3 : w3.cell? ⟨w.heap.size + 1, 3, none⟩ = some (.bool true) := hA3.at_.get 3
    have hws := HWS.out
    have hrl := H.out.blk.size_lt
    have hR3 := HR2.out.turns hA3.turns (by omega) (fun g hg e => by have := (H.out.data.lt g hg).2; omega) (fun g hg e => by have := (H.out.pieces.lt g hg).2; omega)
      (fun g hg e => own_ne HR2.out.notes HGB2.out (by decide) (e ▸ hg))
    have hP3 : At w3 w1.heap.size 5 (splice (zeros m) 0 ((s.read at_ pc m).bytes.map (Value.int .u8))).toArray := hA3.turns.at_ HP2.out (by omega)
    have hT3 : Turns (fun k => k = rb ∨ av.ownBlock = some k) w w3 := Turns.trans (Turns.trans (Turns.of_new (new_al HN.out _) _) HTU.out (fun i hi h => by
      rcases h with h | h | h
      · omega
      · exact .inl h
      · exact .inr h)) hA3.turns (fun i hi h => by omega)
    have hnear : Near w av av' := HNR.out.of_size (new_al HN.out _).size
    refine bodyPost_ret (v := .agg #[.slice (some ⟨w1.heap.size, 0, none⟩) n m, .int .i64 (n : Nat), .int .i64 (code : Nat), .bool true]) (by simp [results, Tryd.results13, go_sem, r0, r1, r2, r3]) rfl ?_
    unfold StepPost
    have hsl := (sl_of_splice hP3).drawn 1
    rw [HNN.out] at *
    rw [HC.out] at *
    exact ⟨some ⟨w1.heap.size, 0, none⟩, m, av', rfl, hsl, (fun e => by cases e), (fun ad e => by cases e; exact ⟨HN.out.size, _, hP3.drew⟩), hR3.drawn 1, hnear, hT3.drew⟩

end Go.Proofs.YtdcdbbcphkhmeaaDoor
