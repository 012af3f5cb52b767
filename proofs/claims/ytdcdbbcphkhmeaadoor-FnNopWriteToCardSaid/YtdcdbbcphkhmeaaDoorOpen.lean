/-
  What impl.open does: a new reader over copies of the source's rows, handed on as itself or as a reader with a WriteTo.
-/
import Derived.Test.YtdcdbbcphkhmeaaDoorReader
namespace Go.Proofs.YtdcdbbcphkhmeaaDoor
open Go.RowKit
set_option linter.unusedVariables false
set_option maxRecDepth 100000

/-- What the reader is handed on as. -/
def handOn (direct : Bool) (rb : Nat) (road : Value) : Value :=
  if direct then .iface 58 (.agg #[.pointer (some ⟨rb, 0, none⟩), road]) else .iface 43 (.pointer (some ⟨rb, 0, none⟩))

def OpenPost (s : Src) (road : Value) (w : World) (e : Ending) (w' : World) : Prop :=
  ∃ rb dv pv, e = .returned (.tuple #[.pointer (some ⟨rb, 0, none⟩), handOn s.direct rb road]) ∧ Rd w.heap.size w' rb s dv pv (.slice none 0 0) 0 0 [] ∧ New w w'

set_option maxHeartbeats 1000000 in
theorem open_true {w : World} {s : Src} {DA PA : Option Addr} {dc pc : Nat} {ra : Option Addr} (hd : Sl w 1 DA s.data.length (s.data.map (Value.int .u8))) (hDn : DA = none → dc = 0)
    (hp : Sl w 1 PA s.pieces.length (s.pieces.map (Value.int .i64))) (hPn : PA = none → pc = 0) (HDIR : Hid (s.direct = true)) (hdl : s.data.length ≤ 1000000000) (hpl : s.pieces.length ≤ 1000000000) :
    Calls Tryd.prog 11 #[.agg #[.slice DA s.data.length dc, .slice PA s.pieces.length pc, .bool s.together, .bool s.broken, .bool true], .pointer ra] w (OpenPost s (.pointer ra) w) := by
  have HD := hide hd; have HP := hide hp; have HDN := hide hDn; have HPN := hide hPn
  clear hd hp hDn hPn
  go_enter Tryd.func11, Tryd.ntmps11
  go_wp2_with fail
  have hBx : At (w.alloc (.cells #[.slice DA s.data.length dc, .slice PA s.pieces.length pc, .bool s.together, .bool s.broken, .bool true] 30)) w.heap.size 30 #[.slice DA s.data.length dc, .slice PA s.pieces.length pc, .bool s.together, .bool s.broken, .bool true] := At.made _ _ _
  have hN : New w (w.alloc (.cells #[.slice DA s.data.length dc, .slice PA s.pieces.length pc, .bool s.together, .bool s.broken, .bool true] 30)) := new_alloc _ _
  have hsz : (w.alloc (.cells #[.slice DA s.data.length dc, .slice PA s.pieces.length pc, .bool s.together, .bool s.broken, .bool true] 30)).heap.size = w.heap.size + 1 := by simp
  generalize w.alloc (.cells #[.slice DA s.data.length dc, .slice PA s.pieces.length pc, .bool s.together, .bool s.broken, .bool true] 30) = w0 at *
  have HSZ := hide hsz
  have b0 := hBx.get 0
  have b1 := hBx.get 1
  have b2 := hBx.get 2
  have b3 := hBx.get 3
  have b4 := hBx.get 4
  have HBX := hide hBx; have HN0 := hide hN
  have HN := hide (new_refl w0)
  have HD0 := hide (HD.out.new hN); have HP0 := hide (HP.out.new hN)
  clear hBx hN hsz HD HP
  have tokA : True := trivial
  have tokB : True := trivial
  go_region_held3 (fun w' => w'.cell? ⟨w.heap.size, 0, none⟩ = some (.slice DA s.data.length dc) ∧ w'.cell? ⟨w.heap.size, 1, none⟩ = some (.slice PA s.pieces.length pc) ∧ w'.cell? ⟨w.heap.size, 2, none⟩ = some (.bool s.together) ∧ w'.cell? ⟨w.heap.size, 3, none⟩ = some (.bool s.broken) ∧ w'.cell? ⟨w.heap.size, 4, none⟩ = some (.bool true)) (go_keep)
    (first | (have _t := tokA; refine step_append_lit (by rfl) (.tmp 7) (.tmp 9) 22 (by rfl) w0.heap.size 5 (.int .u8 0) 1 1 Tryd.underlying22 info5 rfl (by decide) _ (by rfl) (by repeat (first | exact At.made' (by simp) _ _ | refine At.new ?_ nA.out | refine At.new ?_ nB.out | apply At.laid | apply At.drew | apply At.drawn)) (by first | omega | (have := Below.size nB0.out; omega)) DA s.data.length dc _ (by rfl) HDN.out (by exact HD0.out.new (by repeat (first | exact new_refl _ | exact nA0.out | exact nB0.out | apply new_al | apply new_dr | apply new_drN))) (ints_oneCell _ _) (by unfold maxLen; omega) (by omega) ?_; intro vA wA hA mA; have nA0 : Hid (New w0 wA) := hide (new_trans (by repeat (first | exact new_refl _ | exact nA0.out | exact nB0.out | apply new_al | apply new_dr | apply new_drN)) mA); have nA := hide mA; have hXA := hide (HBX.out.new nA0.out); have x0 := hXA.out.get 0; have x1 := hXA.out.get 1; have x2 := hXA.out.get 2; have x3 := hXA.out.get 3; have x4 := hXA.out.get 4; obtain ⟨aA, kA, rfl, -, -⟩ := Sl.of_own hA; have HA := hide hA; clear hA mA tokA) | (have _t := tokB; refine step_append_lit (by rfl) (.tmp 11) (.tmp 13) 23 (by rfl) w0.heap.size 3 (.int .i64 0) 1 8 Tryd.underlying23 info3 rfl (by decide) _ (by rfl) (by repeat (first | exact At.made' (by simp) _ _ | refine At.new ?_ nA.out | refine At.new ?_ nB.out | apply At.laid | apply At.drew | apply At.drawn)) (by first | omega | (have := Below.size nA0.out; omega)) PA s.pieces.length pc _ (by rfl) HPN.out (by exact HP0.out.new (by repeat (first | exact new_refl _ | exact nA0.out | exact nB0.out | apply new_al | apply new_dr | apply new_drN))) (ints_oneCell _ _) (by unfold maxLen; omega) (by omega) ?_; intro vB wB hB mB; have nB0 : Hid (New w0 wB) := hide (new_trans (by repeat (first | exact new_refl _ | exact nA0.out | exact nB0.out | apply new_al | apply new_dr | apply new_drN)) mB); have nB := hide mB; have hXB := hide (HBX.out.new nB0.out); have x0 := hXB.out.get 0; have x1 := hXB.out.get 1; have x2 := hXB.out.get 2; have x3 := hXB.out.get 3; have x4 := hXB.out.get 4; obtain ⟨aB, kB, rfl, -, -⟩ := Sl.of_own hB; have HB := hide hB; clear hB mB tokB))
  all_goals
    have hszA := Below.size nA0.out
    have hszB := Below.size nB0.out
    go_wp2
    go_ret2
    first
      | (refine ⟨wB.heap.size, .slice aA s.data.length kA, .slice aB s.pieces.length kB, ?_, ⟨?_, own_mono (own_new HA.out (by repeat (first | exact new_refl _ | refine new_trans ?_ nB.out | apply new_al | apply new_dr | apply new_drN))) (by have := HSZ.out; omega), own_mono (own_new HB.out (by repeat (first | exact new_refl _ | refine new_trans ?_ nA.out | apply new_al | apply new_dr | apply new_drN))) (by have := HSZ.out; omega), World.ownsRow_nil _ _ _ _, fun g hg => by simp [Value.ownBlock] at hg, by have := HSZ.out; omega⟩, new_trans HN0.out (by repeat (first | exact new_refl _ | exact nA0.out | exact nB0.out | apply new_al | apply new_dr | apply new_drN))⟩; (rw [HDIR.out]; rfl); (rw [HDIR.out]; exact At.made' (by simp) _ _))
      | (refine ⟨wA.heap.size, .slice aA s.data.length kA, .slice aB s.pieces.length kB, ?_, ⟨?_, own_mono (own_new HA.out (by repeat (first | exact new_refl _ | refine new_trans ?_ nB.out | apply new_al | apply new_dr | apply new_drN))) (by have := HSZ.out; omega), own_mono (own_new HB.out (by repeat (first | exact new_refl _ | refine new_trans ?_ nA.out | apply new_al | apply new_dr | apply new_drN))) (by have := HSZ.out; omega), World.ownsRow_nil _ _ _ _, fun g hg => by simp [Value.ownBlock] at hg, by have := HSZ.out; omega⟩, new_trans HN0.out (by repeat (first | exact new_refl _ | exact nA0.out | exact nB0.out | apply new_al | apply new_dr | apply new_drN))⟩; (rw [HDIR.out]; rfl); (rw [HDIR.out]; exact At.made' (by simp) _ _))

set_option maxHeartbeats 1000000 in
theorem open_false {w : World} {s : Src} {DA PA : Option Addr} {dc pc : Nat} {ra : Option Addr} (hd : Sl w 1 DA s.data.length (s.data.map (Value.int .u8))) (hDn : DA = none → dc = 0)
    (hp : Sl w 1 PA s.pieces.length (s.pieces.map (Value.int .i64))) (hPn : PA = none → pc = 0) (HDIR : Hid (s.direct = false)) (hdl : s.data.length ≤ 1000000000) (hpl : s.pieces.length ≤ 1000000000) :
    Calls Tryd.prog 11 #[.agg #[.slice DA s.data.length dc, .slice PA s.pieces.length pc, .bool s.together, .bool s.broken, .bool false], .pointer ra] w (OpenPost s (.pointer ra) w) := by
  have HD := hide hd; have HP := hide hp; have HDN := hide hDn; have HPN := hide hPn
  clear hd hp hDn hPn
  go_enter Tryd.func11, Tryd.ntmps11
  go_wp2_with fail
  have hBx : At (w.alloc (.cells #[.slice DA s.data.length dc, .slice PA s.pieces.length pc, .bool s.together, .bool s.broken, .bool false] 30)) w.heap.size 30 #[.slice DA s.data.length dc, .slice PA s.pieces.length pc, .bool s.together, .bool s.broken, .bool false] := At.made _ _ _
  have hN : New w (w.alloc (.cells #[.slice DA s.data.length dc, .slice PA s.pieces.length pc, .bool s.together, .bool s.broken, .bool false] 30)) := new_alloc _ _
  have hsz : (w.alloc (.cells #[.slice DA s.data.length dc, .slice PA s.pieces.length pc, .bool s.together, .bool s.broken, .bool false] 30)).heap.size = w.heap.size + 1 := by simp
  generalize w.alloc (.cells #[.slice DA s.data.length dc, .slice PA s.pieces.length pc, .bool s.together, .bool s.broken, .bool false] 30) = w0 at *
  have HSZ := hide hsz
  have b0 := hBx.get 0
  have b1 := hBx.get 1
  have b2 := hBx.get 2
  have b3 := hBx.get 3
  have b4 := hBx.get 4
  have HBX := hide hBx; have HN0 := hide hN
  have HN := hide (new_refl w0)
  have HD0 := hide (HD.out.new hN); have HP0 := hide (HP.out.new hN)
  clear hBx hN hsz HD HP
  have tokA : True := trivial
  have tokB : True := trivial
  go_region_held3 (fun w' => w'.cell? ⟨w.heap.size, 0, none⟩ = some (.slice DA s.data.length dc) ∧ w'.cell? ⟨w.heap.size, 1, none⟩ = some (.slice PA s.pieces.length pc) ∧ w'.cell? ⟨w.heap.size, 2, none⟩ = some (.bool s.together) ∧ w'.cell? ⟨w.heap.size, 3, none⟩ = some (.bool s.broken) ∧ w'.cell? ⟨w.heap.size, 4, none⟩ = some (.bool false)) (go_keep)
    (first | (have _t := tokA; refine step_append_lit (by rfl) (.tmp 7) (.tmp 9) 22 (by rfl) w0.heap.size 5 (.int .u8 0) 1 1 Tryd.underlying22 info5 rfl (by decide) _ (by rfl) (by repeat (first | exact At.made' (by simp) _ _ | refine At.new ?_ nA.out | refine At.new ?_ nB.out | apply At.laid | apply At.drew | apply At.drawn)) (by first | omega | (have := Below.size nB0.out; omega)) DA s.data.length dc _ (by rfl) HDN.out (by exact HD0.out.new (by repeat (first | exact new_refl _ | exact nA0.out | exact nB0.out | apply new_al | apply new_dr | apply new_drN))) (ints_oneCell _ _) (by unfold maxLen; omega) (by omega) ?_; intro vA wA hA mA; have nA0 : Hid (New w0 wA) := hide (new_trans (by repeat (first | exact new_refl _ | exact nA0.out | exact nB0.out | apply new_al | apply new_dr | apply new_drN)) mA); have nA := hide mA; have hXA := hide (HBX.out.new nA0.out); have x0 := hXA.out.get 0; have x1 := hXA.out.get 1; have x2 := hXA.out.get 2; have x3 := hXA.out.get 3; have x4 := hXA.out.get 4; obtain ⟨aA, kA, rfl, -, -⟩ := Sl.of_own hA; have HA := hide hA; clear hA mA tokA) | (have _t := tokB; refine step_append_lit (by rfl) (.tmp 11) (.tmp 13) 23 (by rfl) w0.heap.size 3 (.int .i64 0) 1 8 Tryd.underlying23 info3 rfl (by decide) _ (by rfl) (by repeat (first | exact At.made' (by simp) _ _ | refine At.new ?_ nA.out | refine At.new ?_ nB.out | apply At.laid | apply At.drew | apply At.drawn)) (by first | omega | (have := Below.size nA0.out; omega)) PA s.pieces.length pc _ (by rfl) HPN.out (by exact HP0.out.new (by repeat (first | exact new_refl _ | exact nA0.out | exact nB0.out | apply new_al | apply new_dr | apply new_drN))) (ints_oneCell _ _) (by unfold maxLen; omega) (by omega) ?_; intro vB wB hB mB; have nB0 : Hid (New w0 wB) := hide (new_trans (by repeat (first | exact new_refl _ | exact nA0.out | exact nB0.out | apply new_al | apply new_dr | apply new_drN)) mB); have nB := hide mB; have hXB := hide (HBX.out.new nB0.out); have x0 := hXB.out.get 0; have x1 := hXB.out.get 1; have x2 := hXB.out.get 2; have x3 := hXB.out.get 3; have x4 := hXB.out.get 4; obtain ⟨aB, kB, rfl, -, -⟩ := Sl.of_own hB; have HB := hide hB; clear hB mB tokB))
  all_goals
    have hszA := Below.size nA0.out
    have hszB := Below.size nB0.out
    go_wp2
    go_ret2
    first
      | (refine ⟨wB.heap.size, .slice aA s.data.length kA, .slice aB s.pieces.length kB, ?_, ⟨?_, own_mono (own_new HA.out (by repeat (first | exact new_refl _ | refine new_trans ?_ nB.out | apply new_al | apply new_dr | apply new_drN))) (by have := HSZ.out; omega), own_mono (own_new HB.out (by repeat (first | exact new_refl _ | refine new_trans ?_ nA.out | apply new_al | apply new_dr | apply new_drN))) (by have := HSZ.out; omega), World.ownsRow_nil _ _ _ _, fun g hg => by simp [Value.ownBlock] at hg, by have := HSZ.out; omega⟩, new_trans HN0.out (by repeat (first | exact new_refl _ | exact nA0.out | exact nB0.out | apply new_al | apply new_dr | apply new_drN))⟩; (rw [HDIR.out]; rfl); (rw [HDIR.out]; exact At.made' (by simp) _ _))
      | (refine ⟨wA.heap.size, .slice aA s.data.length kA, .slice aB s.pieces.length kB, ?_, ⟨?_, own_mono (own_new HA.out (by repeat (first | exact new_refl _ | refine new_trans ?_ nB.out | apply new_al | apply new_dr | apply new_drN))) (by have := HSZ.out; omega), own_mono (own_new HB.out (by repeat (first | exact new_refl _ | refine new_trans ?_ nA.out | apply new_al | apply new_dr | apply new_drN))) (by have := HSZ.out; omega), World.ownsRow_nil _ _ _ _, fun g hg => by simp [Value.ownBlock] at hg, by have := HSZ.out; omega⟩, new_trans HN0.out (by repeat (first | exact new_refl _ | exact nA0.out | exact nB0.out | apply new_al | apply new_dr | apply new_drN))⟩; (rw [HDIR.out]; rfl); (rw [HDIR.out]; exact At.made' (by simp) _ _))

theorem open_any {w : World} {s : Src} {DA PA : Option Addr} {dc pc : Nat} {ra : Option Addr} (hd : Sl w 1 DA s.data.length (s.data.map (Value.int .u8))) (hDn : DA = none → dc = 0)
    (hp : Sl w 1 PA s.pieces.length (s.pieces.map (Value.int .i64))) (hPn : PA = none → pc = 0) (hdl : s.data.length ≤ 1000000000) (hpl : s.pieces.length ≤ 1000000000) :
    Calls Tryd.prog 11 #[.agg #[.slice DA s.data.length dc, .slice PA s.pieces.length pc, .bool s.together, .bool s.broken, .bool s.direct], .pointer ra] w (OpenPost s (.pointer ra) w) := by
  cases hdir : s.direct with
  | true => exact open_true hd hDn hp hPn hdir hdl hpl
  | false => exact open_false hd hDn hp hPn hdir hdl hpl

end Go.Proofs.YtdcdbbcphkhmeaaDoor
