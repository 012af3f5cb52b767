/-
  What every law on CopyBuffer shares: its result in a block of the law's own, whatever order its statement's operations take.
-/
import Derived.Test.YtnbhhckempbimaaDoorLawEmpty
import Derived.Test.YtnbhhckempbimaaDoorSpecCopy
import Derived.Test.YtnbhhckempbimaaDoorSame
import Derived.Deep.DeepCutAuto
namespace Go.Proofs.YtnbhhckempbimaaDoor
open Go.RowKit
set_option linter.unusedVariables false
set_option maxRecDepth 100000

theorem mostLe (s : Src) (room : Int) : s.most room ≤ s.data.length := Nat.min_le_right _ _
theorem Env.of_new {E : Nat → Addr} {w w' : World} (h : Env w.heap.size E w) (hn : New w w') : Env w'.heap.size E w' := (h.below hn).up hn.size

/-- The result of a copy in a block of the law's own. -/
def OutAt (w : World) (s : Src) (room : Int) (quiet taking : Bool) (size k : Nat) (wx : World) : Prop :=
  ∃ GA gc BA bc AA ac VA vc asked writes, At wx k 25 #[.int .i64 (s.most room : Nat), .int .i64 (s.copyCode room quiet : Nat), .slice GA (s.most room) gc, .slice BA size bc, .slice AA asked.length ac, .slice VA writes.length vc, .int .i64 (roadOf s.direct taking : Nat), .bool false] ∧
    Sl wx 1 GA (s.most room) ((s.data.take (s.most room)).map (Value.int .u8)) ∧ Sl wx 1 AA asked.length (asked.map (Value.int .i64)) ∧ Sl wx 1 VA writes.length (writes.map (Value.int .i64)) ∧ Told s room size (roadOf s.direct taking) asked writes ∧ w.heap.size ≤ k ∧ New w wx ∧ (s.most room ≤ gc ∧ gc ≤ 9223372036854775807)

theorem zeros_map (m : Nat) : zeros m = (List.replicate m (0 : Int)).map (Value.int .u8) := by simp [zeros]

/-- The call of impl.CopyBuffer with a buffer of zeros. -/
theorem impl_zeros {W : World} {s : Src} {A1 A2 : Option Addr} {k1 k2 H m : Nat} {room : Int} {quiet taking : Bool} {E : Nat → Addr} (hd : Sl W 1 A1 s.data.length (s.data.map (Value.int .u8))) (hDn : A1 = none → k1 = 0)
    (hp : Sl W 1 A2 s.pieces.length (s.pieces.map (Value.int .i64))) (hPn : A2 = none → k2 = 0) (hb : At W H 5 (zeros m).toArray) (hE : Env W.heap.size E W) (h0 : 0 < m) (hm : m ≤ 65536)
    (hr1 : -9223372036854775808 ≤ room) (hr2 : room ≤ 9223372036854775807) (hdl : s.data.length ≤ 65536) (hpl : s.pieces.length ≤ 4096) :
    Calls Tryd.prog 14 #[.agg #[.slice A1 s.data.length k1, .slice A2 s.pieces.length k2, .bool s.together, .bool s.broken, .bool s.direct], .agg #[.int .i64 room, .bool quiet, .bool taking], .slice (some ⟨H, 0, none⟩) m m, .bool false] W (ImplPost s room quiet taking (List.replicate m 0) false m W) := by
  have hl : (List.replicate m (0 : Int)).length = m := List.length_replicate
  have := impl_any (s := s) (BA := some ⟨H, 0, none⟩) (bc := m) (buf := List.replicate m 0) (room := room) (quiet := quiet) (taking := taking) hd hDn hp hPn (by
    rw [hl]
    refine ⟨by simp, fun _ => ⟨_, rfl, hb.size_lt, fun j u hu => ?_⟩⟩
    rw [add0, hb.get, zeros_map, List.getElem?_toArray]
    exact hu) (fun e => by cases e) hE (by rw [hl]; exact h0) (by rw [hl]; omega) hr1 hr2 (by omega) (by omega)
  rw [hl] at this
  exact this

/-- From the call's result to the block. -/
theorem out_of {w W wC wx : World} {s : Src} {room : Int} {quiet taking : Bool} {m k : Nat} {GA BA AA VA : Option Addr} {gc bc ac vc : Nat} {asked writes : List Int} (hW : New w W) (hC : New W wC)
    (hg : wC.ownsRow W.heap.size 5 1 (.slice GA (s.most room) gc) (s.most room) ((s.data.take (s.most room)).map (Value.int .u8))) (ha : wC.ownsRow W.heap.size 3 1 (.slice AA asked.length ac) asked.length (asked.map (Value.int .i64)))
    (hw : wC.ownsRow W.heap.size 3 1 (.slice VA writes.length vc) writes.length (writes.map (Value.int .i64))) (hT : Told s room m (roadOf s.direct taking) asked writes)
    (hx : Turns (· = k) wC wx) (hk : w.heap.size ≤ k) (hkW : k < W.heap.size ∨ wC.heap.size ≤ k)
    (hat : At wx k 25 #[.int .i64 (s.most room : Nat), .int .i64 (s.copyCode room quiet : Nat), .slice GA (s.most room) gc, .slice BA m bc, .slice AA asked.length ac, .slice VA writes.length vc, .int .i64 (roadOf s.direct taking : Nat), .bool false]) :
    OutAt w s room quiet taking m k wx := by
  have hne : ∀ {e : TypeId} {v : Value} {n : Nat} {xs : List Value}, wC.ownsRow W.heap.size e 1 v n xs → ∀ g, v.ownBlock = some g → ¬ g = k := fun h g hg e => by
    have := h.lt g hg
    omega
  obtain ⟨_, _, e1, _, h1⟩ := Sl.of_own (own_turns hg hx (hne hg))
  cases e1
  obtain ⟨_, _, e2, _, h2⟩ := Sl.of_own (own_turns ha hx (hne ha))
  cases e2
  obtain ⟨_, _, e3, _, h3⟩ := Sl.of_own (own_turns hw hx (hne hw))
  cases e3
  refine ⟨GA, gc, BA, bc, AA, ac, VA, vc, asked, writes, hat, h1, h2, h3, hT, hk, new_turns (new_trans hW hC) hx (fun i e => by omega), ?_⟩
  rcases hg.2 with ⟨e, h0⟩ | ⟨g, cap, cur, e, _, _, hc1, hc2, _⟩
  · injection e with _ e2 e3
    exact ⟨by omega, by omega⟩
  · injection e with _ _ e3
    unfold maxLen at hc2
    exact ⟨by omega, by omega⟩

/-- The eight cells of a zero result. -/
abbrev zero8 : Array Value := #[.int .i64 0, .int .i64 0, .slice none 0 0, .slice none 0 0, .slice none 0 0, .slice none 0 0, .int .i64 0, .bool false]

theorem store8 {w : World} {g : Nat} {t : TypeId} {a0 a1 a2 a3 a4 a5 a6 a7 v0 v1 v2 v3 v4 v5 v6 v7 : Value} (h : At w g t #[a0, a1, a2, a3, a4, a5, a6, a7]) :
    Sole w ((((((((w.setCell ⟨g, 0, none⟩ v0).setCell ⟨g, 1, none⟩ v1).setCell ⟨g, 2, none⟩ v2).setCell ⟨g, 3, none⟩ v3).setCell ⟨g, 4, none⟩ v4).setCell ⟨g, 5, none⟩ v5).setCell ⟨g, 6, none⟩ v6).setCell ⟨g, 7, none⟩ v7) g t #[v0, v1, v2, v3, v4, v5, v6, v7] := by
  have h0 : Sole w (w.setCell ⟨g, 0, none⟩ v0) g t #[v0, a1, a2, a3, a4, a5, a6, a7] := (Sole.start h).put 0 v0
  have h1 : Sole w _ g t #[v0, v1, a2, a3, a4, a5, a6, a7] := h0.put 1 v1
  have h2 : Sole w _ g t #[v0, v1, v2, a3, a4, a5, a6, a7] := h1.put 2 v2
  have h3 : Sole w _ g t #[v0, v1, v2, v3, a4, a5, a6, a7] := h2.put 3 v3
  have h4 : Sole w _ g t #[v0, v1, v2, v3, v4, a5, a6, a7] := h3.put 4 v4
  have h5 : Sole w _ g t #[v0, v1, v2, v3, v4, v5, a6, a7] := h4.put 5 v5
  have h6 : Sole w _ g t #[v0, v1, v2, v3, v4, v5, v6, a7] := h5.put 6 v6
  exact h6.put 7 v7

/-- What the call with a buffer of zeros returns. -/
def ZPost (s : Src) (room : Int) (quiet taking : Bool) (m : Nat) (W : World) (e : Ending) (wC : World) : Prop :=
  ∃ GA gc BA bc AA ac VA vc asked writes, e = .returned (.agg #[.int .i64 (s.most room : Nat), .int .i64 (s.copyCode room quiet : Nat), .slice GA (s.most room) gc, .slice BA m bc, .slice AA asked.length ac, .slice VA writes.length vc, .int .i64 (roadOf s.direct taking : Nat), .bool false]) ∧
    (wC.ownsRow W.heap.size 5 1 (.slice GA (s.most room) gc) (s.most room) ((s.data.take (s.most room)).map (Value.int .u8)) ∧ wC.ownsRow W.heap.size 3 1 (.slice AA asked.length ac) asked.length (asked.map (Value.int .i64)) ∧
    wC.ownsRow W.heap.size 3 1 (.slice VA writes.length vc) writes.length (writes.map (Value.int .i64)) ∧ Told s room m (roadOf s.direct taking) asked writes) ∧ New W wC

theorem impl_z {W : World} {s : Src} {A1 A2 : Option Addr} {k1 k2 H m : Nat} {room : Int} {quiet taking : Bool} {E : Nat → Addr} (hd : Sl W 1 A1 s.data.length (s.data.map (Value.int .u8))) (hDn : A1 = none → k1 = 0)
    (hp : Sl W 1 A2 s.pieces.length (s.pieces.map (Value.int .i64))) (hPn : A2 = none → k2 = 0) (hb : At W H 5 (zeros m).toArray) (hE : Env W.heap.size E W) (h0 : 0 < m) (hm : m ≤ 65536)
    (hr1 : -9223372036854775808 ≤ room) (hr2 : room ≤ 9223372036854775807) (hdl : s.data.length ≤ 65536) (hpl : s.pieces.length ≤ 4096) :
    Calls Tryd.prog 14 #[.agg #[.slice A1 s.data.length k1, .slice A2 s.pieces.length k2, .bool s.together, .bool s.broken, .bool s.direct], .agg #[.int .i64 room, .bool quiet, .bool taking], .slice (some ⟨H, 0, none⟩) m m, .bool false] W (ZPost s room quiet taking m W) := by
  refine (impl_zeros hd hDn hp hPn hb hE h0 hm hr1 hr2 hdl hpl).mono ?_
  rintro e wC ⟨gv, bv, av, wv, asked, writes, rfl, hg, ha, hw, hT, ⟨BA, bc, rfl, hB⟩, mC⟩
  obtain ⟨GA, gc, rfl, -, -⟩ := Sl.of_own hg
  obtain ⟨AA, ac, rfl, -, -⟩ := Sl.of_own ha
  obtain ⟨VA, vc, rfl, -, -⟩ := Sl.of_own hw
  refine ⟨GA, gc, BA, bc, AA, ac, VA, vc, asked, writes, ?_, ⟨hg, ha, hw, hT⟩, mC⟩
  simp

end Go.Proofs.YtnbhhckempbimaaDoor
