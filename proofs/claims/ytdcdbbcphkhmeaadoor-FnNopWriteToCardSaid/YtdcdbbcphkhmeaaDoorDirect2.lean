/-
  What (direct).WriteTo of the thin package does: the same, where the mark of the road lies in a block below the base.
-/
import Derived.Test.YtdcdbbcphkhmeaaDoorReader
import Derived.Test.YtdcdbbcphkhmeaaDoorWriter
namespace Go.Proofs.YtdcdbbcphkhmeaaDoor
open Go.RowKit
set_option linter.unusedVariables false
set_option maxRecDepth 100000

theorem Env.to {B B' : Nat} {E : Nat → Addr} {w : World} (h : Env B E w) (hB : B ≤ B') : Env B' E w :=
  ⟨h.cell, h.blk, h.inj, fun i hi => ⟨Nat.lt_of_lt_of_le (h.lt i hi).1 hB, Nat.lt_of_lt_of_le (h.lt i hi).2 hB⟩⟩

/-- The number of the error of a WriteTo. -/
def wtCode (broken quiet : Bool) (m n : Nat) : Nat := if m < n then (if quiet then 4 else 3) else if broken then 2 else 0

def DirectPost (B rb wb ob oo : Nat) (ot : TypeId) (ocs : Array Value) (s : Src) (dv pv av : Value) (at_ pc : Nat) (asked : List Int) (room : Int) (quiet direct : Bool) (gv wv : Value) (got writes : List Int) (E : Nat → Addr) (w : World) (e : Ending) (w' : World) : Prop :=
  ∃ gv' wv', e = .returned (.tuple #[.int .i64 (takes room got.length (s.data.length - at_) : Nat), errVal E (wtCode s.broken quiet (takes room got.length (s.data.length - at_)) (s.data.length - at_))]) ∧
    Rd B w' rb s dv pv av s.data.length pc asked ∧ Wr B w' wb room quiet direct gv' wv' (got ++ (s.data.drop at_).take (takes room got.length (s.data.length - at_))) (writes ++ if s.data.length - at_ = 0 then [] else [((s.data.length - at_ : Nat) : Int)]) ∧
    At w' ob ot (ocs.setIfInBounds oo (.int .i64 1)) ∧ Near w gv gv' ∧ Near w wv wv' ∧ Turns (fun k => k = ob ∨ k = rb ∨ k = wb ∨ gv.ownBlock = some k ∨ wv.ownBlock = some k) w w'

/-- The state behind the mark and the new place. -/
structure DMid (B0 B rb wb ob oo H : Nat) (ot : TypeId) (ocs : Array Value) (s : Src) (dv pv av : Value) (pc : Nat) (asked : List Int) (room : Int) (quiet direct : Bool) (gv wv : Value) (got writes : List Int) (E : Nat → Addr) (w' : World) : Prop where
  rd : Rd B w' rb s dv pv av s.data.length pc asked
  wr : Wr B w' wb room quiet direct gv wv got writes
  at_ : At w' ob ot (ocs.setIfInBounds oo (.int .i64 1))
  box : At w' H 58 #[.pointer (some ⟨rb, 0, none⟩), .pointer (some ⟨ob, oo, none⟩)]
  env : Env B0 E w'

theorem dmid {B0 B rb wb ob oo at_ pc : Nat} {ot : TypeId} {ocs : Array Value} {w w1 : World} {s : Src} {dv pv av gv wv : Value} {room : Int} {quiet direct : Bool} {asked got writes : List Int} {E : Nat → Addr}
    (hR : Rd B w rb s dv pv av at_ pc asked) (hW : Wr B w wb room quiet direct gv wv got writes) (hE : Env B0 E w) (ho : At w ob ot ocs) (hBo : ob < B) (hB0 : B0 ≤ ob)
    (q : Nat) (h1 : w1 = ((w.setCell ⟨ob, oo, none⟩ (.int .i64 1)).alloc (.cells #[.pointer (some ⟨rb, 0, none⟩), .pointer (some ⟨ob, oo, none⟩)] 58)).drewN q) :
    DMid B0 B rb wb ob oo w.heap.size ot ocs s dv pv av pc asked room quiet direct gv wv got writes E (w1.setCell ⟨rb, 5, none⟩ (.int .i64 (s.data.length : Nat))) ∧ Turns (fun k => k = ob ∨ k = rb) w (w1.setCell ⟨rb, 5, none⟩ (.int .i64 (s.data.length : Nat))) ∧ Turns (· = ob) w w1 ∧ At w1 w.heap.size 58 #[.pointer (some ⟨rb, 0, none⟩), .pointer (some ⟨ob, oo, none⟩)] := by
  have hT1 : Turns (· = ob) w w1 := by rw [h1]; exact ((Turns.setCell (S := (· = ob)) (Turns.refl _ _) (fun _ => rfl) _).alloc _).drawn q
  have hbx : At w1 w.heap.size 58 #[.pointer (some ⟨rb, 0, none⟩), .pointer (some ⟨ob, oo, none⟩)] := by rw [h1]; exact (At.made' (by simp) _ _).drawn q
  have ho2 : At w1 ob ot (ocs.setIfInBounds oo (.int .i64 1)) := by rw [h1]; exact ((ho.put oo _).laid _).drawn q
  clear h1
  have hobr : ob ≠ rb := by have := hR.base; omega
  have hobw : ob ≠ wb := by have := hW.base; omega
  have hrw : rb ≠ wb := hR.blk.apart hW.blk (by decide)
  have hR2 : Rd B w1 rb s dv pv av at_ pc asked := hR.turns hT1 (Ne.symm hobr) (fun g hg e => by have := (hR.data.lt g hg).1; omega) (fun g hg e => by have := (hR.pieces.lt g hg).1; omega) (fun g hg e => by have := (hR.notes.lt g hg).1; omega)
  have hW2 : Wr B w1 wb room quiet direct gv wv got writes := hW.turns hT1 (Ne.symm hobw) (fun g hg e => by have := (hW.got.lt g hg).1; omega) (fun g hg e => by have := (hW.notes.lt g hg).1; omega)
  have hE2 : Env B0 E w1 := hE.turns hT1 (fun k e => by omega)
  have hT2 : Turns (· = rb) w1 (w1.setCell ⟨rb, 5, none⟩ (.int .i64 (s.data.length : Nat))) := Turns.setCell (S := (· = rb)) (Turns.refl _ _) (fun _ => rfl) _
  have hb := hR2.base
  refine ⟨⟨⟨hR2.blk.put 5 _, own_turns hR2.data hT2 (fun g hg e => own_ne hR2.data hR2.blk (by decide) (e ▸ hg)), own_turns hR2.pieces hT2 (fun g hg e => own_ne hR2.pieces hR2.blk (by decide) (e ▸ hg)), own_turns hR2.notes hT2 (fun g hg e => own_ne hR2.notes hR2.blk (by decide) (e ▸ hg)), hR2.apart, hR2.base⟩,
    hW2.turns hT2 (Ne.symm hrw) (fun g hg e => own_ne hW2.got hR2.blk (by decide) (e ▸ hg)) (fun g hg e => own_ne hW2.notes hR2.blk (by decide) (e ▸ hg)), ho2.turns hT2 hobr, hbx.turns hT2 ?_, hE2.turns hT2 (fun k e => by omega)⟩, ?_, hT1, hbx⟩
  · intro e; exact hR2.blk.apart hbx (by decide) e.symm
  · exact Turns.trans (hT1.mono (fun _ _ h => .inl h)) hT2 (fun _ _ h => .inr h)

/-- Behind the Write. -/
theorem dwrote {B0 B rb wb ob oo H : Nat} {ot : TypeId} {ocs : Array Value} {w w2 w3 : World} {s : Src} {dv pv av gv wv gv' wv' : Value} {pc : Nat} {asked : List Int} {room : Int} {quiet direct : Bool} {got writes got' writes' : List Int} {E : Nat → Addr}
    (h : DMid B0 B rb wb ob oo H ot ocs s dv pv av pc asked room quiet direct gv wv got writes E w2) (hw2 : Turns (fun k => k = ob ∨ k = rb) w w2) (hBo : ob < B) (hB0 : B0 ≤ ob)
    (ap1 : ∀ g, gv.ownBlock = some g → dv.ownBlock ≠ some g) (ap2 : ∀ g, wv.ownBlock = some g → pv.ownBlock ≠ some g) (ap3 : ∀ g, wv.ownBlock = some g → av.ownBlock ≠ some g)
    (hW : Wr B w3 wb room quiet direct gv' wv' got' writes') (n1 : Near w2 gv gv') (n2 : Near w2 wv wv') (ht : Turns (fun k => k = wb ∨ gv.ownBlock = some k ∨ wv.ownBlock = some k) w2 w3) :
    DMid B0 B rb wb ob oo H ot ocs s dv pv av pc asked room quiet direct gv' wv' got' writes' E w3 ∧ Near w gv gv' ∧ Near w wv wv' ∧ Turns (fun k => k = ob ∨ k = rb ∨ k = wb ∨ gv.ownBlock = some k ∨ wv.ownBlock = some k) w w3 := by
  have hrw : rb ≠ wb := h.rd.blk.apart h.wr.blk (by decide)
  refine ⟨⟨h.rd.turns ht ?_ ?_ ?_ ?_, hW, h.at_.turns ht ?_, h.box.turns ht ?_, h.env.turns ht ?_⟩, n1.of_size hw2.size, n2.of_size hw2.size, Turns.trans (hw2.mono (fun _ _ e => by rcases e with e | e <;> simp [e])) ht (fun _ _ e => by rcases e with e | e | e <;> simp [e])⟩
  · rintro (e | e | e)
    · exact hrw e
    · exact own_ne h.wr.got h.rd.blk (by decide) e
    · exact own_ne h.wr.notes h.rd.blk (by decide) e
  · rintro g hg (e | e | e)
    · subst e; exact own_ne h.rd.data h.wr.blk (by decide) hg
    · exact ap1 g e hg
    · exact own_own_ne h.rd.data h.wr.notes (by decide) g hg e
  · rintro g hg (e | e | e)
    · subst e; exact own_ne h.rd.pieces h.wr.blk (by decide) hg
    · exact own_own_ne h.rd.pieces h.wr.got (by decide) g hg e
    · exact ap2 g e hg
  · rintro g hg (e | e | e)
    · subst e; exact own_ne h.rd.notes h.wr.blk (by decide) hg
    · exact own_own_ne h.rd.notes h.wr.got (by decide) g hg e
    · exact ap3 g e hg
  · rintro (e | e | e)
    · have := h.wr.base; omega
    · have := (h.wr.got.lt _ e).1; omega
    · have := (h.wr.notes.lt _ e).1; omega
  · rintro (e | e | e)
    · subst e; exact h.wr.blk.apart h.box (by decide) rfl
    · exact own_ne h.wr.got h.box (by decide) e
    · exact own_ne h.wr.notes h.box (by decide) e
  · rintro k (e | e | e)
    · have := h.wr.base; omega
    · have := (h.wr.got.lt k e).1; omega
    · have := (h.wr.notes.lt k e).1; omega

set_option maxHeartbeats 1000000 in
theorem writeTo_some {B0 B rb wb ob oo at_ pc : Nat} {ot T : TypeId} {v : Value} {ocs : Array Value} {w : World} {s : Src} {dv pv av gv wv : Value} {room r0 : Int} {quiet direct : Bool} {asked got writes : List Int} {E : Nat → Addr}
    (hm : ∀ W : World, (method 200 T v "Write").run Tryd.prog W = .ok (37, .pointer (some ⟨wb, 0, none⟩)) W)
    (hR : Rd B w rb s dv pv av at_ pc asked) (hW : Wr B w wb room quiet direct gv wv got writes) (hE : Env B0 E w) (ho : At w ob ot ocs) (hoo : ocs[oo]? = some (.int .i64 r0)) (hBo : ob < B) (hB0 : B0 ≤ ob)
    (ap1 : ∀ g, gv.ownBlock = some g → dv.ownBlock ≠ some g) (ap2 : ∀ g, wv.ownBlock = some g → pv.ownBlock ≠ some g) (ap3 : ∀ g, wv.ownBlock = some g → av.ownBlock ≠ some g)
    (hroom : (got.length : Int) ≤ imax room 0) (hr1 : -9223372036854775808 ≤ room) (hr2 : room ≤ 9223372036854775807) (hlt : at_ < s.data.length) (hdl : s.data.length ≤ 100000000) (hgl : got.length ≤ 1000000000) (hwl : writes.length ≤ 1000000000) :
    Calls Tryd.prog 33 #[.agg #[.pointer (some ⟨rb, 0, none⟩), .pointer (some ⟨ob, oo, none⟩)], .iface T v] w (DirectPost B rb wb ob oo ot ocs s dv pv av at_ pc asked room quiet direct gv wv got writes E w) := by
  have c1 : w.cell? ⟨ob, oo, none⟩ = some (.int .i64 r0) := ho.get! hoo
  have f1 := ho.soft oo
  have hlo := ho.size_lt
  have hlr := hR.blk.size_lt
  have hobr : ob ≠ rb := by have := hR.base; omega
  rcases hR.data.2 with ⟨_, h0⟩ | ⟨dg, dc, dcur, rfl, hdB, hdg, hdc, hdm, hdcs, htake⟩
  · omega
  unfold maxLen at hdm
  have d0 : w.cell? ⟨rb, 0, none⟩ = some (.slice (some ⟨dg, 0, none⟩) s.data.length dc) := hR.blk.get 0
  have d5 : w.cell? ⟨rb, 5, none⟩ = some (.int .i64 at_) := hR.blk.get 5
  have f5 := hR.blk.soft 5
  have HD := hide (fun w1 => dmid (w1 := w1) (oo := oo) hR hW hE ho hBo hB0)
  have hne : (⟨dg, at_, none⟩ : Addr).block ≠ wb := fun e => own_ne hR.data hW.blk (by decide) (by rw [← e]; rfl)
  have hnw : wv.ownBlock ≠ some (⟨dg, at_, none⟩ : Addr).block := fun e => own_own_ne hR.data hW.notes (by decide) dg rfl e
  have HNE := hide hne; have HNW := hide hnw
  have HR := hide hR; have HO := hide ho; have HAP1 := hide ap1; have HAP2 := hide ap2; have HAP3 := hide ap3
  clear hR hW hE ho hoo hdg hdcs htake hne hnw ap1 ap2 ap3
  have s1 : (0 : Int) ≤ (at_ : Int) := by omega
  have s2 : (at_ : Int) ≤ (s.data.length : Int) := by omega
  have s3 : (s.data.length : Int) ≤ (dc : Int) := by omega
  have s7 : ¬ dc = at_ := by omega
  go_enter Tryd.func33, Tryd.ntmps33
  go_wp2_with fail
  go_quiet (fail)
  rename Nat => q1
  go_wp2_with fail
  generalize hw1 : ((w.setCell ⟨ob, oo, none⟩ (.int .i64 1)).alloc (.cells #[.pointer (some ⟨rb, 0, none⟩), .pointer (some ⟨ob, oo, none⟩)] 58)).drewN q1 = w1
  obtain ⟨hMID, hTM, hT1, hbx1⟩ := HD.out w1 q1 hw1.symm
  have hb1 : At w1 rb 56 _ := HR.out.blk.turns hT1 (Ne.symm hobr)
  have b0 : w1.cell? ⟨w.heap.size, 0, none⟩ = some (.pointer (some ⟨rb, 0, none⟩)) := hbx1.get 0
  have b1 : w1.cell? ⟨rb, 0, none⟩ = some (.slice (some ⟨dg, 0, none⟩) s.data.length dc) := hb1.get 0
  have b5 : w1.cell? ⟨rb, 5, none⟩ = some (.int .i64 at_) := hb1.get 5
  have z5 := hb1.soft 5
  have HMID := hide hMID; have HTM := hide hTM
  have hrl1 := hb1.size_lt
  clear hMID hTM hT1 hbx1 hb1 hw1 HD d0 d5 f5 c1 f1
  go_region
  go_wp2_with fail
  have hsl : Sl (w1.setCell ⟨rb, 5, none⟩ (.int .i64 (s.data.length : Nat))) 1 (some ⟨dg, at_, none⟩) (s.data.drop at_).length ((s.data.drop at_).map (Value.int .u8)) := by
    refine ⟨by simp, fun _ => ⟨_, rfl, (HMID.out.rd.data.lt dg rfl).2, fun j u hu => ?_⟩⟩
    rw [show (⟨dg, at_, none⟩ : Addr).add j = (⟨dg, 0, none⟩ : Addr).add (at_ + j) by unfold Addr.add; simp only; split <;> split <;> simp_all <;> omega]
    refine HMID.out.rd.data.cells (g := dg) rfl _ _ ?_
    rw [List.getElem?_map, List.getElem?_drop] at hu
    rw [List.getElem?_map]
    exact hu
  generalize w1.setCell ⟨rb, 5, none⟩ (.int .i64 (s.data.length : Nat)) = w2 at *
  have hln : (s.data.drop at_).length = s.data.length - at_ := List.length_drop
  have HWR : Hid (∀ q, Calls Tryd.prog 37 #[.pointer (some ⟨wb, 0, none⟩), .slice (some ⟨dg, at_, none⟩) (s.data.length - at_) (dc - at_)] (w2.drewN q) (WritePost B wb room quiet direct gv wv got writes (s.data.drop at_) E (w2.drewN q))) := by
    intro q
    have := write_any (pcap := dc - at_) (HMID.out.wr.drawn q) ((HMID.out.env.to (by omega)).drawn q) (hsl.drawn q) (by rw [hln]; omega) (by omega) HNE.out HNW.out hroom hr1 hr2 hgl (by rw [hln]; omega) hwl
    rw [hln] at this
    exact this
  refine (HWR.out _).mono ?_
  rintro e w3 ⟨gv', wv', rfl, hW3, n1, n2, ht⟩
  rw [hln] at hW3 ⊢
  obtain ⟨hM3, k1, k2, k3⟩ := dwrote ⟨HMID.out.rd.drawn _, HMID.out.wr.drawn _, HMID.out.at_.drawn _, HMID.out.box.drawn _, HMID.out.env.drawn _⟩ (HTM.out.drawn _) hBo hB0 HAP1.out HAP2.out HAP3.out hW3 n1 n2 ht
  have hml := takes_le room got.length (s.data.length - at_)
  have fin : ∀ (q code : Nat), (code = wtCode s.broken quiet (takes room got.length (s.data.length - at_)) (s.data.length - at_)) →
      DirectPost B rb wb ob oo ot ocs s (.slice (some ⟨dg, 0, none⟩) s.data.length dc) pv av at_ pc asked room quiet direct gv wv got writes E w (.returned (.tuple #[.int .i64 (takes room got.length (s.data.length - at_) : Nat), errVal E code])) (w3.drewN q) := by
    intro q code hc
    subst hc
    refine ⟨gv', wv', rfl, hM3.rd.drawn q, ?_, hM3.at_.drawn q, k1, k2, k3.drawn q⟩
    rw [if_neg (by omega)]
    exact hM3.wr.drawn q
  have HF := hide fin
  have k4 := nErrs_ge
  have e1 : w3.cell? ⟨1, 0, none⟩ = some (.iface 78 (.pointer (some (E 1)))) := hM3.env.cell 1 (by omega)
  have e3 : w3.cell? ⟨3, 0, none⟩ = some (.iface 78 (.pointer (some (E 3)))) := hM3.env.cell 3 (by omega)
  have g0 : w3.cell? ⟨w.heap.size, 0, none⟩ = some (.pointer (some ⟨rb, 0, none⟩)) := hM3.box.get 0
  have g3 : w3.cell? ⟨rb, 3, none⟩ = some (.bool s.broken) := hM3.rd.blk.get 3
  clear fin hM3 k1 k2 k3 hW3 n1 n2 ht HWR hsl HMID HTM b0 b1 b5 z5 hln
  generalize hm' : takes room got.length (s.data.length - at_) = m at *
  generalize hn' : s.data.length - at_ = n at *
  clear hm' hn'
  by_cases hmn : m < n
  · have hmi : (m : Int) < (n : Int) := by omega
    cases quiet with
    | true =>
      rw [if_neg (by simp)]
      have ev : errVal E 0 = .nilIface := rfl
      rw [ev]
      clear ev
      go_wp2
      go_ret2
      exact HF.out 0 4 (by simp [wtCode, hmn])
    | false =>
      rw [if_pos ⟨hmn, rfl⟩]
      have ev : errVal E 3 = .iface 78 (.pointer (some (E 2))) := rfl
      rw [ev]
      clear ev
      go_wp2
      go_ret2
      exact HF.out 0 3 (by simp [wtCode, hmn])
  · obtain rfl : m = n := by omega
    have hmi : ¬ ((m : Int) < (m : Int)) := by omega
    rw [if_neg (by simp)]
    have ev : errVal E 0 = .nilIface := rfl
    rw [ev]
    clear ev
    cases hbk : s.broken with
    | true =>
      rw [hbk] at g3
      go_wp2_with fail
      go_quiet (fail)
      rename Nat => q5
      go_wp2
      go_ret2
      exact HF.out _ 2 (by simp [wtCode, hbk])
    | false =>
      rw [hbk] at g3
      go_wp2
      go_ret2
      exact HF.out 0 0 (by simp [wtCode, hbk])


set_option maxHeartbeats 1000000 in
theorem writeTo_nil {B0 B rb wb ob oo pc : Nat} {ot T : TypeId} {v : Value} {ocs : Array Value} {w : World} {s : Src} {pv av gv wv : Value} {room r0 : Int} {quiet direct : Bool} {asked got writes : List Int} {E : Nat → Addr}
    (hR : Rd B w rb s (.slice none 0 0) pv av s.data.length pc asked) (hW : Wr B w wb room quiet direct gv wv got writes) (hE : Env B0 E w) (ho : At w ob ot ocs) (hoo : ocs[oo]? = some (.int .i64 r0)) (hBo : ob < B) (hB0 : B0 ≤ ob) (hdl : s.data.length ≤ 100000000) (hz : s.data.length = 0) :
    Calls Tryd.prog 33 #[.agg #[.pointer (some ⟨rb, 0, none⟩), .pointer (some ⟨ob, oo, none⟩)], .iface T v] w (DirectPost B rb wb ob oo ot ocs s (.slice none 0 0) pv av s.data.length pc asked room quiet direct gv wv got writes E w) := by
  have c1 : w.cell? ⟨ob, oo, none⟩ = some (.int .i64 r0) := ho.get! hoo
  have f1 := ho.soft oo
  have hlo := ho.size_lt
  have hlr := hR.blk.size_lt
  have hobr : ob ≠ rb := by have := hR.base; omega
  have d0 : w.cell? ⟨rb, 0, none⟩ = some (.slice none 0 0) := hR.blk.get 0
  have d5 : w.cell? ⟨rb, 5, none⟩ = some (.int .i64 0) := by have := hR.blk.get 5; simpa [hz] using this
  have f5 := hR.blk.soft 5
  have HD := hide (fun w1 => dmid (w1 := w1) (oo := oo) hR hW hE ho hBo hB0)
  have HR := hide hR; have HO := hide ho; have HZ := hide hz
  clear hR hW hE ho hoo hz
  go_enter Tryd.func33, Tryd.ntmps33
  go_wp2_with fail
  go_quiet (fail)
  rename Nat => q1
  go_wp2_with fail
  generalize hw1 : ((w.setCell ⟨ob, oo, none⟩ (.int .i64 1)).alloc (.cells #[.pointer (some ⟨rb, 0, none⟩), .pointer (some ⟨ob, oo, none⟩)] 58)).drewN q1 = w1
  obtain ⟨hMID, hTM, hT1, hbx1⟩ := HD.out w1 q1 hw1.symm
  have hb1 : At w1 rb 56 _ := HR.out.blk.turns hT1 (Ne.symm hobr)
  have b0 : w1.cell? ⟨w.heap.size, 0, none⟩ = some (.pointer (some ⟨rb, 0, none⟩)) := hbx1.get 0
  have b1 : w1.cell? ⟨rb, 0, none⟩ = some (.slice none 0 0) := hb1.get 0
  have b5 : w1.cell? ⟨rb, 5, none⟩ = some (.int .i64 0) := by have := hb1.get 5; simpa [HZ.out] using this
  have z5 := hb1.soft 5
  have e5 : (Value.int .i64 ((s.data.length : Nat) : Int)) = .int .i64 0 := by rw [HZ.out]; rfl
  rw [e5] at hMID hTM
  clear e5
  have HMID := hide hMID; have HTM := hide hTM
  have hrl1 := hb1.size_lt
  clear hMID hTM hT1 hbx1 hb1 hw1 HD d0 d5 f5 c1 f1
  go_region
  generalize w1.setCell ⟨rb, 5, none⟩ (.int .i64 0) = w2 at *
  have k4 := nErrs_ge
  have e1 : w2.cell? ⟨1, 0, none⟩ = some (.iface 78 (.pointer (some (E 1)))) := HMID.out.env.cell 1 (by omega)
  have g0 : w2.cell? ⟨w.heap.size, 0, none⟩ = some (.pointer (some ⟨rb, 0, none⟩)) := HMID.out.box.get 0
  have g3 : w2.cell? ⟨rb, 3, none⟩ = some (.bool s.broken) := HMID.out.rd.blk.get 3
  have htk : takes room got.length (s.data.length - s.data.length) = 0 := by rw [Nat.sub_self]; exact Nat.min_eq_left (Nat.zero_le _)
  have fin : ∀ (q code : Nat), (code = if s.broken = true then 2 else 0) →
      DirectPost B rb wb ob oo ot ocs s (.slice none 0 0) pv av s.data.length pc asked room quiet direct gv wv got writes E w (.returned (.tuple #[.int .i64 0, errVal E code])) (w2.drew.drewN q) := by
    intro q code hc
    subst hc
    refine ⟨gv, wv, ?_, (HMID.out.rd.drawn 1).drawn q, ?_, HMID.out.at_.drew.drawn q, Near.refl _ _, Near.refl _ _, ((HTM.out.mono (fun _ _ e => by rcases e with e | e <;> simp [e])).drew).drawn q⟩
    · rw [htk]; simp [wtCode]
    · rw [htk, if_pos (Nat.sub_self _)]; simp only [List.take_zero, List.append_nil]; exact (HMID.out.wr.drawn 1).drawn q
  have HF := hide fin
  clear fin htk HMID HTM b0 b1 b5 z5
  cases hbk : s.broken with
  | true =>
    rw [hbk] at g3
    go_wp2_with fail
    go_quiet (fail)
    rename Nat => q5
    go_wp2
    go_ret2
    exact HF.out _ 2 (by simp [hbk])
  | false =>
    rw [hbk] at g3
    go_wp2
    go_ret2
    exact HF.out 0 0 (by simp [hbk])

set_option maxHeartbeats 1000000 in
theorem writeTo_full {B0 B rb wb ob oo pc : Nat} {ot T : TypeId} {v : Value} {ocs : Array Value} {w : World} {s : Src} {pv av gv wv : Value} {dg : Nat} {room r0 : Int} {quiet direct : Bool} {asked got writes : List Int} {E : Nat → Addr}
    (hR : Rd B w rb s (.slice (some ⟨dg, 0, none⟩) s.data.length s.data.length) pv av s.data.length pc asked) (hW : Wr B w wb room quiet direct gv wv got writes) (hE : Env B0 E w) (ho : At w ob ot ocs) (hoo : ocs[oo]? = some (.int .i64 r0)) (hBo : ob < B) (hB0 : B0 ≤ ob) (hdl : s.data.length ≤ 100000000) :
    Calls Tryd.prog 33 #[.agg #[.pointer (some ⟨rb, 0, none⟩), .pointer (some ⟨ob, oo, none⟩)], .iface T v] w (DirectPost B rb wb ob oo ot ocs s (.slice (some ⟨dg, 0, none⟩) s.data.length s.data.length) pv av s.data.length pc asked room quiet direct gv wv got writes E w) := by
  have c1 : w.cell? ⟨ob, oo, none⟩ = some (.int .i64 r0) := ho.get! hoo
  have f1 := ho.soft oo
  have hlo := ho.size_lt
  have hlr := hR.blk.size_lt
  have hobr : ob ≠ rb := by have := hR.base; omega
  have d0 : w.cell? ⟨rb, 0, none⟩ = some (.slice (some ⟨dg, 0, none⟩) s.data.length s.data.length) := hR.blk.get 0
  have d5 : w.cell? ⟨rb, 5, none⟩ = some (.int .i64 s.data.length) := hR.blk.get 5
  have f5 := hR.blk.soft 5
  have HD := hide (fun w1 => dmid (w1 := w1) (oo := oo) hR hW hE ho hBo hB0)
  have HR := hide hR; have HO := hide ho
  clear hR hW hE ho hoo
  have s1 : (0 : Int) ≤ (s.data.length : Int) := by omega
  have s2 : (s.data.length : Int) ≤ (s.data.length : Int) := by omega
  go_enter Tryd.func33, Tryd.ntmps33
  go_wp2_with fail
  go_quiet (fail)
  rename Nat => q1
  go_wp2_with fail
  generalize hw1 : ((w.setCell ⟨ob, oo, none⟩ (.int .i64 1)).alloc (.cells #[.pointer (some ⟨rb, 0, none⟩), .pointer (some ⟨ob, oo, none⟩)] 58)).drewN q1 = w1
  obtain ⟨hMID, hTM, hT1, hbx1⟩ := HD.out w1 q1 hw1.symm
  have hb1 : At w1 rb 56 _ := HR.out.blk.turns hT1 (Ne.symm hobr)
  have b0 : w1.cell? ⟨w.heap.size, 0, none⟩ = some (.pointer (some ⟨rb, 0, none⟩)) := hbx1.get 0
  have b1 : w1.cell? ⟨rb, 0, none⟩ = some (.slice (some ⟨dg, 0, none⟩) s.data.length s.data.length) := hb1.get 0
  have b5 : w1.cell? ⟨rb, 5, none⟩ = some (.int .i64 s.data.length) := hb1.get 5
  have z5 := hb1.soft 5
  have HMID := hide hMID; have HTM := hide hTM
  have hrl1 := hb1.size_lt
  clear hMID hTM hT1 hbx1 hb1 hw1 HD d0 d5 f5 c1 f1
  go_region
  generalize w1.setCell ⟨rb, 5, none⟩ (.int .i64 (s.data.length : Nat)) = w2 at *
  have k4 := nErrs_ge
  have e1 : w2.cell? ⟨1, 0, none⟩ = some (.iface 78 (.pointer (some (E 1)))) := HMID.out.env.cell 1 (by omega)
  have g0 : w2.cell? ⟨w.heap.size, 0, none⟩ = some (.pointer (some ⟨rb, 0, none⟩)) := HMID.out.box.get 0
  have g3 : w2.cell? ⟨rb, 3, none⟩ = some (.bool s.broken) := HMID.out.rd.blk.get 3
  have htk : takes room got.length (s.data.length - s.data.length) = 0 := by rw [Nat.sub_self]; exact Nat.min_eq_left (Nat.zero_le _)
  have fin : ∀ (q code : Nat), (code = if s.broken = true then 2 else 0) →
      DirectPost B rb wb ob oo ot ocs s (.slice (some ⟨dg, 0, none⟩) s.data.length s.data.length) pv av s.data.length pc asked room quiet direct gv wv got writes E w (.returned (.tuple #[.int .i64 0, errVal E code])) (w2.drew.drewN q) := by
    intro q code hc
    subst hc
    refine ⟨gv, wv, ?_, (HMID.out.rd.drawn 1).drawn q, ?_, HMID.out.at_.drew.drawn q, Near.refl _ _, Near.refl _ _, ((HTM.out.mono (fun _ _ e => by rcases e with e | e <;> simp [e])).drew).drawn q⟩
    · rw [htk]; simp [wtCode]
    · rw [htk, if_pos (Nat.sub_self _)]; simp only [List.take_zero, List.append_nil]; exact (HMID.out.wr.drawn 1).drawn q
  have HF := hide fin
  clear fin htk HMID HTM b0 b1 b5 z5
  cases hbk : s.broken with
  | true =>
    rw [hbk] at g3
    go_wp2_with fail
    go_quiet (fail)
    rename Nat => q5
    go_wp2
    go_ret2
    exact HF.out _ 2 (by simp [hbk])
  | false =>
    rw [hbk] at g3
    go_wp2
    go_ret2
    exact HF.out 0 0 (by simp [hbk])

set_option maxHeartbeats 1000000 in
theorem writeTo_spare {B0 B rb wb ob oo pc : Nat} {ot T : TypeId} {v : Value} {ocs : Array Value} {w : World} {s : Src} {pv av gv wv : Value} {dg dc : Nat} {room r0 : Int} {quiet direct : Bool} {asked got writes : List Int} {E : Nat → Addr}
    (hR : Rd B w rb s (.slice (some ⟨dg, 0, none⟩) s.data.length dc) pv av s.data.length pc asked) (hW : Wr B w wb room quiet direct gv wv got writes) (hE : Env B0 E w) (ho : At w ob ot ocs) (hoo : ocs[oo]? = some (.int .i64 r0)) (hBo : ob < B) (hB0 : B0 ≤ ob) (hdl : s.data.length ≤ 100000000) (hdc : s.data.length < dc) (hdm : dc ≤ 9223372036854775807) :
    Calls Tryd.prog 33 #[.agg #[.pointer (some ⟨rb, 0, none⟩), .pointer (some ⟨ob, oo, none⟩)], .iface T v] w (DirectPost B rb wb ob oo ot ocs s (.slice (some ⟨dg, 0, none⟩) s.data.length dc) pv av s.data.length pc asked room quiet direct gv wv got writes E w) := by
  have c1 : w.cell? ⟨ob, oo, none⟩ = some (.int .i64 r0) := ho.get! hoo
  have f1 := ho.soft oo
  have hlo := ho.size_lt
  have hlr := hR.blk.size_lt
  have hobr : ob ≠ rb := by have := hR.base; omega
  have d0 : w.cell? ⟨rb, 0, none⟩ = some (.slice (some ⟨dg, 0, none⟩) s.data.length dc) := hR.blk.get 0
  have d5 : w.cell? ⟨rb, 5, none⟩ = some (.int .i64 s.data.length) := hR.blk.get 5
  have f5 := hR.blk.soft 5
  have HD := hide (fun w1 => dmid (w1 := w1) (oo := oo) hR hW hE ho hBo hB0)
  have HR := hide hR; have HO := hide ho
  clear hR hW hE ho hoo
  have s1 : (0 : Int) ≤ (s.data.length : Int) := by omega
  have s2 : (s.data.length : Int) ≤ (s.data.length : Int) := by omega
  have s3 : (s.data.length : Int) ≤ (dc : Int) := by omega
  have s7 : ¬ dc = s.data.length := by omega
  go_enter Tryd.func33, Tryd.ntmps33
  go_wp2_with fail
  go_quiet (fail)
  rename Nat => q1
  go_wp2_with fail
  generalize hw1 : ((w.setCell ⟨ob, oo, none⟩ (.int .i64 1)).alloc (.cells #[.pointer (some ⟨rb, 0, none⟩), .pointer (some ⟨ob, oo, none⟩)] 58)).drewN q1 = w1
  obtain ⟨hMID, hTM, hT1, hbx1⟩ := HD.out w1 q1 hw1.symm
  have hb1 : At w1 rb 56 _ := HR.out.blk.turns hT1 (Ne.symm hobr)
  have b0 : w1.cell? ⟨w.heap.size, 0, none⟩ = some (.pointer (some ⟨rb, 0, none⟩)) := hbx1.get 0
  have b1 : w1.cell? ⟨rb, 0, none⟩ = some (.slice (some ⟨dg, 0, none⟩) s.data.length dc) := hb1.get 0
  have b5 : w1.cell? ⟨rb, 5, none⟩ = some (.int .i64 s.data.length) := hb1.get 5
  have z5 := hb1.soft 5
  have HMID := hide hMID; have HTM := hide hTM
  have hrl1 := hb1.size_lt
  clear hMID hTM hT1 hbx1 hb1 hw1 HD d0 d5 f5 c1 f1
  go_region
  generalize w1.setCell ⟨rb, 5, none⟩ (.int .i64 (s.data.length : Nat)) = w2 at *
  have k4 := nErrs_ge
  have e1 : w2.cell? ⟨1, 0, none⟩ = some (.iface 78 (.pointer (some (E 1)))) := HMID.out.env.cell 1 (by omega)
  have g0 : w2.cell? ⟨w.heap.size, 0, none⟩ = some (.pointer (some ⟨rb, 0, none⟩)) := HMID.out.box.get 0
  have g3 : w2.cell? ⟨rb, 3, none⟩ = some (.bool s.broken) := HMID.out.rd.blk.get 3
  have htk : takes room got.length (s.data.length - s.data.length) = 0 := by rw [Nat.sub_self]; exact Nat.min_eq_left (Nat.zero_le _)
  have fin : ∀ (q code : Nat), (code = if s.broken = true then 2 else 0) →
      DirectPost B rb wb ob oo ot ocs s (.slice (some ⟨dg, 0, none⟩) s.data.length dc) pv av s.data.length pc asked room quiet direct gv wv got writes E w (.returned (.tuple #[.int .i64 0, errVal E code])) (w2.drew.drewN q) := by
    intro q code hc
    subst hc
    refine ⟨gv, wv, ?_, (HMID.out.rd.drawn 1).drawn q, ?_, HMID.out.at_.drew.drawn q, Near.refl _ _, Near.refl _ _, ((HTM.out.mono (fun _ _ e => by rcases e with e | e <;> simp [e])).drew).drawn q⟩
    · rw [htk]; simp [wtCode]
    · rw [htk, if_pos (Nat.sub_self _)]; simp only [List.take_zero, List.append_nil]; exact (HMID.out.wr.drawn 1).drawn q
  have HF := hide fin
  clear fin htk HMID HTM b0 b1 b5 z5
  cases hbk : s.broken with
  | true =>
    rw [hbk] at g3
    go_wp2_with fail
    go_quiet (fail)
    rename Nat => q5
    go_wp2
    go_ret2
    exact HF.out _ 2 (by simp [hbk])
  | false =>
    rw [hbk] at g3
    go_wp2
    go_ret2
    exact HF.out 0 0 (by simp [hbk])

/-- A WriteTo, wherever the source stands. -/
theorem writeTo_any {B0 B rb wb ob oo at_ pc : Nat} {ot T : TypeId} {v : Value} {ocs : Array Value} {w : World} {s : Src} {dv pv av gv wv : Value} {room r0 : Int} {quiet direct : Bool} {asked got writes : List Int} {E : Nat → Addr}
    (hm : ∀ W : World, (method 200 T v "Write").run Tryd.prog W = .ok (37, .pointer (some ⟨wb, 0, none⟩)) W)
    (hR : Rd B w rb s dv pv av at_ pc asked) (hW : Wr B w wb room quiet direct gv wv got writes) (hE : Env B0 E w) (ho : At w ob ot ocs) (hoo : ocs[oo]? = some (.int .i64 r0)) (hBo : ob < B) (hB0 : B0 ≤ ob)
    (ap1 : ∀ g, gv.ownBlock = some g → dv.ownBlock ≠ some g) (ap2 : ∀ g, wv.ownBlock = some g → pv.ownBlock ≠ some g) (ap3 : ∀ g, wv.ownBlock = some g → av.ownBlock ≠ some g)
    (hroom : (got.length : Int) ≤ imax room 0) (hr1 : -9223372036854775808 ≤ room) (hr2 : room ≤ 9223372036854775807) (hle : at_ ≤ s.data.length) (hdl : s.data.length ≤ 100000000) (hgl : got.length ≤ 1000000000) (hwl : writes.length ≤ 1000000000) :
    Calls Tryd.prog 33 #[.agg #[.pointer (some ⟨rb, 0, none⟩), .pointer (some ⟨ob, oo, none⟩)], .iface T v] w (DirectPost B rb wb ob oo ot ocs s dv pv av at_ pc asked room quiet direct gv wv got writes E w) := by
  rcases Nat.eq_or_lt_of_le hle with rfl | hlt
  · rcases hR.data.2 with ⟨rfl, h0⟩ | ⟨dg, dc, dcur, rfl, _, _, hdc, hdm, _⟩
    · exact writeTo_nil hR hW hE ho hoo hBo hB0 hdl h0
    · unfold maxLen at hdm
      rcases Nat.eq_or_lt_of_le hdc with h1 | h1
      · subst h1
        exact writeTo_full hR hW hE ho hoo hBo hB0 hdl
      · exact writeTo_spare hR hW hE ho hoo hBo hB0 hdl h1 hdm
  · exact writeTo_some hm hR hW hE ho hoo hBo hB0 ap1 ap2 ap3 hroom hr1 hr2 hlt hdl hgl hwl

end Go.Proofs.YtdcdbbcphkhmeaaDoor
