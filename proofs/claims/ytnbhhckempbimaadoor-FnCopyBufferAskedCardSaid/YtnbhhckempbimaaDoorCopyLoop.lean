/-
  What io.copyBuffer does with a reader without a WriteTo, a writer without a ReadFrom and a buffer of at least one byte: it copies in pieces.
-/
import Derived.Test.YtnbhhckempbimaaDoorCopyBase
namespace Go.Proofs.YtnbhhckempbimaaDoor
open Go.RowKit
set_option linter.unusedVariables false
set_option maxRecDepth 100000

/-- What a write of the last read's bytes returned, and what it means for the copy. -/
def Wrote (B : Nat) (w0 : World) (rb wb pb size : Nat) (s : Src) (dv pv av0 : Value) (room : Int) (quiet direct : Bool) (gv0 wv0 : Value) (plen : Nat) (E : Nat → Addr) (k : Nat) (av : Value) (pcur : List Value) (nw : Nat) (ev : Value) (w : World) : Prop :=
  Env B E w ∧
  ((nw < (s.piece size k).bytes.length ∧ ev = errVal E (if quiet = true then 0 else 3) ∧ (s.pos size k).1 + nw = s.most room ∧ s.copyCode room quiet = (if quiet = true then 4 else 3) ∧ ∃ gv' wv', ∀ q, CopyEnd B w0 (w.drewN q) rb wb pb size s dv pv av0 room quiet direct gv0 wv0 plen k av gv' wv' pcur) ∨
   (nw = (s.piece size k).bytes.length ∧ ev = .nilIface ∧ (s.piece size k).code = 0 ∧ (s.pos size (k + 1)).1 = (s.pos size k).1 + nw ∧ ∀ q, CopyInv B w0 rb wb pb size s dv pv av0 room quiet direct gv0 wv0 plen E (k + 1) (w.drewN q)) ∨
   (nw = (s.piece size k).bytes.length ∧ ev = .nilIface ∧ (s.piece size k).code = s.endCode ∧ (s.pos size k).1 + nw = s.most room ∧ s.copyCode room quiet = (if s.broken = true then 2 else 0) ∧ ∃ gv' wv', ∀ q, CopyEnd B w0 (w.drewN q) rb wb pb size s dv pv av0 room quiet direct gv0 wv0 plen k av gv' wv' pcur))

theorem CopyMid.drawn {B rb wb pb size plen k : Nat} {w0 w : World} {s : Src} {dv pv av0 av gv wv gv0 wv0 : Value} {room : Int} {quiet direct : Bool} {E : Nat → Addr} {pcur : List Value} (h : CopyMid B w0 rb wb pb size s dv pv av0 room quiet direct gv0 wv0 plen E k av gv wv pcur w) (q : Nat) :
    CopyMid B w0 rb wb pb size s dv pv av0 room quiet direct gv0 wv0 plen E k av gv wv pcur (w.drewN q) := ⟨h.pair.drawn q, h.len, h.src, h.since.drawn q, h.env.drawn q, h.before⟩

/-- The write of the last read's bytes. -/
theorem copy_write {B rb wb pb size plen k cap : Nat} {w0 w : World} {s : Src} {dv pv av0 av gv wv gv0 wv0 : Value} {room : Int} {quiet direct : Bool} {E : Nat → Addr} {pcur : List Value} (h0 : 0 < size)
    (h : CopyMid B w0 rb wb pb size s dv pv av0 room quiet direct gv0 wv0 plen E k av gv wv pcur w) (hn : 0 < (s.piece size k).bytes.length) (hcap : size ≤ cap) (hcm : cap ≤ 9223372036854775807) (hs9 : size ≤ 1000000000)
    (hr1 : -9223372036854775808 ≤ room) (hr2 : room ≤ 9223372036854775807) (hdl : s.data.length ≤ 100000000) :
    Calls Tryd.prog 43 #[.pointer (some ⟨wb, 0, none⟩), .slice (some ⟨pb, 0, none⟩) (s.piece size k).bytes.length cap] w
      fun e w' => ∃ nw ev, e = .returned (.tuple #[.int .i64 (nw : Nat), ev]) ∧ Wrote B w0 rb wb pb size s dv pv av0 room quiet direct gv0 wv0 plen E k av pcur nw ev w' ∧
        ∀ (g : Nat) (t : TypeId) (cs : Array Value), 57 ≠ t → 5 ≠ t → 3 ≠ t → At w g t cs → At w' g t cs := by
  have hle : (s.piece size k).bytes.length ≤ size := s.read_bytes_le _ _ _
  have hpl := s.pos_le size k
  have hlen : (s.data.take (s.pos size k).1).length = (s.pos size k).1 := by rw [List.length_take]; exact Nat.min_eq_left hpl
  have hrm := s.pos_room room size k h.before
  have hge := s.pos_ge room size k h0 h.before
  have hll := s.lens_length size k
  refine (write_any h.pair.wr h.env h.src (by omega) hcm (Ne.symm (fun e => h.pair.pb_wb e.symm)) (own_ne h.pair.wr.notes h.pair.buf (by decide)) ?_ hr1 hr2 (by rw [hlen]; omega) (by omega) (by omega)).mono ?_
  · rw [hlen]
    unfold imax
    split <;> omega
  · intro e w' hw
    have hkeep : ∀ (g : Nat) (t : TypeId) (cs : Array Value), 57 ≠ t → 5 ≠ t → 3 ≠ t → At w g t cs → At w' g t cs := by
      intro g t cs n1 n2 n3 hg
      obtain ⟨gv', wv', _, _, _, _, ht⟩ := hw
      refine hg.turns ht ?_
      rintro (e | e | e)
      · subst e; exact h.pair.wr.blk.apart hg n1 rfl
      · exact own_ne h.pair.wr.got hg n2 e
      · exact own_ne h.pair.wr.notes hg n3 e
    obtain ⟨hE, h1 | h1⟩ := copy_wrote h0 h hn hw
    · obtain ⟨a1, a2, a3, a4, a5, a6⟩ := h1
      exact ⟨_, _, a2, ⟨hE, .inl ⟨a3, rfl, a4, a5, a6⟩⟩, hkeep⟩
    · obtain ⟨a1, a2, h2 | h2⟩ := h1
      · exact ⟨_, _, a1, ⟨hE, .inr (.inl ⟨rfl, rfl, h2.1, a2, h2.2.2⟩)⟩, hkeep⟩
      · exact ⟨_, _, a1, ⟨hE, .inr (.inr ⟨rfl, rfl, h2.1, h2.2.1, h2.2.2.1, h2.2.2.2⟩)⟩, hkeep⟩

theorem eqNil (a : Option Addr) (l c : Nat) (w : World) : (binOp .eql 22 (.slice a l c) (.slice none 0 0)).run Tryd.prog w = .ok (.bool a.isNone) w := Lib.run_eql_slice_nil w _ _ a l c 0 0 Tryd.underlying22

set_option maxHeartbeats 2000000 in
theorem copyLoop {B rb wb pb size cap : Nat} {w : World} {s : Src} {dv pv av gv wv : Value} {room : Int} {quiet direct : Bool} {E : Nat → Addr} {pcur : List Value}
    (h : Pair B w rb wb pb s dv pv av 0 0 [] room quiet direct gv wv [] [] pcur) (hE : Env B E w) (hsz : size ≤ pcur.length) (h0 : 0 < size) (hcap : size ≤ cap) (hcm : cap ≤ 9223372036854775807) (hs9 : size ≤ 1000000000)
    (hr1 : -9223372036854775808 ≤ room) (hr2 : room ≤ 9223372036854775807) (hdl : s.data.length ≤ 100000000) (hpl : s.pieces.length ≤ 1000000000) :
    Calls Tryd.prog 25 #[.iface 55 (.pointer (some ⟨wb, 0, none⟩)), .iface 49 (.pointer (some ⟨rb, 0, none⟩)), .slice (some ⟨pb, 0, none⟩) size cap] w (CopyPost B rb wb pb size s dv pv av room quiet direct gv wv pcur.length E w) := by
  have a1 := as_wt_plain
  have a2 := as_rf_plain
  have a3 := m_read
  have a4 := m_write
  have a5 := c_read
  have a6 := c_write
  have a7 := n_write
  have a8 := mkF
  have a9 := eqNil
  have HI : Hid (CopyInv B w rb wb pb size s dv pv av room quiet direct gv wv pcur.length E 0 w) := ⟨av, gv, wv, pcur, h, rfl, Since.refl _ _ _ _ _ _ _, hE, fun j hj => absurd hj (Nat.not_lt_zero j)⟩
  clear h hE
  generalize hpp : pcur.length = plen at *
  clear hpp
  go_enter Tryd.func25, Tryd.ntmps25
  go_wp2_with fail
  clear a1 a2
  go_loopw [6, 7] (fun a e wr => ∃ k : Nat, a = .int .i64 ((s.pos size k).1 : Nat) ∧ e = .nilIface ∧ Hid (CopyInv B w rb wb pb size s dv pv av room quiet direct gv wv plen E k wr)) (fun a _ _ => s.data.length + 1 - (intOf a).toNat)
  case atStart => exact ⟨0, rfl, rfl, HI.out⟩
  case round =>
    clear HI
    obtain ⟨k, rfl, rfl, HI⟩ := hrel
    obtain ⟨av', gv', wv', pcur', hP, hL, hS, hE, hB⟩ := HI.out
    have hk1 := s.pos_ge room size k h0 hB
    have hk2 := s.pos_le size k
    have hk3 := s.pos_room room size k hB
    have HP := hide hP; have HL := hide hL; have HS := hide hS; have HE := hide hE; have HB := hide hB
    clear hP hL hS hE hB HI
    go_wp2_with fail
    refine (read_any HP.out.rd HE.out HP.out.buf (by rw [List.length_replicate]; omega) (by rw [HL.out]; exact hsz) hk2 (by omega) hpl HP.out.d1 HP.out.bp).mono ?_
    intro e w1 hread
    obtain ⟨rfl, av2, pcur2, hMid⟩ := copy_mid hsz HP.out HL.out HS.out HE.out HB.out hread
    have HM := hide hMid
    clear hread hMid HP HL HS HE HB
    have hnle : (s.piece size k).bytes.length ≤ size := s.read_bytes_le _ _ _
    have k4 := nErrs_ge
    by_cases hn : (s.piece size k).bytes.length = 0
    · obtain ⟨c1, c2, c3, HC⟩ := copy_none h0 HM.out hn
      rw [hn, c1]
      have e0 := HM.out.env.cell 0 (by omega)
      have HEN := hide HM.out.env
      have HCC := hide HC
      have C2 := hide c2; have C3 := hide c3
      clear HC HM c1 c2 c3
      cases hbk : s.broken with
      | false =>
        have ec : s.endCode = 1 := by simp [Src.endCode, hbk]
        rw [ec]
        have ev : errVal E 1 = .iface 87 (.pointer (some (E 0))) := rfl
        rw [ev]
        have e0' : w1.cell? ⟨0, 0, none⟩ = some (.iface 87 (.pointer (some (E 0)))) := e0
        have hns := neq_same w1
        clear e0 ec ev
        go_wp2
        go_ret2
        refine ⟨k, _, _, _, _, ?_, HCC.out 0⟩
        rw [C2.out, C3.out, if_neg (by simp [hbk])]
        rfl
      | true =>
        have ec : s.endCode = 2 := by simp [Src.endCode, hbk]
        rw [ec]
        have ev : errVal E 2 = .iface 87 (.pointer (some (E 1))) := rfl
        rw [ev]
        have e0' : w1.cell? ⟨0, 0, none⟩ = some (.iface 87 (.pointer (some (E 0)))) := e0
        have hns := neq_other HEN.out (n := 1) (m := 0) (by omega) (by omega) (by omega)
        clear e0 ec ev
        go_wp2
        go_ret2
        refine ⟨k, _, _, _, _, ?_, HCC.out 0⟩
        rw [C2.out, C3.out, if_pos (by simp [hbk])]
        rfl
    · have hnpos : 0 < (s.piece size k).bytes.length := by omega
      have HWRT := hide (fun q => copy_write (cap := cap) h0 (HM.out.drawn q) hnpos hcap hcm hs9 hr1 hr2 hdl)
      clear HM
      generalize hcd : errVal E (s.piece size k).code = ev
      have HCD := hide hcd
      clear hcd hn
      have hni : (0 : Int) < ((s.piece size k).bytes.length : Int) := by omega
      have hnz : (0 : Int) ≤ ((s.piece size k).bytes.length : Int) := by omega
      have hnc : ((s.piece size k).bytes.length : Int) ≤ (cap : Int) := by omega
      go_wp2_with fail
      go_region_held3 (fun _ => True) (trivial) (first | (go_at_call 43; refine (HWRT.out 1).mono ?_; rintro e w2 ⟨nw, ev2, rfl, HX, -⟩))
      clear HWRT
      obtain ⟨hE2, hX⟩ := HX
      have e3 : w2.cell? ⟨3, 0, none⟩ = some (.iface 87 (.pointer (some (E 3)))) := hE2.cell 3 (by omega)
      have e0 : w2.cell? ⟨0, 0, none⟩ = some (.iface 87 (.pointer (some (E 0)))) := hE2.cell 0 (by omega)
      have hns := neq_same w2
      have hno := neq_other hE2 (n := 1) (m := 0) (by omega) (by omega) (by omega)
      have HE2 := hide hE2
      clear hE2
      rcases hX with hX | hX | hX
      · obtain ⟨x1, x2, x3, x4, gx, wx, x5⟩ := hX
        have X3 := hide x3; have X4 := hide x4; have X5 := hide x5
        clear x3 x4 x5
        generalize (s.piece size k).bytes.length = n at *
        generalize (s.pos size k).1 = at_ at *
        have y1 : ¬ ((nw : Int) < 0) := by omega
        have y2 : ¬ ((n : Int) < (nw : Int)) := by omega
        have y3 : ((n : Int) != (nw : Int)) = true := by simp; omega
        cases quiet with
        | true =>
          have hq : ev2 = .nilIface := x2
          subst hq
          clear x2
          go_wp2
          go_ret2
          refine ⟨k, _, gx, wx, _, ?_, X5.out 0⟩
          rw [← X3.out, X4.out]
          simp [errVal]
        | false =>
          have hq : ev2 = .iface 87 (.pointer (some (E 2))) := x2
          subst hq
          clear x2
          go_wp2
          go_ret2
          refine ⟨k, _, gx, wx, _, ?_, X5.out 0⟩
          rw [← X3.out, X4.out, if_neg (by simp)]
          simp [errVal]
      · obtain ⟨rfl, rfl, x3, x4, x5⟩ := hX
        have hev : ev = .nilIface := by rw [← HCD.out, x3]; rfl
        subst hev
        have X4 := hide x4; have X5 := hide x5
        clear x3 x4 x5 HCD
        have hpl2 := s.pos_le size (k + 1)
        have hx4 := X4.out
        generalize (s.piece size k).bytes.length = n at *
        have y1 : ¬ ((n : Int) < 0) := by omega
        have y2 : ¬ ((n : Int) < (n : Int)) := by omega
        have y3 : ((n : Int) != (n : Int)) = false := by simp
        generalize hat : (s.pos size k).1 = at_ at *
        clear hx4
        go_wp2
        go_roundw
        case rel => exact ⟨k + 1, by rw [X4.out]; go_num, rfl, X5.out 0⟩
        case measure => have := X4.out; simp [intOf]; omega
      · obtain ⟨rfl, rfl, x3, x4, x5, gx, wx, x6⟩ := hX
        have X4 := hide x4; have X5 := hide x5; have X6 := hide x6
        clear x4 x5 x6
        have hev : errVal E s.endCode = ev := by rw [← HCD.out, x3]
        clear x3 HCD
        generalize (s.piece size k).bytes.length = n at *
        generalize (s.pos size k).1 = at_ at *
        have y1 : ¬ ((n : Int) < 0) := by omega
        have y2 : ¬ ((n : Int) < (n : Int)) := by omega
        have y3 : ((n : Int) != (n : Int)) = false := by simp
        cases hbk : s.broken with
        | false =>
          have ec : s.endCode = 1 := by simp [Src.endCode, hbk]
          rw [ec] at hev
          have hev' : ev = .iface 87 (.pointer (some (E 0))) := hev.symm
          subst hev'
          clear hev ec
          go_wp2
          go_ret2
          refine ⟨k, _, gx, wx, _, ?_, X6.out 0⟩
          rw [← X4.out, X5.out, if_neg (by simp [hbk])]
          simp [errVal]
        | true =>
          have ec : s.endCode = 2 := by simp [Src.endCode, hbk]
          rw [ec] at hev
          have hev' : ev = .iface 87 (.pointer (some (E 1))) := hev.symm
          subst hev'
          clear hev ec
          go_wp2
          go_ret2
          refine ⟨k, _, gx, wx, _, ?_, X6.out 0⟩
          rw [← X4.out, X5.out, if_pos (by simp [hbk])]
          simp [errVal]

theorem Rd.new {B rb at_ pc : Nat} {w w' : World} {s : Src} {dv pv av : Value} {asked : List Int} (h : Rd B w rb s dv pv av at_ pc asked) (hn : New w w') : Rd B w' rb s dv pv av at_ pc asked :=
  h.turns (Turns.of_new hn (fun _ => False)) (fun h => h) (fun _ _ h => h) (fun _ _ h => h) (fun _ _ h => h)
theorem Wr.new {B wb : Nat} {w w' : World} {room : Int} {quiet direct : Bool} {gv wv : Value} {got writes : List Int} (h : Wr B w wb room quiet direct gv wv got writes) (hn : New w w') : Wr B w' wb room quiet direct gv wv got writes :=
  h.turns (Turns.of_new hn (fun _ => False)) (fun h => h) (fun _ _ h => h) (fun _ _ h => h)

/-- A reader and a writer, and a buffer that has just been made. -/
theorem pair_fresh {B rb wb n at_ pc : Nat} {w : World} {s : Src} {dv pv av gv wv : Value} {room : Int} {quiet direct : Bool} {asked got writes : List Int} (hR : Rd B w rb s dv pv av at_ pc asked) (hW : Wr B w wb room quiet direct gv wv got writes)
    (g1 : ∀ g, gv.ownBlock = some g → dv.ownBlock ≠ some g) (w1 : ∀ g, wv.ownBlock = some g → pv.ownBlock ≠ some g) (w2 : ∀ g, wv.ownBlock = some g → av.ownBlock ≠ some g) :
    Pair B (w.alloc (.cells (zeros n).toArray 5)) rb wb w.heap.size s dv pv av at_ pc asked room quiet direct gv wv got writes (zeros n) :=
  ⟨hR.new (new_alloc _ _), hW.new (new_alloc _ _), At.made _ _ _, g1, fun e => by have := (hW.got.lt _ e).2; omega, fun e => by have := (hR.data.lt _ e).2; omega, w1, w2, by have := hR.base; have := hR.blk.size_lt; omega⟩

set_option maxHeartbeats 2000000 in
theorem copyLoop_nil {B rb wb size : Nat} {w : World} {s : Src} {dv pv av gv wv : Value} {room : Int} {quiet direct : Bool} {E : Nat → Addr} (HSZ : Hid (size = 32768))
    (hR : Rd B w rb s dv pv av 0 0 []) (hW : Wr B w wb room quiet direct gv wv [] []) (g1 : ∀ g, gv.ownBlock = some g → dv.ownBlock ≠ some g) (w1 : ∀ g, wv.ownBlock = some g → pv.ownBlock ≠ some g) (w2 : ∀ g, wv.ownBlock = some g → av.ownBlock ≠ some g)
    (hE : Env B E w) (hr1 : -9223372036854775808 ≤ room) (hr2 : room ≤ 9223372036854775807) (hdl : s.data.length ≤ 100000000) (hpl : s.pieces.length ≤ 1000000000) :
    Calls Tryd.prog 25 #[.iface 55 (.pointer (some ⟨wb, 0, none⟩)), .iface 49 (.pointer (some ⟨rb, 0, none⟩)), .slice none 0 0] w (CopyPost B rb wb w.heap.size size s dv pv av room quiet direct gv wv size E (w.alloc (.cells (zeros size).toArray 5))) := by
  have a1 := as_wt_plain
  have a2 := as_rf_plain
  have a3 := m_read
  have a4 := m_write
  have a5 := c_read
  have a6 := c_write
  have a7 := n_write
  have a8 := mkF
  have a9 := eqNil
  have a10 := as_lim
  have a11 : ∀ W : World, (Instr.makeSlice 22 (.int .i64 32768) (.int .i64 32768)).run Tryd.prog W = .ok (.slice (some ⟨W.heap.size, 0, none⟩) size size) (W.alloc (.cells (zeros size).toArray 5)) := fun W => by
    have := run_make_bytes 22 5 Tryd.underlying22 info5 size (by rw [HSZ.out]; omega) W
    rw [show ((size : Nat) : Int) = 32768 by rw [HSZ.out]; rfl] at this
    exact this
  have h0 : 0 < size := by rw [HSZ.out]; omega
  have hs9 : size ≤ 1000000000 := by rw [HSZ.out]; omega
  have hcm : size ≤ 9223372036854775807 := by omega
  have hcap : size ≤ size := Nat.le_refl _
  have hsz : size ≤ size := Nat.le_refl _
  have HI : Hid (CopyInv B (w.alloc (.cells (zeros size).toArray 5)) rb wb w.heap.size size s dv pv av room quiet direct gv wv size E 0 (w.alloc (.cells (zeros size).toArray 5))) :=
    ⟨av, gv, wv, zeros size, pair_fresh hR hW g1 w1 w2, zeros_length size, Since.refl _ _ _ _ _ _ _, hE.alloc _, fun j hj => absurd hj (Nat.not_lt_zero j)⟩
  clear hR hW hE g1 w1 w2
  go_enter Tryd.func25, Tryd.ntmps25
  go_wp2_with fail
  clear a1 a2 a10 a11
  generalize w.alloc (.cells (zeros size).toArray 5) = w' at *
  generalize w.heap.size = pb at *
  go_loopw [6, 7] (fun a e wr => ∃ k : Nat, a = .int .i64 ((s.pos size k).1 : Nat) ∧ e = .nilIface ∧ Hid (CopyInv B w' rb wb pb size s dv pv av room quiet direct gv wv size E k wr)) (fun a _ _ => s.data.length + 1 - (intOf a).toNat)
  case atStart => exact ⟨0, rfl, rfl, HI.out⟩
  case round =>
    clear HI
    obtain ⟨k, rfl, rfl, HI⟩ := hrel
    obtain ⟨av', gv', wv', pcur', hP, hL, hS, hE, hB⟩ := HI.out
    have hk1 := s.pos_ge room size k h0 hB
    have hk2 := s.pos_le size k
    have hk3 := s.pos_room room size k hB
    have HP := hide hP; have HL := hide hL; have HS := hide hS; have HE := hide hE; have HB := hide hB
    clear hP hL hS hE hB HI
    go_wp2_with fail
    refine (read_any HP.out.rd HE.out HP.out.buf (by rw [List.length_replicate]; omega) (by rw [HL.out]; exact hsz) hk2 (by omega) hpl HP.out.d1 HP.out.bp).mono ?_
    intro e w1 hread
    obtain ⟨rfl, av2, pcur2, hMid⟩ := copy_mid hsz HP.out HL.out HS.out HE.out HB.out hread
    have HM := hide hMid
    clear hread hMid HP HL HS HE HB
    have hnle : (s.piece size k).bytes.length ≤ size := s.read_bytes_le _ _ _
    have k4 := nErrs_ge
    by_cases hn : (s.piece size k).bytes.length = 0
    · obtain ⟨c1, c2, c3, HC⟩ := copy_none h0 HM.out hn
      rw [hn, c1]
      have e0 := HM.out.env.cell 0 (by omega)
      have HEN := hide HM.out.env
      have HCC := hide HC
      have C2 := hide c2; have C3 := hide c3
      clear HC HM c1 c2 c3
      cases hbk : s.broken with
      | false =>
        have ec : s.endCode = 1 := by simp [Src.endCode, hbk]
        rw [ec]
        have ev : errVal E 1 = .iface 87 (.pointer (some (E 0))) := rfl
        rw [ev]
        have e0' : w1.cell? ⟨0, 0, none⟩ = some (.iface 87 (.pointer (some (E 0)))) := e0
        have hns := neq_same w1
        clear e0 ec ev
        go_wp2
        go_ret2
        refine ⟨k, _, _, _, _, ?_, HCC.out 0⟩
        rw [C2.out, C3.out, if_neg (by simp [hbk])]
        rfl
      | true =>
        have ec : s.endCode = 2 := by simp [Src.endCode, hbk]
        rw [ec]
        have ev : errVal E 2 = .iface 87 (.pointer (some (E 1))) := rfl
        rw [ev]
        have e0' : w1.cell? ⟨0, 0, none⟩ = some (.iface 87 (.pointer (some (E 0)))) := e0
        have hns := neq_other HEN.out (n := 1) (m := 0) (by omega) (by omega) (by omega)
        clear e0 ec ev
        go_wp2
        go_ret2
        refine ⟨k, _, _, _, _, ?_, HCC.out 0⟩
        rw [C2.out, C3.out, if_pos (by simp [hbk])]
        rfl
    · have hnpos : 0 < (s.piece size k).bytes.length := by omega
      have HWRT := hide (fun q => copy_write (cap := size) h0 (HM.out.drawn q) hnpos hcap hcm hs9 hr1 hr2 hdl)
      clear HM
      generalize hcd : errVal E (s.piece size k).code = ev
      have HCD := hide hcd
      clear hcd hn
      have hni : (0 : Int) < ((s.piece size k).bytes.length : Int) := by omega
      have hnz : (0 : Int) ≤ ((s.piece size k).bytes.length : Int) := by omega
      have hnc : ((s.piece size k).bytes.length : Int) ≤ (size : Int) := by omega
      go_wp2_with fail
      go_region_held3 (fun _ => True) (trivial) (first | (go_at_call 43; refine (HWRT.out 1).mono ?_; rintro e w2 ⟨nw, ev2, rfl, HX, -⟩))
      clear HWRT
      obtain ⟨hE2, hX⟩ := HX
      have e3 : w2.cell? ⟨3, 0, none⟩ = some (.iface 87 (.pointer (some (E 3)))) := hE2.cell 3 (by omega)
      have e0 : w2.cell? ⟨0, 0, none⟩ = some (.iface 87 (.pointer (some (E 0)))) := hE2.cell 0 (by omega)
      have hns := neq_same w2
      have hno := neq_other hE2 (n := 1) (m := 0) (by omega) (by omega) (by omega)
      have HE2 := hide hE2
      clear hE2
      rcases hX with hX | hX | hX
      · obtain ⟨x1, x2, x3, x4, gx, wx, x5⟩ := hX
        have X3 := hide x3; have X4 := hide x4; have X5 := hide x5
        clear x3 x4 x5
        generalize (s.piece size k).bytes.length = n at *
        generalize (s.pos size k).1 = at_ at *
        have y1 : ¬ ((nw : Int) < 0) := by omega
        have y2 : ¬ ((n : Int) < (nw : Int)) := by omega
        have y3 : ((n : Int) != (nw : Int)) = true := by simp; omega
        cases quiet with
        | true =>
          have hq : ev2 = .nilIface := x2
          subst hq
          clear x2
          go_wp2
          go_ret2
          refine ⟨k, _, gx, wx, _, ?_, X5.out 0⟩
          rw [← X3.out, X4.out]
          simp [errVal]
        | false =>
          have hq : ev2 = .iface 87 (.pointer (some (E 2))) := x2
          subst hq
          clear x2
          go_wp2
          go_ret2
          refine ⟨k, _, gx, wx, _, ?_, X5.out 0⟩
          rw [← X3.out, X4.out, if_neg (by simp)]
          simp [errVal]
      · obtain ⟨rfl, rfl, x3, x4, x5⟩ := hX
        have hev : ev = .nilIface := by rw [← HCD.out, x3]; rfl
        subst hev
        have X4 := hide x4; have X5 := hide x5
        clear x3 x4 x5 HCD
        have hpl2 := s.pos_le size (k + 1)
        have hx4 := X4.out
        generalize (s.piece size k).bytes.length = n at *
        have y1 : ¬ ((n : Int) < 0) := by omega
        have y2 : ¬ ((n : Int) < (n : Int)) := by omega
        have y3 : ((n : Int) != (n : Int)) = false := by simp
        generalize hat : (s.pos size k).1 = at_ at *
        clear hx4
        go_wp2
        go_roundw
        case rel => exact ⟨k + 1, by rw [X4.out]; go_num, rfl, X5.out 0⟩
        case measure => have := X4.out; simp [intOf]; omega
      · obtain ⟨rfl, rfl, x3, x4, x5, gx, wx, x6⟩ := hX
        have X4 := hide x4; have X5 := hide x5; have X6 := hide x6
        clear x4 x5 x6
        have hev : errVal E s.endCode = ev := by rw [← HCD.out, x3]
        clear x3 HCD
        generalize (s.piece size k).bytes.length = n at *
        generalize (s.pos size k).1 = at_ at *
        have y1 : ¬ ((n : Int) < 0) := by omega
        have y2 : ¬ ((n : Int) < (n : Int)) := by omega
        have y3 : ((n : Int) != (n : Int)) = false := by simp
        cases hbk : s.broken with
        | false =>
          have ec : s.endCode = 1 := by simp [Src.endCode, hbk]
          rw [ec] at hev
          have hev' : ev = .iface 87 (.pointer (some (E 0))) := hev.symm
          subst hev'
          clear hev ec
          go_wp2
          go_ret2
          refine ⟨k, _, gx, wx, _, ?_, X6.out 0⟩
          rw [← X4.out, X5.out, if_neg (by simp [hbk])]
          simp [errVal]
        | true =>
          have ec : s.endCode = 2 := by simp [Src.endCode, hbk]
          rw [ec] at hev
          have hev' : ev = .iface 87 (.pointer (some (E 1))) := hev.symm
          subst hev'
          clear hev ec
          go_wp2
          go_ret2
          refine ⟨k, _, gx, wx, _, ?_, X6.out 0⟩
          rw [← X4.out, X5.out, if_pos (by simp [hbk])]
          simp [errVal]


end Go.Proofs.YtnbhhckempbimaaDoor
