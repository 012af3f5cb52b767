/-
  What (taker).ReadFrom of the thin package does with a reader: it copies in pieces of at most seven bytes, and marks the road.
-/
import Derived.Test.YtnbhhckempbimaaDoorCopyLoop
namespace Go.Proofs.YtnbhhckempbimaaDoor
open Go.RowKit
set_option linter.unusedVariables false
set_option maxRecDepth 100000

/-- What a ReadFrom leaves: the mark, then a copy in pieces. -/
def TakePost (B rb wb ob oo : Nat) (ot : TypeId) (ocs : Array Value) (s : Src) (dv pv av : Value) (room : Int) (quiet direct : Bool) (gv wv : Value) (E : Nat → Addr) (w : World) (e : Ending) (w' : World) : Prop :=
  ∃ w0 pb, Turns (· = ob) w w0 ∧ At w0 ob ot (ocs.setIfInBounds oo (.int .i64 2)) ∧ CopyPost B rb wb pb 7 s dv pv av room quiet direct gv wv 7 E w0 e w' ∧ w.heap.size ≤ pb ∧ At w0 pb 5 (zeros 7).toArray

theorem eqlNilLeft (tp : TypeId) (v : Value) (w : World) : (binOp .eql 65 .nilIface (.iface tp v)).run Tryd.prog w = .ok (.bool false) w := run_eql_iface_nil_left w tp v Tryd.underlying65
theorem mk7 (w : World) : (Instr.makeSlice 22 (.int .i64 7) (.int .i64 7)).run Tryd.prog w = .ok (.slice (some ⟨w.heap.size, 0, none⟩) 7 7) (w.alloc (.cells (zeros 7).toArray 5)) :=
  run_make_bytes 22 5 Tryd.underlying22 info5 7 (by omega) w

set_option maxHeartbeats 2000000 in
theorem readFrom_any {B rb wb ob oo : Nat} {ot : TypeId} {ocs : Array Value} {w : World} {s : Src} {dv pv av gv wv : Value} {room r0 : Int} {quiet direct : Bool} {E : Nat → Addr}
    (hR : Rd B w rb s dv pv av 0 0 []) (hW : Wr B w wb room quiet direct gv wv [] []) (ap1 : ∀ g, gv.ownBlock = some g → dv.ownBlock ≠ some g) (ap2 : ∀ g, wv.ownBlock = some g → pv.ownBlock ≠ some g) (ap3 : ∀ g, wv.ownBlock = some g → av.ownBlock ≠ some g)
    (hE : Env B E w) (ho : At w ob ot ocs) (hoo : ocs[oo]? = some (.int .i64 r0)) (hBo : B ≤ ob) (o1 : 63 ≠ ot) (o2 : 57 ≠ ot) (o3 : 5 ≠ ot) (o4 : 3 ≠ ot)
    (hr1 : -9223372036854775808 ≤ room) (hr2 : room ≤ 9223372036854775807) (hdl : s.data.length ≤ 100000000) (hpl : s.pieces.length ≤ 1000000000) :
    Calls Tryd.prog 44 #[.agg #[.pointer (some ⟨wb, 0, none⟩), .pointer (some ⟨ob, oo, none⟩)], .iface 49 (.pointer (some ⟨rb, 0, none⟩))] w (TakePost B rb wb ob oo ot ocs s dv pv av room quiet direct gv wv E w) := by
  have a3 := m_read
  have a5 := c_read
  have a9 := eqlNilLeft
  have a11 := mk7
  have c1 : w.cell? ⟨ob, oo, none⟩ = some (.int .i64 r0) := ho.get! hoo
  have f1 := ho.soft oo
  have hlo := ho.size_lt
  have HR := hide hR; have HW := hide hW; have HE := hide hE; have HO := hide ho
  clear hR hW hE ho hoo
  go_enter Tryd.func44, Tryd.ntmps44
  go_wp2_with fail
  go_region
  go_wp2_with fail
  have hT1 : Turns (· = ob) w ((w.setCell ⟨ob, oo, none⟩ (.int .i64 2)).alloc (.cells #[.pointer (some ⟨wb, 0, none⟩), .pointer (some ⟨ob, oo, none⟩)] 61)) := (Turns.setCell (S := (· = ob)) (Turns.refl _ _) (fun _ => rfl) _).alloc _
  have hbx : At ((w.setCell ⟨ob, oo, none⟩ (.int .i64 2)).alloc (.cells #[.pointer (some ⟨wb, 0, none⟩), .pointer (some ⟨ob, oo, none⟩)] 61)) w.heap.size 61 #[.pointer (some ⟨wb, 0, none⟩), .pointer (some ⟨ob, oo, none⟩)] := At.made' (by simp) _ _
  have ho2 : At ((w.setCell ⟨ob, oo, none⟩ (.int .i64 2)).alloc (.cells #[.pointer (some ⟨wb, 0, none⟩), .pointer (some ⟨ob, oo, none⟩)] 61)) ob ot (ocs.setIfInBounds oo (.int .i64 2)) := (HO.out.put oo _).laid _
  have hws : w.heap.size + 1 = ((w.setCell ⟨ob, oo, none⟩ (.int .i64 2)).alloc (.cells #[.pointer (some ⟨wb, 0, none⟩), .pointer (some ⟨ob, oo, none⟩)] 61)).heap.size := by simp
  rw [hws]
  generalize (w.setCell ⟨ob, oo, none⟩ (.int .i64 2)).alloc (.cells #[.pointer (some ⟨wb, 0, none⟩), .pointer (some ⟨ob, oo, none⟩)] 61) = w2 at *
  have hobr : ob ≠ rb := fun e => HR.out.blk.apart HO.out o1 e.symm
  have hobw : ob ≠ wb := fun e => HW.out.blk.apart HO.out o2 e.symm
  have hR2 : Rd B w2 rb s dv pv av 0 0 [] := HR.out.turns hT1 (Ne.symm hobr) (fun g hg e => own_ne HR.out.data HO.out o3 (e ▸ hg)) (fun g hg e => own_ne HR.out.pieces HO.out o4 (e ▸ hg)) (fun g hg e => own_ne HR.out.notes HO.out o4 (e ▸ hg))
  have hW2 : Wr B w2 wb room quiet direct gv wv [] [] := HW.out.turns hT1 (Ne.symm hobw) (fun g hg e => own_ne HW.out.got HO.out o3 (e ▸ hg)) (fun g hg e => own_ne HW.out.notes HO.out o4 (e ▸ hg))
  have hE2 : Env B E w2 := HE.out.turns hT1 (fun k e => by omega)
  have HP3 := hide ((pair_fresh (n := 7) hR2 hW2 ap1 ap2 ap3).drawn 1)
  have HE3 := hide ((hE2.alloc (.cells (zeros 7).toArray 5)).drawn 1)
  have HBX := hide ((hbx.laid (.cells (zeros 7).toArray 5)).drawn 1)
  have HO3 := hide ((ho2.laid (.cells (zeros 7).toArray 5)).drawn 1)
  have HT3 := hide ((hT1.alloc (.cells (zeros 7).toArray 5)).drawn 1)
  have hlt2 := hT1.size
  clear hT1 hbx ho2 hobr hobw hR2 hW2 hE2 HR HW HE HO c1 f1 hws ap1 ap2 ap3 a11
  generalize w2.heap.size = pb at *
  change Code.wp _ _ _ _ ((w2.alloc (.cells (zeros 7).toArray 5)).drewN 1)
  generalize (w2.alloc (.cells (zeros 7).toArray 5)).drewN 1 = w3 at *
  clear w2
  have HI : Hid (CopyInv B w3 rb wb pb 7 s dv pv av room quiet direct gv wv 7 E 0 w3) := ⟨av, gv, wv, zeros 7, HP3.out, zeros_length 7, Since.refl _ _ _ _ _ _ _, HE3.out, fun j hj => absurd hj (Nat.not_lt_zero j)⟩
  have hcold : ¬ Hot pb rb wb av gv wv w.heap.size := by
    rintro (e | e | e | e | e | e)
    · exact HP3.out.buf.apart HBX.out (by decide) e.symm
    · exact HP3.out.rd.blk.apart HBX.out (by decide) e.symm
    · exact HP3.out.wr.blk.apart HBX.out (by decide) e.symm
    · exact own_ne HP3.out.rd.notes HBX.out (by decide) e
    · exact own_ne HP3.out.wr.got HBX.out (by decide) e
    · exact own_ne HP3.out.wr.notes HBX.out (by decide) e
  have HCOLD := hide hcold
  have fin : ∀ (e : Ending) (w' : World), CopyPost B rb wb pb 7 s dv pv av room quiet direct gv wv 7 E w3 e w' → TakePost B rb wb ob oo ot ocs s dv pv av room quiet direct gv wv E w e w' := fun e w' h => ⟨w3, pb, HT3.out, HO3.out, h, hlt2, HP3.out.buf⟩
  have HF := hide fin
  clear fin hcold HT3 HO3 HP3 HE3
  have h0 : 0 < 7 := by omega
  go_loopw [6] (fun a wr => ∃ k : Nat, a = .int .i64 ((s.pos 7 k).1 : Nat) ∧ Hid (CopyInv B w3 rb wb pb 7 s dv pv av room quiet direct gv wv 7 E k wr)) (fun a _ => s.data.length + 1 - (intOf a).toNat)
  case atStart => exact ⟨0, rfl, HI.out⟩
  case round =>
    clear HI
    obtain ⟨k, rfl, HI⟩ := hrel
    obtain ⟨av', gv', wv', pcur', hP, hL, hS, hE, hB⟩ := HI.out
    have hk1 := s.pos_ge room 7 k h0 hB
    have hk2 := s.pos_le 7 k
    have hk3 := s.pos_room room 7 k hB
    have HP := hide hP; have HL := hide hL; have HS := hide hS; have HE := hide hE; have HB := hide hB
    clear hP hL hS hE hB HI
    go_wp2_with fail
    refine (read_any HP.out.rd HE.out HP.out.buf (by rw [List.length_replicate]; omega) (by rw [HL.out]; exact Nat.le_refl _) hk2 (by omega) hpl HP.out.d1 HP.out.bp).mono ?_
    intro e w1 hread
    obtain ⟨rfl, av2, pcur2, hMid⟩ := copy_mid (Nat.le_refl 7) HP.out HL.out HS.out HE.out HB.out hread
    have HM := hide hMid
    clear hread hMid HP HL HS HE HB
    have hnle : (s.piece 7 k).bytes.length ≤ 7 := s.read_bytes_le _ _ _
    have k4 := nErrs_ge
    by_cases hn : (s.piece 7 k).bytes.length = 0
    · obtain ⟨c1, c2, c3, HC⟩ := copy_none h0 HM.out hn
      rw [hn, c1]
      have e0 := HM.out.env.cell 0 (by omega)
      have HEN := hide HM.out.env
      have HCC := hide HC
      have C2 := hide c2; have C3 := hide c3
      clear HC HM c1 c2 c3
      cases hbk : s.broken with
      | false =>
        have ec : s.endCode = 1 := by simp [Src.endCode, hbk]
        rw [ec]
        have ev : errVal E 1 = .iface 87 (.pointer (some (E 0))) := rfl
        rw [ev]
        have e0' : w1.cell? ⟨0, 0, none⟩ = some (.iface 87 (.pointer (some (E 0)))) := e0
        have hns := eql_same w1
        clear e0 ec ev
        go_wp2
        go_ret2
        refine HF.out _ _ ⟨k, _, _, _, _, ?_, HCC.out 0⟩
        rw [C2.out, C3.out, if_neg (by simp [hbk])]
        rfl
      | true =>
        have ec : s.endCode = 2 := by simp [Src.endCode, hbk]
        rw [ec]
        have ev : errVal E 2 = .iface 87 (.pointer (some (E 1))) := rfl
        rw [ev]
        have e0' : w1.cell? ⟨0, 0, none⟩ = some (.iface 87 (.pointer (some (E 0)))) := e0
        have hns := eql_other HEN.out (n := 1) (m := 0) (by omega) (by omega) (by omega)
        clear e0 ec ev
        go_wp2
        go_ret2
        refine HF.out _ _ ⟨k, _, _, _, _, ?_, HCC.out 0⟩
        rw [C2.out, C3.out, if_pos (by simp [hbk])]
        rfl
    · have hnpos : 0 < (s.piece 7 k).bytes.length := by omega
      have hbx1 := HM.out.since.turns.at_ HBX.out HCOLD.out
      have b0 : w1.cell? ⟨w.heap.size, 0, none⟩ = some (.pointer (some ⟨wb, 0, none⟩)) := hbx1.get 0
      have HB1 := hide hbx1
      have HWRT := hide (fun q => copy_write (cap := 7) h0 (HM.out.drawn q) hnpos (Nat.le_refl 7) (by omega) (by omega) hr1 hr2 hdl)
      clear HM hbx1
      generalize hcd : errVal E (s.piece 7 k).code = ev
      have HCD := hide hcd
      clear hcd hn
      have hni : (0 : Int) < ((s.piece 7 k).bytes.length : Int) := by omega
      have hnz : (0 : Int) ≤ ((s.piece 7 k).bytes.length : Int) := by omega
      have hnc : ((s.piece 7 k).bytes.length : Int) ≤ (7 : Int) := by omega
      go_wp2_with fail
      go_region_held3 (fun w' => w'.cell? ⟨w.heap.size, 0, none⟩ = some (.pointer (some ⟨wb, 0, none⟩))) (go_keep) (first | (go_at_call 43; refine (HWRT.out 1).mono ?_; rintro e w2 ⟨nw, ev2, rfl, HX, HK⟩; have b2 : w2.cell? ⟨w.heap.size, 0, none⟩ = some (.pointer (some ⟨wb, 0, none⟩)) := (HK _ _ _ (by decide) (by decide) (by decide) (HB1.out.drawn 1)).get 0; clear HK))
      clear HWRT
      obtain ⟨hE2, hX⟩ := HX
      have e3 : w2.cell? ⟨3, 0, none⟩ = some (.iface 87 (.pointer (some (E 3)))) := hE2.cell 3 (by omega)
      have e0 : w2.cell? ⟨0, 0, none⟩ = some (.iface 87 (.pointer (some (E 0)))) := hE2.cell 0 (by omega)
      have hns := eql_same w2
      have hno := eql_other hE2 (n := 1) (m := 0) (by omega) (by omega) (by omega)
      have HE2 := hide hE2
      clear hE2
      rcases hX with hX | hX | hX
      · obtain ⟨x1, x2, x3, x4, gx, wx, x5⟩ := hX
        have X3 := hide x3; have X4 := hide x4; have X5 := hide x5
        clear x3 x4 x5
        generalize (s.piece 7 k).bytes.length = n at *
        generalize (s.pos 7 k).1 = at_ at *
        have y2 : (nw : Int) < (n : Int) := by omega
        cases quiet with
        | true =>
          have hq : ev2 = .nilIface := x2
          subst hq
          clear x2
          go_wp2
          go_ret2
          refine HF.out _ _ ⟨k, _, gx, wx, _, ?_, X5.out 0⟩
          rw [← X3.out, X4.out]
          simp [errVal]
        | false =>
          have hq : ev2 = .iface 87 (.pointer (some (E 2))) := x2
          subst hq
          clear x2
          go_wp2
          go_ret2
          refine HF.out _ _ ⟨k, _, gx, wx, _, ?_, X5.out 0⟩
          rw [← X3.out, X4.out]
          simp [errVal]
      · obtain ⟨rfl, rfl, x3, x4, x5⟩ := hX
        have hev : ev = .nilIface := by rw [← HCD.out, x3]; rfl
        subst hev
        have X4 := hide x4; have X5 := hide x5
        clear x3 x4 x5 HCD
        have hpl2 := s.pos_le 7 (k + 1)
        have hx4 := X4.out
        generalize (s.piece 7 k).bytes.length = n at *
        have y2 : ¬ ((n : Int) < (n : Int)) := by omega
        generalize hat : (s.pos 7 k).1 = at_ at *
        clear hx4
        go_wp2
        go_roundw
        case rel => exact ⟨k + 1, by rw [X4.out]; go_num, X5.out 0⟩
        case measure => have := X4.out; simp [intOf]; omega
      · obtain ⟨rfl, rfl, x3, x4, x5, gx, wx, x6⟩ := hX
        have X4 := hide x4; have X5 := hide x5; have X6 := hide x6
        clear x4 x5 x6
        have hev : errVal E s.endCode = ev := by rw [← HCD.out, x3]
        clear x3 HCD
        generalize (s.piece 7 k).bytes.length = n at *
        generalize (s.pos 7 k).1 = at_ at *
        have y2 : ¬ ((n : Int) < (n : Int)) := by omega
        cases hbk : s.broken with
        | false =>
          have ec : s.endCode = 1 := by simp [Src.endCode, hbk]
          rw [ec] at hev
          have hev' : ev = .iface 87 (.pointer (some (E 0))) := hev.symm
          subst hev'
          clear hev ec
          go_wp2
          go_ret2
          refine HF.out _ _ ⟨k, _, gx, wx, _, ?_, X6.out 0⟩
          rw [← X4.out, X5.out, if_neg (by simp [hbk])]
          simp [errVal]
        | true =>
          have ec : s.endCode = 2 := by simp [Src.endCode, hbk]
          rw [ec] at hev
          have hev' : ev = .iface 87 (.pointer (some (E 1))) := hev.symm
          subst hev'
          clear hev ec
          go_wp2
          go_ret2
          refine HF.out _ _ ⟨k, _, gx, wx, _, ?_, X6.out 0⟩
          rw [← X4.out, X5.out, if_pos (by simp [hbk])]
          simp [errVal]

end Go.Proofs.YtnbhhckempbimaaDoor
