/-
  laws.FnNopReads returns true, whatever the arguments.
-/
import Derived.Test.YtdcdbbcphkhmeaaDoorNopLaw
namespace Go.Proofs.YtdcdbbcphkhmeaaDoor
open Go.RowKit
set_option linter.unusedVariables false
set_option maxRecDepth 100000

theorem infoStep : (Tryd.prog.info? 26).map (fun i => (i.zero, i.size, i.bytes)) = some (some (.agg #[.int .i64 0, .int .i64 0]), 2, 16) := by kernel_rfl

/-- The steps that read so many bytes each. -/
def readSteps (zs : List Int) : List (Int × Int) := zs.map fun z => (0, z)
theorem readSteps_take (zs : List Int) (k : Nat) : (readSteps zs).take k = readSteps (zs.take k) := by simp [readSteps]
theorem stepCells_snoc (l : List (Int × Int)) (st : Int × Int) : stepCells (l ++ [st]) = stepCells l ++ [.int .i64 st.1, .int .i64 st.2] := by simp [stepCells]

/-- The state behind j comparisons. -/
structure NRel (w : World) (sb : Nat) (s : Src) (zs : List Int) (DA PA : Option Addr) (dc pc : Nat) (ov : Value) (css : List (List Value)) (B2 j : Nat) (wr : World) : Prop where
  spec : SRd wr sb s DA PA dc pc (s.after (readSteps (zs.take j))).2.1 (s.after (readSteps (zs.take j))).2.2
  le : (s.after (readSteps (zs.take j))).2.1 ≤ s.data.length
  own : wr.ownsRow B2 37 4 ov zs.length css.flatten
  gots : GotsAt B2 wr (s.after (readSteps zs)).1 css
  new_ : New w wr

set_option maxHeartbeats 2000000 in
theorem fnNopReads_in {w : World} {s : Src} {zs : List Int} {DA PA ZA : Option Addr} {dc pc zc : Nat} {E : Nat → Addr} (hd : Sl w 1 DA s.data.length (s.data.map (Value.int .u8))) (hDn : DA = none → dc = 0) (hdc : s.data.length ≤ dc) (hdm : dc ≤ 9223372036854775807)
    (hp : Sl w 1 PA s.pieces.length (s.pieces.map (Value.int .i64))) (hPn : PA = none → pc = 0) (hz : Sl w 1 ZA zs.length (zs.map (Value.int .i64)))
    (hdl : s.data.length ≤ 65536) (hpl : s.pieces.length ≤ 4096) (hzl : zs.length ≤ 4096) (hE : Env w.heap.size E w) :
    Calls Tryd.prog 3 #[.slice DA s.data.length dc, .slice PA s.pieces.length pc, .bool s.together, .bool s.broken, .bool s.direct, .slice ZA zs.length zc] w fun e w' => e = .returned (.bool true) ∧ New w w' := by
  have HD := hide hd; have HP := hide hp; have HDN := hide hDn; have HPN := hide hPn; have HZ := hide hz; have HE := hide hE
  clear hd hp hDn hPn hz hE
  go_enter Tryd.func3, Tryd.ntmps3
  go_wp2
  go_loop [36] (fun i => ∃ j : Nat, j ≤ zs.length ∧ i = .int .i64 j ∧ Hid (∀ z ∈ zs.take j, z ≤ 65536)) (fun i => zs.length - (intOf i).toNat)
  case atStart => exact ⟨0, Nat.zero_le _, rfl, by intro z hz; simp at hz⟩
  case round =>
    obtain ⟨j, hj, rfl, HB⟩ := hrel
    by_cases hlt : j < zs.length
    · obtain ⟨ad, rfl, hadb, hcell⟩ := HZ.out.2 (by omega)
      have hcz : w.cell? (ad.add j) = some (.int .i64 zs[j]) := hcell j _ (by simp [hlt])
      clear hcell
      generalize hzz : zs[j] = z at hcz
      have HZZ := hide hzz
      clear hzz
      by_cases hbig : z ≤ 65536
      · go_wp2
        go_round
        case rel =>
          refine ⟨j + 1, by omega, by go_num, fun y hy => ?_⟩
          rw [List.take_succ_eq_append_getElem hlt, List.mem_append, List.mem_singleton, HZZ.out] at hy
          rcases hy with hy | rfl
          · exact HB.out y hy
          · exact hbig
        case measure => simp [intOf]; omega
      · go_wp2
        go_ret
        exact ⟨rfl, new_refl _⟩
    · have HZB : Hid (∀ z ∈ zs, z ≤ 65536) := fun z hz => HB.out z (by rw [List.take_of_length_le (by omega)]; exact hz)
      clear HB
      go_wp2_with fail
      go_loopw [14, 48] (fun v i wr => ∃ k : Nat, k ≤ zs.length ∧ i = .int .i64 k ∧ Hid (wr.ownsRow w.heap.size 26 2 v k (stepCells (readSteps (zs.take k)))) ∧ Hid (New w wr)) (fun _ i _ => zs.length - (intOf i).toNat)
      case atStart => exact ⟨0, Nat.zero_le _, rfl, lit_own _ _ (At.made _ _ _) (Nat.le_refl _), new_alloc _ _⟩
      case round =>
        obtain ⟨k, hk, rfl, HO, HN⟩ := hrel
        by_cases hlt2 : k < zs.length
        · obtain ⟨ad, rfl, hadb, hcell⟩ := HZ.out.2 (by omega)
          have hcz : wr.cell? (ad.add k) = some (.int .i64 zs[k]) := (HN.out.cell (p := ad.add k) (by rw [block_add]; exact hadb)).trans (hcell k _ (by simp [hlt2]))
          clear hcell
          generalize hzz : zs[k] = z at hcz
          have HZZ := hide hzz
          clear hzz
          have hBw := HN.out.size
          obtain ⟨VA, vc, rfl, -, -⟩ := Sl.of_own HO.out
          go_wp2_with (at_builtin; (with_reducible refine wpList_append_one rfl (.tmp 51) (.tmp 57) 24 rfl w.heap.size 26 _ 2 16 Tryd.underlying24 infoStep rfl (by decide) _ _ _ rfl HO.out _ _ rfl rfl ?c1 ?c2 ?c3 hBw rfl ?_))
          case c1 => intro u hu; simp at hu; rcases hu with rfl | rfl <;> rfl
          case c2 => unfold maxLen; omega
          case c3 => omega
          intro v4 w4 hown4 ht4 hn4
          have HO4 : Hid (w4.ownsRow w.heap.size 26 2 v4 (k + 1) (stepCells (readSteps (zs.take (k + 1))))) := by
            have e : readSteps (zs.take (k + 1)) = readSteps (zs.take k) ++ [(0, z)] := by rw [List.take_succ_eq_append_getElem hlt2, HZZ.out]; simp [readSteps]
            rw [e, stepCells_snoc]
            exact hown4
          have HN4 : Hid (New w w4) := hide (new_turns HN.out ht4 (fun g hg => (HO.out.lt g hg).1))
          clear hown4 ht4 hn4
          go_wp2
          go_roundw
          case rel => exact ⟨k + 1, by omega, by go_num, HO4.out, HN4.out⟩
          case measure => simp [intOf]; omega
        · obtain rfl : k = zs.length := by omega
          have ho := HO.out
          rw [List.take_length] at ho
          have HO1 := hide ho
          clear ho HO
          go_wp2_with fail
          refine (source_any (s := s) (HD.out.new HN.out) HDN.out (HP.out.new HN.out) HPN.out (by omega) (by omega)).mono ?_
          rintro e w2 ⟨dv, pv, rfl, hdv, hpv, hN2⟩
          obtain ⟨A1, k1, rfl, hn1, hs1⟩ := Sl.of_own hdv
          obtain ⟨A2, k2, rfl, hn2, hs2⟩ := Sl.of_own hpv
          have HN2 := hide (new_trans HN.out hN2)
          have HO2 := hide (own_new HO1.out hN2)
          have HS1 := hide hs1; have HS2 := hide hs2; have HK1 := hide hn1; have HK2 := hide hn2
          clear hdv hpv hN2 hs1 hs2 hn1 hn2 HO1 HN
          have hrl : (readSteps zs).length = zs.length := by simp [readSteps]
          have HRL := hide hrl
          clear hrl
          go_wp2_with fail
          refine (nopCloser_any (s := s) (steps := readSteps zs) (E := E) HS1.out HK1.out HS2.out HK2.out (by omega) (by omega) (by rw [HRL.out]; exact HO2.out) (by rw [HRL.out]; omega) ?hst ((HE.out.below HN2.out).up HN2.out.size)).mono ?_
          case hst =>
            intro st hst
            obtain ⟨z, hz, rfl⟩ := List.mem_map.1 hst
            exact ⟨.inl rfl, HZB.out z hz⟩
          rintro e w3 ⟨v3, css, rfl, hown3, hgs3, hcl3, hN3⟩
          have hN03 := new_trans HN2.out hN3
          rw [HRL.out] at hown3
          obtain ⟨A3, k3, rfl, -, -⟩ := Sl.of_own hown3
          have HOWN := hide hown3; have HGS := hide hgs3; have HCL := hide hcl3; have HN3 := hide hN03
          have HS3 := hide (Nat.le_trans HN2.out.size hN3.size)
          have HSZ2 := hide HN2.out.size
          clear hown3 hgs3 hcl3 hN3 hN03 HO2 HS1 HS2 HK1 HK2
          have hneq : ((zs.length : Int) != (zs.length : Int)) = false := by simp
          go_wp2_with fail
          have hS0 : SRd (w3.alloc (.cells #[.slice DA s.data.length dc, .slice PA s.pieces.length pc, .bool s.together, .bool s.broken, .int .i64 0, .int .i64 0] 33)) w3.heap.size s DA PA dc pc 0 0 := by
            refine ⟨At.made _ _ _, (HD.out.new HN3.out).laid _, (HP.out.new HN3.out).laid _, fun ad e h0 => ?_, fun ad e h0 => ?_⟩
            · obtain ⟨ad', e', hb, _⟩ := HD.out.2 h0
              have e2 : ad' = ad := Option.some.inj (e'.symm.trans e)
              have := HN3.out.size
              subst e2
              omega
            · obtain ⟨ad', e', hb, _⟩ := HP.out.2 h0
              have e2 : ad' = ad := Option.some.inj (e'.symm.trans e)
              have := HN3.out.size
              subst e2
              omega
          have HS0 := hide hS0
          clear hS0
          have hd3 : ∀ ad, DA = some ad → 0 < s.data.length → ad.block < w.heap.size := fun ad e h0 => by
            obtain ⟨ad', e', hb, _⟩ := HD.out.2 h0
            have e2 : ad' = ad := Option.some.inj (e'.symm.trans e)
            subst e2
            exact hb
          have hp3 : ∀ ad, PA = some ad → 0 < s.pieces.length → ad.block < w.heap.size := fun ad e h0 => by
            obtain ⟨ad', e', hb, _⟩ := HP.out.2 h0
            have e2 : ad' = ad := Option.some.inj (e'.symm.trans e)
            subst e2
            exact hb
          have HD3 := hide hd3; have HP3 := hide hp3
          clear hd3 hp3
          generalize hsb : w3.heap.size = sb at *
          have hwsb : w.heap.size ≤ sb := by rw [← hsb]; exact HN3.out.size
          have HIn : Hid (NRel w sb s zs DA PA dc pc (.slice A3 zs.length k3) css w2.heap.size 0 (w3.alloc (.cells #[.slice DA s.data.length dc, .slice PA s.pieces.length pc, .bool s.together, .bool s.broken, .int .i64 0, .int .i64 0] 33))) :=
            ⟨HS0.out, Nat.zero_le _, HOWN.out.alloc _, HGS.out.turns ((Turns.refl (fun _ => False) w3).alloc _) (fun _ _ _ h => h), new_al HN3.out _⟩
          clear hsb HS0 HOWN HGS HN3 HN2 HS3
          go_loopw [80] (fun i wr => ∃ j : Nat, j ≤ zs.length ∧ i = .int .i64 j ∧ Hid (NRel w sb s zs DA PA dc pc (.slice A3 zs.length k3) css w2.heap.size j wr)) (fun i _ => zs.length - (intOf i).toNat)
          case atStart => exact ⟨0, Nat.zero_le _, rfl, HIn.out⟩
          case round =>
            obtain ⟨j, hj, rfl, HI⟩ := hrel
            clear HIn
            by_cases hlt3 : j < zs.length
            · obtain ⟨ad, rfl, hadb, hcell⟩ := HZ.out.2 (by omega)
              have hcz : wr.cell? (ad.add j) = some (.int .i64 zs[j]) := (HI.out.new_.cell (p := ad.add j) (by rw [block_add]; exact hadb)).trans (hcell j _ (by simp [hlt3]))
              have hzb := HZB.out zs[j] (List.getElem_mem hlt3)
              have hrj : j < (readSteps zs).length := by rw [HRL.out]; exact hlt3
              have hget := s.after_get (readSteps zs) j hrj
              have hst : (readSteps zs)[j] = (0, zs[j]) := by simp [readSteps]
              rw [hst, readSteps_take] at hget
              have htk : readSteps (zs.take (j + 1)) = readSteps (zs.take j) ++ [(0, zs[j])] := by unfold readSteps; rw [List.take_succ_eq_append_getElem hlt3, List.map_append]; rfl
              have hnext := s.after_snoc (readSteps (zs.take j)) (0, zs[j])
              rw [← htk] at hnext
              have HGET := hide hget; have HNEXT := hide hnext
              clear hcell hget hst htk hnext hrj
              generalize zs[j] = z at *
              have hle := HI.out.le
              have hSP := HI.out.spec
              generalize hat : (s.after (readSteps (zs.take j))).2.1 = at_ at *
              generalize hpp : (s.after (readSteps (zs.take j))).2.2 = pp at *
              have HAT := hide hat; have HPP := hide hpp; have HSP := hide hSP
              clear hat hpp hSP
              go_wp2_with fail
              refine (sread_any HSP.out hle hdc hdm (by omega) (by omega) (by omega)).mono ?_
              rintro e w5 ⟨v5, rfl, hv5, hb5, ht5⟩
              have hsb5 := HSP.out.blk
              have hown5 := own_turns HI.out.own ht5 (fun g hg e => own_ne HI.out.own hsb5 (by decide) (e ▸ hg))
              have hgs5 := HI.out.gots.turns ht5 (fun k cs hc e => by subst e; exact hc.apart hsb5 (by decide) rfl)
              obtain ⟨a5, k5, rfl, -, hs5⟩ := Sl.of_own hv5
              rcases hown5.2 with ⟨_, h0⟩ | ⟨og, oc, ocur, hov, _, _, hnoc, hocm, _⟩
              · omega
              cases hov
              obtain ⟨GA, gc, x0, x1, x2, x3, hgsl, -, -⟩ := got_cells hown5 hgs5 HCL.out HGET.out
              have hstep : s.stepG at_ pp (0, z) = (⟨(s.read at_ pp z.toNat).bytes, (s.read at_ pp z.toNat).bytes.length, (s.read at_ pp z.toNat).code, true⟩, (s.read at_ pp z.toNat).at_, (s.read at_ pp z.toNat).pc) := rfl
              rw [hstep] at x0 x1 x2 x3 hgsl
              have hlen := s.read_bytes_le at_ pp z.toNat
              have hs6 : SRd w5 sb s DA PA dc pc (s.read at_ pp z.toNat).at_ (s.read at_ pp z.toNat).pc :=
                ⟨hb5, HSP.out.data.turns ht5 (fun ad e h0 e2 => by have := HD3.out ad e h0; omega), HSP.out.pieces.turns ht5 (fun ad e h0 e2 => by have := HP3.out ad e h0; omega), HSP.out.dataNe, HSP.out.piecesNe⟩
              have hN5 : New w w5 := new_turns HI.out.new_ ht5 (fun k e => by omega)
              have HR6 : Hid (∀ q, NRel w sb s zs DA PA dc pc (.slice (some ⟨og, 0, none⟩) zs.length k3) css w2.heap.size (j + 1) (w5.drewN q)) := by
                intro q
                have e1 := HNEXT.out
                rw [hstep] at e1
                refine ⟨?_, ?_, hown5, ?_, new_drN hN5 q⟩
                · rw [e1]; exact ⟨hs6.blk, hs6.data, hs6.pieces, hs6.dataNe, hs6.piecesNe⟩
                · rw [e1]; exact s.read_le _ _ _ hle
                · exact hgs5.turns ((Turns.refl (fun _ => False) w5).drawn q) (fun _ _ _ h => h)
              unfold maxLen at hocm
              generalize (s.read at_ pp z.toNat).bytes = bs at *
              generalize (s.read at_ pp z.toNat).code = code at *
              have HS5 := hide hs5; have HGSL := hide hgsl
              have hnotT : ∀ (x : Bool) (w : World), (Op.unary .not (.bool x)).run Tryd.prog w = .ok (.bool (!x)) w := fun _ _ => rfl
              have hn1 : ((bs.length : Int) != (bs.length : Int)) = false := by simp
              have hn2 : ((code : Int) != (code : Int)) = false := by simp
              have hji : (j : Int) < (zs.length : Int) := by omega
              have hbl : bs.length ≤ 1000000000000 := by omega
              clear hs5 hgsl hv5 hb5 hown5 hgs5 hs6 hN5 hstep hsb5 ht5 HI HSP HAT HPP HGET HNEXT hcz
              go_wp2_with fail
              refine (sameBytes_eq rfl HGSL.out HS5.out hbl).mono ?_
              rintro e w6 ⟨rfl, q, rfl⟩
              have HR7 := hide (HR6.out q)
              clear HR6
              go_wp2
              go_roundw
              case rel => exact ⟨j + 1, by omega, by go_num, HR7.out⟩
              case measure => simp [intOf]; omega
            · have hN := HI.out.new_
              have HNW := hide hN
              clear hN HI
              go_wp2
              go_ret
              exact ⟨rfl, HNW.out⟩

theorem fnNopReads_walk {w : World} {s : Src} {zs : List Int} {DA PA ZA : Option Addr} {dc pc zc : Nat} {E : Nat → Addr} (hd : Sl w 1 DA s.data.length (s.data.map (Value.int .u8))) (hDn : DA = none → dc = 0) (hdc : s.data.length ≤ dc) (hdm : dc ≤ 9223372036854775807)
    (hp : Sl w 1 PA s.pieces.length (s.pieces.map (Value.int .i64))) (hPn : PA = none → pc = 0) (hz : Sl w 1 ZA zs.length (zs.map (Value.int .i64))) (hE : Env w.heap.size E w) :
    Calls Tryd.prog 3 #[.slice DA s.data.length dc, .slice PA s.pieces.length pc, .bool s.together, .bool s.broken, .bool s.direct, .slice ZA zs.length zc] w fun e w' => e = .returned (.bool true) ∧ New w w' := by
  by_cases c1 : s.data.length ≤ 65536
  · by_cases c2 : s.pieces.length ≤ 4096
    · by_cases c3 : zs.length ≤ 4096
      · exact fnNopReads_in hd hDn hdc hdm hp hPn hz c1 c2 c3 hE
      · clear hd hDn hp hPn hz hE
        go_enter Tryd.func3, Tryd.ntmps3
        go_wp2
        go_ret
        exact ⟨rfl, new_refl _⟩
    · clear hd hDn hp hPn hz hE
      go_enter Tryd.func3, Tryd.ntmps3
      go_wp2
      go_ret
      exact ⟨rfl, new_refl _⟩
  · clear hd hDn hp hPn hz hE
    go_enter Tryd.func3, Tryd.ntmps3
    go_wp2
    go_ret
    exact ⟨rfl, new_refl _⟩

end Go.Proofs.YtdcdbbcphkhmeaaDoor
