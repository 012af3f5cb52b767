/-
  laws.FnNopWriteTo returns true, whatever the arguments.
-/
import Derived.Test.YtdcdbbcphkhmeaaDoorNopWtRun
import Derived.Deep.Cut
namespace Go.Proofs.YtdcdbbcphkhmeaaDoor
open Go.RowKit
set_option linter.unusedVariables false
set_option maxRecDepth 100000

/-- The state behind j reads of the reference. -/
structure WRel (w : World) (sb : Nat) (s : Src) (zs : List Int) (DA PA : Option Addr) (dc pc : Nat) (ov : Value) (css : List (List Value)) (B2 : Nat) (gs : List GotG) (n j : Nat) (wr : World) : Prop where
  spec : SRd wr sb s DA PA dc pc (s.after (readSteps (zs.take j))).2.1 (s.after (readSteps (zs.take j))).2.2
  le : (s.after (readSteps (zs.take j))).2.1 ≤ s.data.length
  own : wr.ownsRow B2 37 4 ov n css.flatten
  gots : GotsAt B2 wr gs css
  new_ : New w wr

set_option maxHeartbeats 2000000 in
theorem fnNopWriteTo_in {w : World} {s : Src} {zs : List Int} {DA PA ZA : Option Addr} {dc pc zc : Nat} {E : Nat → Addr} (hd : Sl w 1 DA s.data.length (s.data.map (Value.int .u8))) (hDn : DA = none → dc = 0) (hdc : s.data.length ≤ dc) (hdm : dc ≤ 9223372036854775807)
    (hp : Sl w 1 PA s.pieces.length (s.pieces.map (Value.int .i64))) (hPn : PA = none → pc = 0) (hz : Sl w 1 ZA zs.length (zs.map (Value.int .i64)))
    (hdl : s.data.length ≤ 65536) (hpl : s.pieces.length ≤ 4096) (hzl : zs.length ≤ 4096) (hE : Env w.heap.size E w) :
    Calls Tryd.prog 5 #[.slice DA s.data.length dc, .slice PA s.pieces.length pc, .bool s.together, .bool s.broken, .bool s.direct, .slice ZA zs.length zc] w fun e w' => e = .returned (.bool true) ∧ New w w' := by
  have HD := hide hd; have HP := hide hp; have HDN := hide hDn; have HPN := hide hPn; have HZ := hide hz; have HE := hide hE
  clear hd hp hDn hPn hz hE
  go_enter Tryd.func5, Tryd.ntmps5
  go_wp2
  go_loop [36] (fun i => ∃ j : Nat, j ≤ zs.length ∧ i = .int .i64 j ∧ Hid (∀ z ∈ zs.take j, z ≤ 65536)) (fun i => zs.length - (intOf i).toNat)
  case atStart => exact ⟨0, Nat.zero_le _, rfl, by intro z hz; simp at hz⟩
  case round =>
    obtain ⟨j, hj, rfl, HB⟩ := hrel
    by_cases hlt : j < zs.length
    · obtain ⟨ad, rfl, hadb, hcell⟩ := HZ.out.2 (by omega)
      have hcz : w.cell? (ad.add j) = some (.int .i64 zs[j]) := hcell j _ (by simp [hlt])
      clear hcell
      generalize hzz : zs[j] = z at hcz
      have HZZ := hide hzz
      clear hzz
      by_cases hbig : z ≤ 65536
      · go_wp2
        go_round
        case rel =>
          refine ⟨j + 1, by omega, by go_num, fun y hy => ?_⟩
          rw [List.take_succ_eq_append_getElem hlt, List.mem_append, List.mem_singleton, HZZ.out] at hy
          rcases hy with hy | rfl
          · exact HB.out y hy
          · exact hbig
        case measure => simp [intOf]; omega
      · go_wp2
        go_ret
        exact ⟨rfl, new_refl _⟩
    · have HZB : Hid (∀ z ∈ zs, z ≤ 65536) := fun z hz => HB.out z (by rw [List.take_of_length_le (by omega)]; exact hz)
      clear HB
      go_wp2_with fail
      go_loopw [14, 48] (fun v i wr => ∃ k : Nat, k ≤ zs.length ∧ i = .int .i64 k ∧ Hid (wr.ownsRow w.heap.size 26 2 v k (stepCells (readSteps (zs.take k)))) ∧ Hid (New w wr)) (fun _ i _ => zs.length - (intOf i).toNat)
      case atStart => exact ⟨0, Nat.zero_le _, rfl, lit_own _ _ (At.made _ _ _) (Nat.le_refl _), new_alloc _ _⟩
      case round =>
        obtain ⟨k, hk, rfl, HO, HN⟩ := hrel
        by_cases hlt2 : k < zs.length
        · obtain ⟨ad, rfl, hadb, hcell⟩ := HZ.out.2 (by omega)
          have hcz : wr.cell? (ad.add k) = some (.int .i64 zs[k]) := (HN.out.cell (p := ad.add k) (by rw [block_add]; exact hadb)).trans (hcell k _ (by simp [hlt2]))
          clear hcell
          generalize hzz : zs[k] = z at hcz
          have HZZ := hide hzz
          clear hzz
          have hBw := HN.out.size
          obtain ⟨VA, vc, rfl, -, -⟩ := Sl.of_own HO.out
          go_wp2_with (at_builtin; (with_reducible refine wpList_append_one rfl (.tmp 51) (.tmp 57) 24 rfl w.heap.size 26 _ 2 16 Tryd.underlying24 infoStep rfl (by decide) _ _ _ rfl HO.out _ _ rfl rfl ?c1 ?c2 ?c3 hBw rfl ?_))
          case c1 => intro u hu; simp at hu; rcases hu with rfl | rfl <;> rfl
          case c2 => unfold maxLen; omega
          case c3 => omega
          intro v4 w4 hown4 ht4 hn4
          have HO4 : Hid (w4.ownsRow w.heap.size 26 2 v4 (k + 1) (stepCells (readSteps (zs.take (k + 1))))) := by
            have e : readSteps (zs.take (k + 1)) = readSteps (zs.take k) ++ [(0, z)] := by rw [List.take_succ_eq_append_getElem hlt2, HZZ.out]; simp [readSteps]
            rw [e, stepCells_snoc]
            exact hown4
          have HN4 : Hid (New w w4) := hide (new_turns HN.out ht4 (fun g hg => (HO.out.lt g hg).1))
          clear hown4 ht4 hn4
          go_wp2
          go_roundw
          case rel => exact ⟨k + 1, by omega, by go_num, HO4.out, HN4.out⟩
          case measure => simp [intOf]; omega
        · obtain rfl : k = zs.length := by omega
          have ho := HO.out
          rw [List.take_length] at ho
          have HO0 := hide ho
          clear ho HO
          have hBw := HN.out.size
          obtain ⟨VA, vc, rfl, -, -⟩ := Sl.of_own HO0.out
          go_wp2_with (at_builtin; (with_reducible refine wpList_append_one rfl (.tmp 60) (.tmp 62) 24 rfl w.heap.size 26 _ 2 16 Tryd.underlying24 infoStep rfl (by decide) _ _ _ rfl HO0.out [.int .i64 2, .int .i64 1048576] _ rfl rfl ?c1 ?c2 ?c3 hBw rfl ?_))
          case c1 => first | exact ⟨rfl, rfl⟩ | (intro u hu; simp at hu; rcases hu with rfl | rfl <;> rfl)
          case c2 => unfold maxLen; omega
          case c3 => omega
          intro v4 w4 hown4 ht4 hn4
          have HO1 : Hid (w4.ownsRow w.heap.size 26 2 v4 (zs.length + 1) (stepCells (readSteps zs ++ [(2, 1048576)]))) := by
            rw [stepCells_snoc]
            exact hown4
          have HN' : Hid (New w w4) := hide (new_turns HN.out ht4 (fun g hg => (HO0.out.lt g hg).1))
          clear hown4 ht4 hn4 HO0 HN hBw
          have HN := HN'
          clear HN'
          obtain ⟨VA4, vc4, rfl, -, -⟩ := Sl.of_own HO1.out
          go_wp2_with fail
          refine (source_any (s := s) (HD.out.new HN.out) HDN.out (HP.out.new HN.out) HPN.out (by omega) (by omega)).mono ?_
          rintro e w2 ⟨dv, pv, rfl, hdv, hpv, hN2⟩
          obtain ⟨A1, k1, rfl, hn1, hs1⟩ := Sl.of_own hdv
          obtain ⟨A2, k2, rfl, hn2, hs2⟩ := Sl.of_own hpv
          have HN2 := hide (new_trans HN.out hN2)
          have HO2 := hide (own_new HO1.out hN2)
          have HS1 := hide hs1; have HS2 := hide hs2; have HK1 := hide hn1; have HK2 := hide hn2
          clear hdv hpv hN2 hs1 hs2 hn1 hn2 HO1 HN
          go_wp2_with fail
          refine (nopLast_any (s := s) (zs := zs) (E := E) HS1.out HK1.out HS2.out HK2.out hdl (by omega) HO2.out hzl HZB.out ((HE.out.below HN2.out).up HN2.out.size)).mono ?_
          rintro e w3 ⟨v3, rfl, B3, css, hown3, hgs3, hcl3, hN3⟩
          have hN03 := new_trans HN2.out hN3
          obtain ⟨A3, k3, rfl, -, -⟩ := Sl.of_own hown3
          have hgl : ((s.after (readSteps zs)).1 ++ [s.lastG (s.after (readSteps zs)).2.1])[zs.length]? = some (s.lastG (s.after (readSteps zs)).2.1) := by
            have h1 := s.after_length (readSteps zs)
            have h2 : (readSteps zs).length = zs.length := by simp [readSteps]
            rw [List.getElem?_append_right (by omega), h1, h2]
            simp
          have HOWN := hide hown3; have HGS := hide hgs3; have HCL := hide hcl3; have HN3 := hide hN03; have HGL := hide hgl
          clear hown3 hgs3 hcl3 hN3 hN03 HO2 HS1 HS2 HK1 HK2 hgl
          generalize (s.after (readSteps zs)).1 ++ [s.lastG (s.after (readSteps zs)).2.1] = gs at *
          have hnn : zs.length < zs.length + 1 := by omega
          have hidx : ((zs.length + 1 : Nat) : Int) - 1 = (zs.length : Int) := by omega
          generalize zs.length + 1 = n at *
          have hneq : ((n : Int) != (n : Int)) = false := by simp
          have hsw : IntKind.i64.wrap (zs.length : Int) = (zs.length : Int) := IntWalk.i64_in _ (by omega)
          have hi9 : (zs.length : Int) < (n : Int) := by omega
          have hi90 : (0 : Int) ≤ (zs.length : Int) := by omega
          go_wp2_with fail
          have hS0 : SRd (w3.alloc (.cells #[.slice DA s.data.length dc, .slice PA s.pieces.length pc, .bool s.together, .bool s.broken, .int .i64 0, .int .i64 0] 33)) w3.heap.size s DA PA dc pc 0 0 := by
            refine ⟨At.made _ _ _, (HD.out.new HN3.out).laid _, (HP.out.new HN3.out).laid _, fun ad e h0 => ?_, fun ad e h0 => ?_⟩
            · obtain ⟨ad', e', hb, _⟩ := HD.out.2 h0
              have e2 : ad' = ad := Option.some.inj (e'.symm.trans e)
              have := HN3.out.size
              subst e2
              omega
            · obtain ⟨ad', e', hb, _⟩ := HP.out.2 h0
              have e2 : ad' = ad := Option.some.inj (e'.symm.trans e)
              have := HN3.out.size
              subst e2
              omega
          have HS0 := hide hS0
          clear hS0
          have hd3 : ∀ ad, DA = some ad → 0 < s.data.length → ad.block < w.heap.size := fun ad e h0 => by
            obtain ⟨ad', e', hb, _⟩ := HD.out.2 h0
            have e2 : ad' = ad := Option.some.inj (e'.symm.trans e)
            subst e2
            exact hb
          have hp3 : ∀ ad, PA = some ad → 0 < s.pieces.length → ad.block < w.heap.size := fun ad e h0 => by
            obtain ⟨ad', e', hb, _⟩ := HP.out.2 h0
            have e2 : ad' = ad := Option.some.inj (e'.symm.trans e)
            subst e2
            exact hb
          have HD3 := hide hd3; have HP3 := hide hp3
          clear hd3 hp3
          generalize hsb : w3.heap.size = sb at *
          have hwsb : w.heap.size ≤ sb := by rw [← hsb]; exact HN3.out.size
          have HIn : Hid (WRel w sb s zs DA PA dc pc (.slice A3 n k3) css B3 gs n 0 (w3.alloc (.cells #[.slice DA s.data.length dc, .slice PA s.pieces.length pc, .bool s.together, .bool s.broken, .int .i64 0, .int .i64 0] 33))) :=
            ⟨HS0.out, Nat.zero_le _, HOWN.out.alloc _, HGS.out.turns ((Turns.refl (fun _ => False) w3).alloc _) (fun _ _ _ h => h), new_al HN3.out _⟩
          clear hsb HS0 HOWN HGS HN3 HN2
          go_loopw [84] (fun i wr => ∃ j : Nat, j ≤ zs.length ∧ i = .int .i64 j ∧ Hid (WRel w sb s zs DA PA dc pc (.slice A3 n k3) css B3 gs n j wr)) (fun i _ => zs.length - (intOf i).toNat)
          case atStart => exact ⟨0, Nat.zero_le _, rfl, HIn.out⟩
          case round =>
            obtain ⟨j, hj, rfl, HI⟩ := hrel
            clear HIn
            by_cases hlt3 : j < zs.length
            · obtain ⟨ad, rfl, hadb, hcell⟩ := HZ.out.2 (by omega)
              have hcz : wr.cell? (ad.add j) = some (.int .i64 zs[j]) := (HI.out.new_.cell (p := ad.add j) (by rw [block_add]; exact hadb)).trans (hcell j _ (by simp [hlt3]))
              have hzb := HZB.out zs[j] (List.getElem_mem hlt3)
              have htk : readSteps (zs.take (j + 1)) = readSteps (zs.take j) ++ [(0, zs[j])] := by unfold readSteps; rw [List.take_succ_eq_append_getElem hlt3, List.map_append]; rfl
              have hnext := s.after_snoc (readSteps (zs.take j)) (0, zs[j])
              rw [← htk] at hnext
              have HNEXT := hide hnext
              clear hcell htk hnext
              generalize zs[j] = z at *
              have hle := HI.out.le
              have hSP := HI.out.spec
              generalize hat : (s.after (readSteps (zs.take j))).2.1 = at_ at *
              generalize hpp : (s.after (readSteps (zs.take j))).2.2 = pp at *
              have HAT := hide hat; have HPP := hide hpp; have HSP := hide hSP
              clear hat hpp hSP
              have hi : (j : Int) < (zs.length : Int) := by omega
              have hi0 : (0 : Int) ≤ (j : Int) := by omega
              go_wp2_with fail
              refine (sread_any HSP.out hle hdc hdm (by omega) (by omega) (by omega)).mono ?_
              rintro e w5 ⟨v5, rfl, hv5, hb5, ht5⟩
              have hsb5 := HSP.out.blk
              have hown5 := own_turns HI.out.own ht5 (fun g hg e => own_ne HI.out.own hsb5 (by decide) (e ▸ hg))
              have hgs5 := HI.out.gots.turns ht5 (fun k cs hc e => by subst e; exact hc.apart hsb5 (by decide) rfl)
              obtain ⟨a5, k5, rfl, -, hs5⟩ := Sl.of_own hv5
              have hstep : s.stepG at_ pp (0, z) = (⟨(s.read at_ pp z.toNat).bytes, (s.read at_ pp z.toNat).bytes.length, (s.read at_ pp z.toNat).code, true⟩, (s.read at_ pp z.toNat).at_, (s.read at_ pp z.toNat).pc) := rfl
              have hs6 : SRd w5 sb s DA PA dc pc (s.read at_ pp z.toNat).at_ (s.read at_ pp z.toNat).pc :=
                ⟨hb5, HSP.out.data.turns ht5 (fun ad e h0 e2 => by have := HD3.out ad e h0; omega), HSP.out.pieces.turns ht5 (fun ad e h0 e2 => by have := HP3.out ad e h0; omega), HSP.out.dataNe, HSP.out.piecesNe⟩
              have hN5 : New w w5 := new_turns HI.out.new_ ht5 (fun k e => by omega)
              have HR6 : Hid (WRel w sb s zs DA PA dc pc (.slice A3 n k3) css B3 gs n (j + 1) w5) := by
                have e1 := HNEXT.out
                rw [hstep] at e1
                refine ⟨?_, ?_, hown5, hgs5, hN5⟩
                · rw [e1]; exact hs6
                · rw [e1]; exact s.read_le _ _ _ hle
              generalize (s.read at_ pp z.toNat).bytes = bs at *
              generalize (s.read at_ pp z.toNat).code = code at *
              clear hs5 hv5 hb5 hown5 hgs5 hs6 hN5 hstep hsb5 ht5 HI HSP HAT HPP HNEXT hcz
              go_wp2
              go_roundw
              case rel => exact ⟨j + 1, by omega, by go_num, HR6.out⟩
              case measure => simp [intOf]; omega
            · obtain rfl : j = zs.length := by omega
              have hle := HI.out.le
              have hSP := HI.out.spec
              rw [List.take_length] at hle hSP
              have hown := HI.out.own
              rcases hown.2 with ⟨_, h0⟩ | ⟨og, oc, ocur, hov, _, hog, hnoc, hocm, _⟩
              · omega
              cases hov
              have hogl : og < wr.heap.size := (Array.getElem?_eq_some_iff.1 hog).1
              unfold maxLen at hocm
              obtain ⟨GA, gc, x0, x1, x2, x3, hgsl, -, -⟩ := got_cells hown HI.out.gots HCL.out HGL.out
              have HNW := hide HI.out.new_
              generalize hat : (s.after (readSteps zs)).2.1 = at_ at *
              have c4 : wr.cell? ⟨sb, 4, none⟩ = some (.int .i64 at_) := hSP.blk.get 4
              have hsbl := hSP.blk.size_lt
              have HSP := hide hSP; have HGSL := hide hgsl
              have hlg : s.lastG at_ = if s.direct = true then ⟨s.data.drop at_, s.data.length - at_, if s.broken = true then 2 else 0, true⟩ else ⟨[], 0, 0, false⟩ := rfl
              have HLG := hide hlg
              clear hSP hgsl hown HI hog HGL hat hlg
              cases hdi : s.direct with
              | false =>
                have hl2 : s.lastG at_ = ⟨[], 0, 0, false⟩ := by rw [HLG.out, hdi]; rfl
                rw [hl2] at x0 x1 x2 x3
                simp only [List.length_nil] at x0 x1 x2 x3
                have hnotT : ∀ (x : Bool) (w : World), (Op.unary .not (.bool x)).run Tryd.prog w = .ok (.bool (!x)) w := fun _ _ => rfl
                clear hl2
                go_wp2
                go_ret
                exact ⟨rfl, new_al HNW.out _⟩
              | true =>
                have hl2 : s.lastG at_ = ⟨s.data.drop at_, s.data.length - at_, if s.broken = true then 2 else 0, true⟩ := by rw [HLG.out, hdi]; rfl
                rw [hl2] at x0 x1 x2 x3 HGSL
                simp only [List.length_drop] at x0 x1 x2 x3
                have hnotT : ∀ (x : Bool) (w : World), (Op.unary .not (.bool x)).run Tryd.prog w = .ok (.bool (!x)) w := fun _ _ => rfl
                have hsub : ((s.data.length - at_ : Nat) : Int) = (s.data.length : Int) - (at_ : Int) := by omega
                rw [hsub] at x1
                have hwr : IntKind.i64.wrap ((s.data.length : Int) - (at_ : Int)) = (s.data.length : Int) - (at_ : Int) := IntWalk.i64_in _ (by omega)
                have heq : (((s.data.length : Int) - (at_ : Int)) == ((s.data.length : Int) - (at_ : Int))) = true := by simp
                have HSUB := hide hsub
                clear hl2 hsub
                have s1 : (0 : Int) ≤ (at_ : Int) := by omega
                have s2 : (at_ : Int) ≤ (s.data.length : Int) := by omega
                have s3 : (s.data.length : Int) ≤ (dc : Int) := by omega
                cases hbk : s.broken with
                | true =>
                  have hx2 : wr.cell? ⟨og, zs.length * 4 + 2, none⟩ = some (.int .i64 2) := by rw [x2, hbk]; rfl
                  clear x2
                  go_upto_region 26 with (fail)
                  have hK : At (wr.alloc (.cells #[.slice GA (s.data.length - at_) gc, .int .i64 ((s.data.length : Int) - (at_ : Int)), .int .i64 2, .bool true] 37)) wr.heap.size 37 #[.slice GA (s.data.length - at_) gc, .int .i64 ((s.data.length : Int) - (at_ : Int)), .int .i64 2, .bool true] := At.made _ _ _
                  have d4 : (wr.alloc (.cells #[.slice GA (s.data.length - at_) gc, .int .i64 ((s.data.length : Int) - (at_ : Int)), .int .i64 2, .bool true] 37)).cell? ⟨sb, 4, none⟩ = some (.int .i64 at_) := (HSP.out.blk.laid _).get 4
                  have HN6 := hide (new_al HNW.out (.cells #[.slice GA (s.data.length - at_) gc, .int .i64 ((s.data.length : Int) - (at_ : Int)), .int .i64 2, .bool true] 37))
                  have HG6 := hide (HGSL.out.laid (.cells #[.slice GA (s.data.length - at_) gc, .int .i64 ((s.data.length : Int) - (at_ : Int)), .int .i64 2, .bool true] 37))
                  have HD6 := hide (HD.out.new HN6.out)
                  generalize wr.alloc (.cells #[.slice GA (s.data.length - at_) gc, .int .i64 ((s.data.length : Int) - (at_ : Int)), .int .i64 2, .bool true] 37) = w6 at *
                  generalize wr.heap.size = K at *
                  have b0 := hK.get 0
                  have b1 := hK.get 1
                  have b2 := hK.get 2
                  have b3 := hK.get 3
                  have hld : (s.data.drop at_).length = s.data.length - at_ := List.length_drop
                  have HG7 : Hid (Sl w6 1 GA (s.data.length - at_) ((s.data.drop at_).map (Value.int .u8))) := by
                    have h := HG6.out
                    simp only [List.length_drop] at h
                    exact h
                  have HLD := hide hld
                  clear x0 x1 x3 hx2 c4 hK hld HG6 HGSL
                  cases DA with
                  | none =>
                    obtain rfl : dc = 0 := HDN.out rfl
                    obtain rfl : at_ = 0 := by omega
                    have hL0 : s.data.length = 0 := by omega
                    have HG8 : Hid (Sl w6 1 GA 0 ([].map (Value.int .u8))) := hide (Sl.none_ _ _ _)
                    have HG9 : Hid (Sl w6 1 none 0 ([].map (Value.int .u8))) := hide (Sl.none_ _ _ _)
                    clear HG7 HLD HSP HD6 HSUB HD3 HD HCL HLG
                    clear s2 s3 heq hwr
                    rw [hL0] at b0 b1 ⊢
                    go_wp2_with fail
                    go_quiet (first | (go_at_call 10; refine Calls.quiet_of (sameBytes_eq (xs := []) (rfl) (by exact HG8.out.drawn _) (by exact HG9.out.drawn _) (by omega))))
                    rename Nat => q9
                    go_wp2
                    go_ret
                    exact ⟨rfl, new_drN HN6.out _⟩
                  | some ad =>
                    by_cases hcap : dc = at_
                    · obtain rfl : dc = s.data.length := by omega
                      obtain rfl : at_ = s.data.length := by omega
                      have e0 : s.data.length - s.data.length = 0 := Nat.sub_self _
                      have HG8 : Hid (∀ A, Sl w6 1 A 0 ([].map (Value.int .u8))) := hide (fun A => Sl.none_ _ _ _)
                      clear HG7 HLD HSP HD6 HSUB HD3 HD HCL HLG
                      rw [e0] at b0
                      go_wp2_with fail
                      go_quiet (first | (go_at_call 10; refine Calls.quiet_of (sameBytes_eq (xs := []) (rfl) (by exact (HG8.out _).drawn _) (by exact (HG8.out _).drawn _) (by omega))))
                      rename Nat => q9
                      go_wp2
                      go_ret
                      exact ⟨rfl, new_drN HN6.out _⟩
                    · have hcap2 : at_ < dc := by omega
                      have HSRC : Hid (Sl w6 1 (some (ad.add at_)) (s.data.length - at_) ((s.data.drop at_).map (Value.int .u8))) := by
                        refine ⟨by simp, fun h0 => ?_⟩
                        obtain ⟨ad', e', hb, hcell⟩ := HD6.out.2 (by omega)
                        cases e'
                        refine ⟨_, rfl, by rw [block_add]; exact hb, fun j u hu => ?_⟩
                        have e1 : (ad.add at_).add j = ad.add (at_ + j) := by unfold Addr.add; by_cases h1 : at_ = 0 <;> by_cases h2 : j = 0 <;> simp [h1, h2, Nat.add_assoc]
                        rw [e1]
                        refine hcell _ _ ?_
                        rw [List.getElem?_map, List.getElem?_drop] at hu
                        rw [List.getElem?_map]
                        exact hu
                      clear HSP HD6 HSUB HD3 HD HCL HLG
                      go_wp2_with fail
                      go_quiet (first | (go_at_call 10; refine Calls.quiet_of (sameBytes_eq (xs := s.data.drop at_) (by exact HLD.out) (by exact HG7.out.drawn _) (by exact HSRC.out.drawn _) (by omega))))
                      rename Nat => q9
                      go_wp2
                      go_ret
                      exact ⟨rfl, new_drN HN6.out _⟩
                | false =>
                  have hx2 : wr.cell? ⟨og, zs.length * 4 + 2, none⟩ = some (.int .i64 0) := by rw [x2, hbk]; rfl
                  clear x2
                  go_upto_region 26 with (fail)
                  have hK : At (wr.alloc (.cells #[.slice GA (s.data.length - at_) gc, .int .i64 ((s.data.length : Int) - (at_ : Int)), .int .i64 0, .bool true] 37)) wr.heap.size 37 #[.slice GA (s.data.length - at_) gc, .int .i64 ((s.data.length : Int) - (at_ : Int)), .int .i64 0, .bool true] := At.made _ _ _
                  have d4 : (wr.alloc (.cells #[.slice GA (s.data.length - at_) gc, .int .i64 ((s.data.length : Int) - (at_ : Int)), .int .i64 0, .bool true] 37)).cell? ⟨sb, 4, none⟩ = some (.int .i64 at_) := (HSP.out.blk.laid _).get 4
                  have HN6 := hide (new_al HNW.out (.cells #[.slice GA (s.data.length - at_) gc, .int .i64 ((s.data.length : Int) - (at_ : Int)), .int .i64 0, .bool true] 37))
                  have HG6 := hide (HGSL.out.laid (.cells #[.slice GA (s.data.length - at_) gc, .int .i64 ((s.data.length : Int) - (at_ : Int)), .int .i64 0, .bool true] 37))
                  have HD6 := hide (HD.out.new HN6.out)
                  generalize wr.alloc (.cells #[.slice GA (s.data.length - at_) gc, .int .i64 ((s.data.length : Int) - (at_ : Int)), .int .i64 0, .bool true] 37) = w6 at *
                  generalize wr.heap.size = K at *
                  have b0 := hK.get 0
                  have b1 := hK.get 1
                  have b2 := hK.get 2
                  have b3 := hK.get 3
                  have hld : (s.data.drop at_).length = s.data.length - at_ := List.length_drop
                  have HG7 : Hid (Sl w6 1 GA (s.data.length - at_) ((s.data.drop at_).map (Value.int .u8))) := by
                    have h := HG6.out
                    simp only [List.length_drop] at h
                    exact h
                  have HLD := hide hld
                  clear x0 x1 x3 hx2 c4 hK hld HG6 HGSL
                  cases DA with
                  | none =>
                    obtain rfl : dc = 0 := HDN.out rfl
                    obtain rfl : at_ = 0 := by omega
                    have hL0 : s.data.length = 0 := by omega
                    have HG8 : Hid (Sl w6 1 GA 0 ([].map (Value.int .u8))) := hide (Sl.none_ _ _ _)
                    have HG9 : Hid (Sl w6 1 none 0 ([].map (Value.int .u8))) := hide (Sl.none_ _ _ _)
                    clear HG7 HLD HSP HD6 HSUB HD3 HD HCL HLG
                    clear s2 s3 heq hwr
                    rw [hL0] at b0 b1 ⊢
                    go_wp2_with fail
                    go_quiet (first | (go_at_call 10; refine Calls.quiet_of (sameBytes_eq (xs := []) (rfl) (by exact HG8.out.drawn _) (by exact HG9.out.drawn _) (by omega))))
                    rename Nat => q9
                    go_wp2
                    go_ret
                    exact ⟨rfl, new_drN HN6.out _⟩
                  | some ad =>
                    by_cases hcap : dc = at_
                    · obtain rfl : dc = s.data.length := by omega
                      obtain rfl : at_ = s.data.length := by omega
                      have e0 : s.data.length - s.data.length = 0 := Nat.sub_self _
                      have HG8 : Hid (∀ A, Sl w6 1 A 0 ([].map (Value.int .u8))) := hide (fun A => Sl.none_ _ _ _)
                      clear HG7 HLD HSP HD6 HSUB HD3 HD HCL HLG
                      rw [e0] at b0
                      go_wp2_with fail
                      go_quiet (first | (go_at_call 10; refine Calls.quiet_of (sameBytes_eq (xs := []) (rfl) (by exact (HG8.out _).drawn _) (by exact (HG8.out _).drawn _) (by omega))))
                      rename Nat => q9
                      go_wp2
                      go_ret
                      exact ⟨rfl, new_drN HN6.out _⟩
                    · have hcap2 : at_ < dc := by omega
                      have HSRC : Hid (Sl w6 1 (some (ad.add at_)) (s.data.length - at_) ((s.data.drop at_).map (Value.int .u8))) := by
                        refine ⟨by simp, fun h0 => ?_⟩
                        obtain ⟨ad', e', hb, hcell⟩ := HD6.out.2 (by omega)
                        cases e'
                        refine ⟨_, rfl, by rw [block_add]; exact hb, fun j u hu => ?_⟩
                        have e1 : (ad.add at_).add j = ad.add (at_ + j) := by unfold Addr.add; by_cases h1 : at_ = 0 <;> by_cases h2 : j = 0 <;> simp [h1, h2, Nat.add_assoc]
                        rw [e1]
                        refine hcell _ _ ?_
                        rw [List.getElem?_map, List.getElem?_drop] at hu
                        rw [List.getElem?_map]
                        exact hu
                      clear HSP HD6 HSUB HD3 HD HCL HLG
                      go_wp2_with fail
                      go_quiet (first | (go_at_call 10; refine Calls.quiet_of (sameBytes_eq (xs := s.data.drop at_) (by exact HLD.out) (by exact HG7.out.drawn _) (by exact HSRC.out.drawn _) (by omega))))
                      rename Nat => q9
                      go_wp2
                      go_ret
                      exact ⟨rfl, new_drN HN6.out _⟩

theorem fnNopWriteTo_walk {w : World} {s : Src} {zs : List Int} {DA PA ZA : Option Addr} {dc pc zc : Nat} {E : Nat → Addr} (hd : Sl w 1 DA s.data.length (s.data.map (Value.int .u8))) (hDn : DA = none → dc = 0) (hdc : s.data.length ≤ dc) (hdm : dc ≤ 9223372036854775807)
    (hp : Sl w 1 PA s.pieces.length (s.pieces.map (Value.int .i64))) (hPn : PA = none → pc = 0) (hz : Sl w 1 ZA zs.length (zs.map (Value.int .i64))) (hE : Env w.heap.size E w) :
    Calls Tryd.prog 5 #[.slice DA s.data.length dc, .slice PA s.pieces.length pc, .bool s.together, .bool s.broken, .bool s.direct, .slice ZA zs.length zc] w fun e w' => e = .returned (.bool true) ∧ New w w' := by
  by_cases c1 : s.data.length ≤ 65536
  · by_cases c2 : s.pieces.length ≤ 4096
    · by_cases c3 : zs.length ≤ 4096
      · exact fnNopWriteTo_in hd hDn hdc hdm hp hPn hz c1 c2 c3 hE
      · clear hd hDn hp hPn hz hE
        go_enter Tryd.func5, Tryd.ntmps5
        go_wp2
        go_ret
        exact ⟨rfl, new_refl _⟩
    · clear hd hDn hp hPn hz hE
      go_enter Tryd.func5, Tryd.ntmps5
      go_wp2
      go_ret
      exact ⟨rfl, new_refl _⟩
  · clear hd hDn hp hPn hz hE
    go_enter Tryd.func5, Tryd.ntmps5
    go_wp2
    go_ret
    exact ⟨rfl, new_refl _⟩

end Go.Proofs.YtdcdbbcphkhmeaaDoor
