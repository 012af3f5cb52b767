/-
  laws.FnNopClose returns true, whatever the arguments: the walk.
-/
import Derived.Test.YtdcdbbcphkhmeaaDoorNopClose
namespace Go.Proofs.YtdcdbbcphkhmeaaDoor
open Go.RowKit
set_option linter.unusedVariables false
set_option maxRecDepth 100000

theorem mixSteps_start (zs : List Int) (bs : List Bool) : stepCells (mixSteps zs bs 0) = [.int .i64 1, .int .i64 0] := rfl

/-- The start of the two rows. -/
theorem MRel.start (w : World) (zs : List Int) (bs : List Bool) : MRel w zs bs 0 (.slice (some ⟨w.heap.size, 0, none⟩) 1 1) (.slice (some ⟨w.heap.size + 1, 0, none⟩) 0 0)
    ((w.alloc (.cells #[.int .i64 1, .int .i64 0] 26)).alloc (.cells #[] 26)) := by
  refine ⟨⟨rfl, .inr ⟨w.heap.size, 1, #[.int .i64 1, .int .i64 0], rfl, Nat.le_refl _, (At.made w _ _).laid _, Nat.le_refl _, by unfold maxLen; omega, rfl, rfl⟩⟩, lit_own _ _ (At.made' (by simp) _ _) (by omega), ?_, new_al (new_alloc _ _) _⟩
  intro g hg e
  simp [Value.ownBlock] at hg e
  omega

/-- The run of the steps with closes and the plain run, in one memory. -/
structure CRel (w5 : World) (B2 B4 : Nat) (s : Src) (l : List (Int × Int)) (sv av bv : Value) (css csp : List (List Value)) (n : Nat) : Prop where
  steps : w5.ownsRow B2 26 2 sv l.length (stepCells l)
  own1 : w5.ownsRow B2 37 4 av l.length css.flatten
  gots1 : GotsAt B2 w5 (s.after l).1 css
  four1 : ∀ c ∈ css, c.length = 4
  own2 : w5.ownsRow B4 37 4 bv n csp.flatten
  gots2 : GotsAt B4 w5 (s.after (readsOf l)).1 csp
  four2 : ∀ c ∈ csp, c.length = 4

theorem CRel.drawn {w5 : World} {B2 B4 : Nat} {s : Src} {l : List (Int × Int)} {sv av bv : Value} {css csp : List (List Value)} {n : Nat} (h : CRel w5 B2 B4 s l sv av bv css csp n) (m : Nat) : CRel (w5.drewN m) B2 B4 s l sv av bv css csp n :=
  ⟨h.steps, h.own1, h.gots1, h.four1, h.own2, h.gots2, h.four2⟩

set_option maxHeartbeats 2000000 in
theorem fnNopClose_in {w : World} {s : Src} {zs : List Int} {bs : List Bool} {DA PA ZA BA : Option Addr} {dc pc zc bc : Nat} {E : Nat → Addr} (hd : Sl w 1 DA s.data.length (s.data.map (Value.int .u8))) (hDn : DA = none → dc = 0)
    (hp : Sl w 1 PA s.pieces.length (s.pieces.map (Value.int .i64))) (hPn : PA = none → pc = 0) (hz : Sl w 1 ZA zs.length (zs.map (Value.int .i64))) (hb : Bl w BA bs)
    (hdl : s.data.length ≤ 65536) (hpl : s.pieces.length ≤ 4096) (hzl : zs.length ≤ 4096) (hE : Env w.heap.size E w) :
    Calls Tryd.prog 6 #[.slice DA s.data.length dc, .slice PA s.pieces.length pc, .bool s.together, .bool s.broken, .bool s.direct, .slice ZA zs.length zc, .slice BA bs.length bc] w fun e w' => e = .returned (.bool true) ∧ New w w' := by
  have HD := hide hd; have HP := hide hp; have HDN := hide hDn; have HPN := hide hPn; have HZ := hide hz; have HBL := hide hb; have HE := hide hE
  clear hd hp hDn hPn hz hb hE
  go_enter Tryd.func6, Tryd.ntmps6
  go_wp2
  go_loop [38] (fun i => ∃ j : Nat, j ≤ zs.length ∧ i = .int .i64 j ∧ Hid (∀ z ∈ zs.take j, z ≤ 65536)) (fun i => zs.length - (intOf i).toNat)
  case atStart => exact ⟨0, Nat.zero_le _, rfl, by intro z hz; simp at hz⟩
  case round =>
    obtain ⟨j, hj, rfl, HB⟩ := hrel
    by_cases hlt : j < zs.length
    · obtain ⟨ad, rfl, hadb, hcell⟩ := HZ.out.2 (by omega)
      have hcz : w.cell? (ad.add j) = some (.int .i64 zs[j]) := hcell j _ (by simp [hlt])
      clear hcell
      generalize hzz : zs[j] = z at hcz
      have HZZ := hide hzz
      clear hzz
      by_cases hbig : z ≤ 65536
      · go_wp2
        go_round
        case rel =>
          refine ⟨j + 1, by omega, by go_num, fun y hy => ?_⟩
          rw [List.take_succ_eq_append_getElem hlt, List.mem_append, List.mem_singleton, HZZ.out] at hy
          rcases hy with hy | rfl
          · exact HB.out y hy
          · exact hbig
        case measure => simp [intOf]; omega
      · go_wp2
        go_ret
        exact ⟨rfl, new_refl _⟩
    · have HZB : Hid (∀ z ∈ zs, z ≤ 65536) := fun z hz => HB.out z (by rw [List.take_of_length_le (by omega)]; exact hz)
      clear HB
      go_wp2_with fail
      have HM0 := hide (MRel.start w zs bs)
      go_loopw [16, 17, 52] (fun v v2 i wr => ∃ k : Nat, k ≤ zs.length ∧ i = .int .i64 k ∧ Hid (MRel w zs bs k v v2 wr)) (fun _ _ i _ => zs.length - (intOf i).toNat)
      case atStart => exact ⟨0, Nat.zero_le _, rfl, HM0.out⟩
      case round =>
        obtain ⟨k, hk, rfl, HM⟩ := hrel
        clear HM0
        by_cases hlt2 : k < zs.length
        · obtain ⟨ad, rfl, hadb, hcell⟩ := HZ.out.2 (by omega)
          have hcz : wr.cell? (ad.add k) = some (.int .i64 zs[k]) := (HM.out.new_.cell (p := ad.add k) (by rw [block_add]; exact hadb)).trans (hcell k _ (by simp [hlt2]))
          have hzk := hcell k (.int .i64 zs[k]) (by simp [hlt2])
          have HZK := hide hzk
          clear hcell hzk
          have hml := mixSteps_length_le zs bs k
          obtain ⟨V1, c1, rfl, -, -⟩ := Sl.of_own HM.out.own1
          obtain ⟨V2, c2, rfl, -, -⟩ := Sl.of_own HM.out.own2
          have hBw := HM.out.new_.size
          generalize hzz : zs[k] = z at hcz
          have HZZ := hide hzz
          generalize hmm : (mixSteps zs bs k).length = ml at *
          have HML := hide hmm
          clear hmm hzz
          have HO1 : Hid (wr.ownsRow w.heap.size 26 2 (.slice V1 ml c1) ml (stepCells (mixSteps zs bs k))) := by
            have := HM.out.own1
            rw [HML.out] at this
            exact this
          go_wp2_with (at_builtin; (with_reducible refine wpList_append_one rfl (.tmp 55) (.tmp 61) 24 rfl w.heap.size 26 _ 2 16 Tryd.underlying24 infoStep rfl (by decide) _ _ _ rfl HO1.out _ _ rfl rfl ?c1 ?c2 ?c3 hBw rfl ?_))
          case c1 => intro u hu; simp at hu; rcases hu with rfl | rfl <;> rfl
          case c2 => unfold maxLen; omega
          case c3 => omega
          intro v4 w4 hown4 ht4 hn4
          have HO4 := hide hown4; have HT4 := hide ht4; have HN4 := hide hn4
          obtain ⟨V4, c4, rfl, -, -⟩ := Sl.of_own hown4
          have hnew4 := new_turns HM.out.new_ ht4 (fun g hg => (HO1.out.lt g hg).1)
          have hcz4 : w4.cell? (ad.add k) = some (.int .i64 z) := by
            have := (hnew4.cell (p := ad.add k) (by rw [block_add]; exact hadb)).trans HZK.out
            rwa [HZZ.out] at this
          have hBw4 := hnew4.size
          have HO2 := hide (own_turns HM.out.own2 ht4 (fun g hg e => HM.out.ap g (by rw [← e]) hg))
          clear hown4 ht4 hn4 hnew4 hcz
          go_wp2_with (at_builtin; (with_reducible refine wpList_append_one rfl (.tmp 63) (.tmp 69) 24 rfl w.heap.size 26 _ 2 16 Tryd.underlying24 infoStep rfl (by decide) _ _ _ rfl HO2.out _ _ rfl rfl ?d1 ?d2 ?d3 hBw4 rfl ?_))
          case d1 => intro u hu; simp at hu; rcases hu with rfl | rfl <;> rfl
          case d2 => unfold maxLen; omega
          case d3 => omega
          intro v5 w5 hown5 ht5 hn5
          have HMID : Hid (MMid w zs bs k zs[k] (.slice V4 (ml + 1) c4) v5 w5) := by
            refine MRel.mid hlt2 HM.out (w1 := w4) ?_ ?_ ?_ ?_ ht5 hn5
            · rw [HML.out, HZZ.out]; exact HO4.out
            · exact HT4.out
            · exact HN4.out
            · rw [HZZ.out]; exact hown5
          clear HO4 HT4 HN4 hown5 ht5 hn5 HO2 HO1 hcz4
          obtain ⟨V5, c5, rfl, -, -⟩ := Sl.of_own HMID.out.own2
          by_cases hkb : k < bs.length
          · obtain ⟨bad, rfl, hbb, hbcell⟩ := HBL.out (by omega)
            have hcb : w5.cell? (bad.add k) = some (.bool bs[k]) := (HMID.out.new_.cell (p := bad.add k) (by rw [block_add]; exact hbb)).trans (hbcell k _ (by simp [hkb]))
            clear hbcell
            have hgd : bs.getD k false = bs[k] := by simp [hkb]
            cases hbk : bs[k] with
            | true =>
              rw [hbk] at hcb hgd
              have HGD := hide hgd
              clear hgd hbk
              have hBw5 := HMID.out.new_.size
              have HO5 : Hid (w5.ownsRow w.heap.size 26 2 (.slice V4 (ml + 1) c4) (ml + 1) (stepCells (mixSteps zs bs k) ++ [.int .i64 0, .int .i64 z])) := by
                have := HMID.out.own1
                rw [HML.out, HZZ.out] at this
                exact this
              go_wp2_with (at_builtin; (with_reducible refine wpList_append_few' rfl (.tmp 81) (.tmp 84) 24 rfl w.heap.size 26 _ 2 16 Tryd.underlying24 infoStep rfl (by decide) _ _ _ rfl HO5.out 2 [.int .i64 1, .int .i64 0, .int .i64 1, .int .i64 0] _ rfl rfl ?e1 ?e2 ?e3 hBw5 rfl ?_))
              case e1 => intro u hu; simp at hu; rcases hu with rfl | rfl | rfl | rfl <;> rfl
              case e2 => unfold maxLen; omega
              case e3 => omega
              intro v6 w6 hown6 ht6 hn6
              have HM6 : Hid (MRel w zs bs (k + 1) v6 (.slice V5 (k + 1) c5) w6) := by
                refine MMid.closes hlt2 HMID.out HGD.out ?_ ht6 hn6
                rw [HML.out, HZZ.out, List.append_assoc]; exact hown6
              clear hown6 ht6 hn6
              go_wp2
              go_roundw
              case rel => exact ⟨k + 1, by omega, by go_num, HM6.out⟩
              case measure => simp [intOf]; omega
            | false =>
              rw [hbk] at hcb hgd
              have HM6 := hide (MMid.quiet hlt2 HMID.out hgd)
              clear hgd hbk
              go_wp2
              go_roundw
              case rel => exact ⟨k + 1, by omega, by go_num, HM6.out⟩
              case measure => simp [intOf]; omega
          · have hgd : bs.getD k false = false := by simp; rw [List.getElem?_eq_none (by omega)]; rfl
            have HM6 := hide (MMid.quiet hlt2 HMID.out hgd)
            clear hgd
            have hkb' : ¬ ((k : Int) < (bs.length : Int)) := by omega
            go_wp2
            go_roundw
            case rel => exact ⟨k + 1, by omega, by go_num, HM6.out⟩
            case measure => simp [intOf]; omega
        · obtain rfl : k = zs.length := by omega
          obtain ⟨V1, c1, rfl, -, -⟩ := Sl.of_own HM.out.own1
          obtain ⟨V2, c2, rfl, -, -⟩ := Sl.of_own HM.out.own2
          have hml := mixSteps_length_le zs bs zs.length
          have hreads := mixSteps_reads zs bs zs.length (Nat.le_refl _)
          rw [List.take_length] at hreads
          have hmem := mixSteps_mem zs bs zs.length (Nat.le_refl _)
          have ho1 := HM.out.own1
          have ho2 := HM.out.own2
          rw [List.take_length] at ho2
          have HN := hide HM.out.new_
          generalize mixSteps zs bs zs.length = l at *
          have HO1 := hide ho1; have HO2 := hide ho2; have HREADS := hide hreads; have HMEM := hide hmem
          clear ho1 ho2 hreads hmem HM
          have HRL : Hid ((readSteps zs).length = zs.length) := by simp [Hid, readSteps]
          go_wp2_with fail
          refine (source_any (s := s) (HD.out.new HN.out) HDN.out (HP.out.new HN.out) HPN.out (by omega) (by omega)).mono ?_
          rintro e w2 ⟨dv, pv, rfl, hdv, hpv, hN2⟩
          obtain ⟨A1, k1, rfl, hn1, hs1⟩ := Sl.of_own hdv
          obtain ⟨A2, k2, rfl, hn2, hs2⟩ := Sl.of_own hpv
          have HN2 := hide (new_trans HN.out hN2)
          have HO12 := hide (own_new HO1.out hN2); have HO22 := hide (own_new HO2.out hN2)
          have HS1 := hide hs1; have HS2 := hide hs2; have HK1 := hide hn1; have HK2 := hide hn2
          clear hdv hpv hN2 hs1 hs2 hn1 hn2 HO1 HO2 HN
          go_wp2_with fail
          refine (nopCloser_any (s := s) (steps := l) (E := E) HS1.out HK1.out HS2.out HK2.out (by omega) (by omega) HO12.out (by omega) ?hst ((HE.out.below HN2.out).up HN2.out.size)).mono ?_
          case hst =>
            intro st hst
            rcases HMEM.out st hst with rfl | ⟨h1, h2⟩
            · exact ⟨.inr rfl, by decide⟩
            · exact ⟨.inl h1, HZB.out _ h2⟩
          rintro e w3 ⟨v3, css, rfl, hown3, hgs3, hcl3, hN3⟩
          have HN3 := hide (new_trans HN2.out hN3)
          obtain ⟨A3, k3, rfl, -, -⟩ := Sl.of_own hown3
          have HO13 := hide (own_new HO12.out hN3); have HO23 := hide (own_new HO22.out hN3)
          have HOWN := hide hown3; have HGS := hide hgs3; have HCL := hide hcl3
          clear hown3 hgs3 hcl3 hN3 HO12 HO22 HS1 HS2 HK1 HK2
          go_wp2_with fail
          refine (source_any (s := s) (HD.out.new HN3.out) HDN.out (HP.out.new HN3.out) HPN.out (by omega) (by omega)).mono ?_
          rintro e w4 ⟨dv, pv, rfl, hdv, hpv, hN4⟩
          obtain ⟨A1', k1', rfl, hn1, hs1⟩ := Sl.of_own hdv
          obtain ⟨A2', k2', rfl, hn2, hs2⟩ := Sl.of_own hpv
          have HN4 := hide (new_trans HN3.out hN4); have HN34 := hide hN4
          have HO24 := hide (own_new HO23.out hN4)
          have HS1 := hide hs1; have HS2 := hide hs2; have HK1 := hide hn1; have HK2 := hide hn2
          clear hdv hpv hN4 hs1 hs2 hn1 hn2
          go_wp2_with fail
          refine (nopCloser_any (s := s) (steps := readSteps zs) (E := E) HS1.out HK1.out HS2.out HK2.out (by omega) (by omega) (by rw [HRL.out]; exact HO24.out) (by rw [HRL.out]; omega) ?hst2 ((HE.out.below HN4.out).up HN4.out.size)).mono ?_
          case hst2 =>
            intro st hst
            obtain ⟨z, hz, rfl⟩ := List.mem_map.1 hst
            exact ⟨.inl rfl, HZB.out z hz⟩
          rintro e w5 ⟨v5, csp, rfl, hown5, hgs5, hcl5, hN5⟩
          rw [HRL.out] at hown5
          obtain ⟨A5, k5, rfl, -, -⟩ := Sl.of_own hown5
          have HN5 := hide (new_trans HN4.out hN5)
          have hN35 := new_trans HN34.out hN5
          have HCR : Hid (CRel w5 w.heap.size w4.heap.size s l (.slice V1 l.length c1) (.slice A3 l.length k3) (.slice A5 zs.length k5) css csp zs.length) := by
            refine ⟨own_new HO13.out hN35, own_mono (own_new HOWN.out hN35) HN2.out.size, ?_, HCL.out, hown5, by rw [HREADS.out]; exact hgs5, hcl5⟩
            have hg := HGS.out.turns (Turns.of_new hN35 (fun _ => False)) (fun _ _ _ h => h)
            refine ⟨hg.1, fun i g cells h1 h2 => ?_⟩
            obtain ⟨A, c, e1, e2, e3, e4⟩ := hg.2 i g cells h1 h2
            exact ⟨A, c, e1, e2, e3, fun ad e => ⟨Nat.le_trans HN2.out.size (e4 ad e).1, (e4 ad e).2⟩⟩
          clear hown5 hgs5 hcl5 hN5 hN35 HO24 HS1 HS2 HK1 HK2 HO13 HO23 HOWN HGS HCL HN3 HN4 HN34
          have hneq1 : ((l.length : Int) != (l.length : Int)) = false := by simp
          have hneq2 : ((zs.length : Int) != (zs.length : Int)) = false := by simp
          go_wp2_with fail
          clear hneq1 hneq2
          go_loopw [21, 117] (fun a i wr => ∃ j : Nat, j ≤ l.length ∧ i = .int .i64 j ∧ a = .int .i64 ((readsOf (l.take j)).length : Nat) ∧ ∃ m, wr = w5.drewN m) (fun _ i _ => l.length - (intOf i).toNat)
          case atStart => exact ⟨0, Nat.zero_le _, rfl, rfl, 0, rfl⟩
          case round =>
            obtain ⟨j, hj, rfl, rfl, m, hwr⟩ := hrel
            have HCR2 := HCR.out.drawn m
            rw [← hwr] at HCR2
            have HWR := hide hwr
            clear hwr
            have HC := hide HCR2
            clear HCR2
            by_cases hlt3 : j < l.length
            · have hji : (j : Int) < (l.length : Int) := by omega
              have hj0 : (0 : Int) ≤ (j : Int) := by omega
              rcases HC.out.steps.2 with ⟨_, h0⟩ | ⟨sg, scap, scur, hsv, _, _, hsc1, hsm, _⟩
              · omega
              cases hsv
              rcases HC.out.own1.2 with ⟨_, h0⟩ | ⟨og, ocap, ocur, hov, _, _, hoc1, hom, _⟩
              · omega
              cases hov
              unfold maxLen at hsm hom
              have q0 : wr.cell? ⟨sg, j * 2, none⟩ = some (.int .i64 l[j].1) := by
                have := HC.out.steps.cells (g := sg) rfl (j * 2) _ (stepCells_get l j hlt3).1
                rwa [add0] at this
              rcases HMEM.out l[j] (List.getElem_mem hlt3) with h1 | ⟨h1, h2⟩
              · have hcg := s.close_get l j hlt3 h1
                obtain ⟨GA, gc, x0, x1, x2, x3, -, -, -⟩ := got_cells HC.out.own1 HC.out.gots1 HC.out.four1 hcg
                have HNX := hide (readsOf_take_close l j hlt3 h1)
                rw [h1] at q0
                have hnotT : ∀ (x : Bool) (w : World), (Op.unary .not (.bool x)).run Tryd.prog w = .ok (.bool (!x)) w := fun _ _ => rfl
                simp only [List.length_nil] at x0
                clear hcg h1
                generalize (readsOf (l.take j)).length = r at *
                go_wp2
                go_roundw
                case rel => exact ⟨j + 1, by omega, by go_num, by rw [HNX.out], m, HWR.out⟩
                case measure => simp [intOf]; omega
              · obtain ⟨hrl, g, hg1, hg2⟩ := s.read_get l j hlt3 h1
                have hrz : (readsOf l).length = zs.length := by rw [HREADS.out]; simp [readSteps]
                rw [hrz] at hrl
                rcases HC.out.own2.2 with ⟨_, h0⟩ | ⟨bg, bcap, bcur, hbv, _, _, hbc1, hbm, _⟩
                · omega
                cases hbv
                unfold maxLen at hbm
                obtain ⟨GA, gc, x0, x1, x2, x3, hsl1, -, -⟩ := got_cells HC.out.own1 HC.out.gots1 HC.out.four1 hg1
                obtain ⟨GB, gd, y0, y1, y2, y3, hsl2, -, -⟩ := got_cells HC.out.own2 HC.out.gots2 HC.out.four2 hg2
                have HNX := hide (readsOf_take_read l j hlt3 h1)
                rw [h1] at q0
                have hgl : g.data.length ≤ 1000000000000 := by
                  have hget := s.after_get l j hlt3
                  rw [hg1] at hget
                  have e := Option.some.inj hget
                  have hb := HZB.out _ h2
                  have hl2 := s.read_bytes_le (s.after (l.take j)).2.1 (s.after (l.take j)).2.2 l[j].2.toNat
                  have e2 : g.data = (s.read (s.after (l.take j)).2.1 (s.after (l.take j)).2.2 l[j].2.toNat).bytes := by rw [e]; unfold Src.stepG; rw [if_pos h1]
                  rw [e2]
                  omega
                have HSA := hide hsl1; have HSB := hide hsl2
                generalize (readsOf (l.take j)).length = r at *
                have hri : (r : Int) < (zs.length : Int) := by omega
                have hr0 : (0 : Int) ≤ (r : Int) := by omega
                have hnotT : ∀ (x : Bool) (w : World), (Op.unary .not (.bool x)).run Tryd.prog w = .ok (.bool (!x)) w := fun _ _ => rfl
                have hn1 : ((g.n : Int) != (g.n : Int)) = false := by simp
                have hn2 : ((g.code : Int) != (g.code : Int)) = false := by simp
                clear hg1 hg2 h1 h2 hrz hsl1 hsl2
                go_wp2_with fail
                go_quiet (first | (go_at_call 10; refine Calls.quiet_of (sameBytes_eq rfl (by exact HSA.out.drawn _) (by exact HSB.out.drawn _) hgl)))
                rename Nat => q1
                go_wp2
                go_roundw
                case rel => exact ⟨j + 1, by omega, by go_num, by rw [HNX.out]; go_num, m + q1, by rw [HWR.out]; simp⟩
                case measure => simp [intOf]; omega
            · have hge : ¬ ((j : Int) < (l.length : Int)) := by omega
              go_wp2
              go_ret
              exact ⟨rfl, by rw [HWR.out]; exact new_drN HN5.out _⟩

theorem fnNopClose_walk {w : World} {s : Src} {zs : List Int} {bs : List Bool} {DA PA ZA BA : Option Addr} {dc pc zc bc : Nat} {E : Nat → Addr} (hd : Sl w 1 DA s.data.length (s.data.map (Value.int .u8))) (hDn : DA = none → dc = 0)
    (hp : Sl w 1 PA s.pieces.length (s.pieces.map (Value.int .i64))) (hPn : PA = none → pc = 0) (hz : Sl w 1 ZA zs.length (zs.map (Value.int .i64))) (hb : Bl w BA bs) (hE : Env w.heap.size E w) :
    Calls Tryd.prog 6 #[.slice DA s.data.length dc, .slice PA s.pieces.length pc, .bool s.together, .bool s.broken, .bool s.direct, .slice ZA zs.length zc, .slice BA bs.length bc] w fun e w' => e = .returned (.bool true) ∧ New w w' := by
  by_cases c1 : s.data.length ≤ 65536
  · by_cases c2 : s.pieces.length ≤ 4096
    · by_cases c3 : zs.length ≤ 4096
      · exact fnNopClose_in hd hDn hp hPn hz hb c1 c2 c3 hE
      · clear hd hDn hp hPn hz hb hE
        go_enter Tryd.func6, Tryd.ntmps6
        go_wp2
        go_ret
        exact ⟨rfl, new_refl _⟩
    · clear hd hDn hp hPn hz hb hE
      go_enter Tryd.func6, Tryd.ntmps6
      go_wp2
      go_ret
      exact ⟨rfl, new_refl _⟩
  · clear hd hDn hp hPn hz hb hE
    go_enter Tryd.func6, Tryd.ntmps6
    go_wp2
    go_ret
    exact ⟨rfl, new_refl _⟩

end Go.Proofs.YtdcdbbcphkhmeaaDoor
