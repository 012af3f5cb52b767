/-
  laws.FnOffsetApart returns true, whatever the arguments.
-/
import Derived.Test.YtnmdjhkeekhfbaaDoorAtG
namespace Go.Proofs.YtnmdjhkeekhfbaaDoor
open Go.RowKit
set_option linter.unusedVariables false
set_option maxRecDepth 100000

/-- The row of places, opened. -/
theorem Placed.row {B : Nat} {w wr : World} {ps : List PlaceG} {sv : Value} (h : Placed B w wr ps sv) (h0 : 0 < ps.length) :
    ∃ g c, sv = .slice (some ⟨g, 0, none⟩) ps.length c ∧ ps.length ≤ c ∧ c ≤ 9223372036854775807 ∧ g < wr.heap.size ∧ ∀ k p, ps[k]? = some p → wr.cell? ⟨g, k * 4, none⟩ = some (.int .i64 p.kind) := by
  obtain ⟨css, h1, h2, h3⟩ := h
  have hm := h1
  rcases h1.2 with ⟨_, e⟩ | ⟨g, cap, cur, rfl, _, hg, hnc, hcm, _⟩
  · omega
  · unfold maxLen at hcm
    refine ⟨g, cap, rfl, hnc, by omega, (Array.getElem?_eq_some_iff.1 hg).1, fun k p hk => ?_⟩
    have hkl : k < ps.length := (List.getElem?_eq_some_iff.1 hk).1
    have hkc : k < css.length := by rw [h2.1]; exact hkl
    obtain ⟨A, d, e, _, _⟩ := h2.2 k p _ hk (List.getElem?_eq_getElem hkc)
    have := hm.cells (g := g) rfl (k * 4 + 0) (.int .i64 p.kind) (by rw [flatten4_get css h3 k 0 (by omega), List.getElem?_eq_getElem hkc, e]; rfl)
    rwa [add0] at this

theorem apart_new {w : World} {B n m : Nat} {u v v' : Value} {xs : List Value} (hu : w.ownsRow B 28 4 u n xs) (hn : Near w v v') (ha : ∀ g, v.ownBlock = some g → u.ownBlock ≠ some g) : ∀ g, v'.ownBlock = some g → u.ownBlock ≠ some g := by
  intro g hg hug
  rcases hn with h | ⟨g', h, hl⟩
  · exact ha g (h ▸ hg) hug
  · rw [h] at hg
    cases hg
    have := (hu.lt g hug).2
    omega

theorem bothP_fits (x : Bool × List Int × Int) (h1 : x.2.1.length ≤ 65536) (h2 : 0 ≤ x.2.2) (h3 : x.2.2 ≤ 1099511627776) : Fits (bothP x) := by
  unfold bothP
  split
  · exact ⟨h1, .inr (.inr (by simp only; omega))⟩
  · exact ⟨h1, .inr (.inr (by simp))⟩

set_option maxHeartbeats 4000000 in
theorem fnOffsetApart_in {w : World} {base : Int} {ks : List Bool} {ts : List (List Int)} {os : List Int} {KA TA OA : Option Addr} {kc tc oc : Nat} {E : Nat → Addr} (hkb : Bl w KA ks) (ht : Tx w TA ts) (ho : Sl w 1 OA os.length (os.map (Value.int .i64))) (hE : Env w.heap.size E w) (hl : ts.length ≤ 1024) (hb0 : 0 ≤ base) (hb1 : base ≤ 1099511627776) :
    Calls Tryd.prog 3 #[.int .i64 base, .slice KA ks.length kc, .slice TA ts.length tc, .slice OA os.length oc] w fun e w' => e = .returned (.bool true) ∧ New w w' := by
  have HT := hide ht; have HOF := hide ho; have HE := hide hE; have HKB := hide hkb
  clear ht ho hE hkb
  have hzlen : (ks.zip (ts.zip os)).length = Nat.min ks.length (Nat.min ts.length os.length) := by simp [List.length_zip]
  have HZLEN := hide hzlen
  clear hzlen
  go_enter Tryd.func3, Tryd.ntmps3
  go_wp2
  go_loopw [9, 10, 11] (fun v u i wr => ∃ k : Nat, k ≤ ts.length ∧ k ≤ os.length ∧ k ≤ ks.length ∧ i = .int .i64 k ∧ Hid (Placed w.heap.size w wr (((ks.zip (ts.zip os)).take k).map bothP) v) ∧ Hid (Placed w.heap.size w wr ((someT ((ks.zip (ts.zip os)).take k)).map writeP) u) ∧ Hid (∀ g, v.ownBlock = some g → u.ownBlock ≠ some g) ∧ Hid (New w wr) ∧ Hid (∀ x ∈ (ks.zip (ts.zip os)).take k, x.2.1.length ≤ 65536 ∧ 0 ≤ x.2.2 ∧ x.2.2 ≤ 1099511627776)) (fun _ _ i _ => ts.length - (intOf i).toNat)
  case atStart => exact ⟨0, Nat.zero_le _, Nat.zero_le _, Nat.zero_le _, rfl, Placed.nil ((At.made _ _ _).laid _) (Nat.le_refl _), Placed.nil (At.made' (by simp) _ _) (by omega), (by intro g h h2; simp [Value.ownBlock] at h h2; omega), new_al (new_alloc _ _) _, by intro t h; simp at h⟩
  case round =>
    obtain ⟨k, hk, hko, hkk, rfl, HO, HS, HAP, HN, HL⟩ := hrel
    obtain ⟨VA, vc, css, rfl, hown, hpa, h4⟩ := HO.out.slice
    obtain ⟨UA, uc, dss, rfl, hown2, hpa2, h42⟩ := HS.out.slice
    have hlen : (((ks.zip (ts.zip os)).take k).map bothP).length = k := by rw [List.length_map, List.length_take, HZLEN.out]; simp only [Nat.min_def]; split <;> split <;> omega
    rw [hlen] at hown
    have HPL0 : Hid (Placed w.heap.size w wr (((ks.zip (ts.zip os)).take k).map bothP) (.slice VA k vc)) := by
      have h := HO.out
      rw [hlen] at h
      exact h
    have hap0 := HAP.out
    rw [hlen] at hap0 ⊢
    generalize hml : ((someT ((ks.zip (ts.zip os)).take k)).map writeP).length = m at *
    have hmk : m ≤ k := by
      rw [← hml, List.length_map]
      exact Nat.le_trans (someT_len _) (by rw [List.length_take]; exact Nat.min_le_left ..)
    have HOW := hide hown; have HPA := hide hpa; have H4 := hide h4; have HLEN := hide hlen; have HOW2 := hide hown2; have HPA2 := hide hpa2; have H42 := hide h42; have HML := hide hml; have HAP0 := hide hap0
    clear hown hpa h4 hlen hown2 hpa2 h42 hml hap0 HAP HO
    by_cases hlt : k < ts.length ∧ k < os.length ∧ k < ks.length
    · obtain ⟨hlt1, hlt2, hlt3⟩ := hlt
      have hkg : ts[k]? = some ts[k] := List.getElem?_eq_getElem hlt1
      obtain ⟨ad, A, c, rfl, hcell, hn, hsl⟩ := HT.out.at_ HN.out hkg
      obtain ⟨ad2, rfl, hadb, hoc⟩ := HOF.out.2 (by omega)
      obtain ⟨ad3, rfl, hadb3, hkc3⟩ := HKB.out (by omega)
      have hcell2 : wr.cell? (ad2.add k) = some (.int .i64 os[k]) := (HN.out.cell (p := ad2.add k) (by rw [block_add]; exact hadb)).trans (hoc k _ (by simp [hlt2]))
      have hcell3 : wr.cell? (ad3.add k) = some (.bool ks[k]) := (HN.out.cell (p := ad3.add k) (by rw [block_add]; exact hadb3)).trans (hkc3 k _ (by simp [hlt3]))
      have hi : (k : Int) < (ts.length : Int) := by omega
      have hi2 : (k : Int) < (os.length : Int) := by omega
      have hi3 : (k : Int) < (ks.length : Int) := by omega
      have hi0 : (0 : Int) ≤ (k : Int) := by omega
      have hzk : k < (ks.zip (ts.zip os)).length := by rw [HZLEN.out]; simp only [Nat.min_def]; split <;> split <;> omega
      have hzg : (ks.zip (ts.zip os))[k] = (ks[k], ts[k], os[k]) := by simp
      have htk : ((ks.zip (ts.zip os)).take (k + 1)).map bothP = ((ks.zip (ts.zip os)).take k).map bothP ++ [bothP (ks[k], ts[k], os[k])] := by rw [List.take_succ_eq_append_getElem hzk, List.map_append, hzg]; rfl
      have hst : (someT ((ks.zip (ts.zip os)).take (k + 1))).map writeP = (someT ((ks.zip (ts.zip os)).take k)).map writeP ++ (if ks[k] then [] else [writeP ts[k]]) := by
        rw [someT_take _ _ hzk, List.map_append, hzg]
        congr 1
        cases ks[k] <;> rfl
      have hlall : ts[k].length ≤ 65536 → 0 ≤ os[k] → os[k] ≤ 1099511627776 → ∀ x ∈ (ks.zip (ts.zip os)).take (k + 1), x.2.1.length ≤ 65536 ∧ 0 ≤ x.2.2 ∧ x.2.2 ≤ 1099511627776 := fun h1 h2 h3 x hx => by
        rw [List.take_succ_eq_append_getElem hzk] at hx
        rcases List.mem_append.1 hx with hx | hx
        · exact HL.out x hx
        · rw [List.mem_singleton.1 hx, hzg]; exact ⟨h1, h2, h3⟩
      have HTK := hide htk; have HST := hide hst; have HSL := hide hsl; have HNN := hide hn; have HLA := hide hlall; have HKG := hide hkg
      clear hkg htk hst hsl hn hlall hoc hzk hzg hkc3
      generalize ts[k] = t at *
      generalize os[k] = o at *
      generalize ks[k] = b at *
      by_cases hbig : t.length ≤ 65536
      · by_cases ho0 : 0 ≤ o
        · by_cases ho1 : o ≤ 1099511627776
          · have hBw := HN.out.size
            cases b with
            | true =>
              go_wp2_with fail
              go_region_law
                ((refine step_append_sl (by rfl) (.tmp 73) (.tmp 83) 25 (by rfl) w.heap.size 28 _ 4 48 Tryd.underlying25 infoPlace rfl (by decide) (.slice VA k vc) _ _ (by rfl) (by exact own_new HOW.out (by repeat (with_reducible first | exact new_refl _ | apply new_al | apply new_dr | apply new_drN))) (some ⟨wr.heap.size, 0, none⟩) 1 1 [.int .i64 1, .slice A t.length c, .int .i64 o, .int .i64 0] (by rfl) (fun e => by cases e) (by first | exact Sl.one _ _ _ _ rfl | exact (Sl.one _ _ _ _ rfl).drawn 1) (by intro u hu; simp at hu; rcases hu with rfl | rfl | rfl | rfl <;> rfl) (by unfold maxLen; omega) (by omega) (by simp; omega) ?_; intro v4 w4 hown4 ht4 hn4))
              all_goals
                have HO4 : Hid (Placed w.heap.size w w4 (((ks.zip (ts.zip os)).take (k + 1)).map bothP) v4) := by
                  rw [HTK.out]
                  exact Placed.more HPA.out H4.out (PlaceAt.write 1 o 0 HSL.out HNN.out) (by rw [HLEN.out]; exact hown4)
                have hown2' : w4.ownsRow w.heap.size 28 4 (.slice UA m uc) m dss.flatten := own_turns (own_new HOW2.out (by repeat (with_reducible first | exact new_refl _ | apply new_al | apply new_dr | apply new_drN))) ht4 (fun g hg h => HAP0.out g h hg)
                have HS4 : Hid (Placed w.heap.size w w4 ((someT ((ks.zip (ts.zip os)).take (k + 1))).map writeP) (.slice UA m uc)) := by
                  rw [HST.out]
                  exact ⟨dss, by simp only [if_true, List.append_nil]; rw [HML.out]; exact hown2', by simp only [if_true, List.append_nil]; exact HPA2.out, H42.out⟩
                have HAP4 : Hid (∀ g, v4.ownBlock = some g → (Value.slice UA m uc).ownBlock ≠ some g) := hide (apart_new (m := 0) (own_new HOW2.out (by repeat (with_reducible first | exact new_refl _ | apply new_al | apply new_dr | apply new_drN))) (Or.imp id (fun h => ⟨_, h, Nat.le_refl _⟩) hn4) HAP0.out)
                have HN4 : Hid (New w w4) := hide (new_turns (new_trans HN.out (by repeat (with_reducible first | exact new_refl _ | apply new_al | apply new_dr | apply new_drN))) ht4 (fun g hg => (HOW.out.lt g hg).1))
                clear hown4 ht4 hn4 hown2'
                go_wp2
                go_roundw
                case rel => exact ⟨k + 1, by omega, by omega, by omega, by go_num, HO4.out, HS4.out, HAP4.out, HN4.out, HLA.out hbig ho0 ho1⟩
                case measure => simp [intOf]; omega
            | false =>
              go_wp2_with (at_builtin; (with_reducible refine wpList_append_one rfl (.tmp 85) (.tmp 91) 25 rfl w.heap.size 28 _ 4 48 Tryd.underlying25 infoPlace rfl (by decide) _ _ _ rfl HOW.out _ _ rfl rfl ?c1 ?c2 ?c3 hBw rfl ?_))
              case c1 => intro u hu; simp at hu; rcases hu with rfl | rfl | rfl | rfl <;> rfl
              case c2 => unfold maxLen; omega
              case c3 => omega
              intro v4 w4 hown4 ht4 hn4
              have HO4 : Hid (Placed w.heap.size w w4 (((ks.zip (ts.zip os)).take (k + 1)).map bothP) v4) := by
                rw [HTK.out]
                exact Placed.more HPA.out H4.out (PlaceAt.write 0 0 0 HSL.out HNN.out) (by rw [HLEN.out]; exact hown4)
              have hown2' : w4.ownsRow w.heap.size 28 4 (.slice UA m uc) m dss.flatten := own_turns HOW2.out ht4 (fun g hg h => HAP0.out g h hg)
              have HAP4 : Hid (∀ g, v4.ownBlock = some g → (Value.slice UA m uc).ownBlock ≠ some g) := hide (apart_new (m := 0) HOW2.out hn4 HAP0.out)
              have HN4 : Hid (New w w4) := hide (new_turns HN.out ht4 (fun g hg => (HOW.out.lt g hg).1))
              have hBw4 := HN4.out.size
              have HOW4 := hide hown2'; have HOWA := hide hown4
              obtain ⟨ad4, A4, c4, hea, hcell4, hn5, hsl5⟩ := HT.out.at_ HN4.out HKG.out
              cases hea
              have HSL5 := hide hsl5; have HNN5 := hide hn5
              clear hown4 ht4 hn4 hown2' hcell hsl5 hn5
              go_wp2_with (at_builtin; (with_reducible refine wpList_append_one rfl (.tmp 93) (.tmp 99) 25 rfl w.heap.size 28 _ 4 48 Tryd.underlying25 infoPlace rfl (by decide) _ _ _ rfl HOW4.out _ _ rfl rfl ?c1 ?c2 ?c3 hBw4 rfl ?_))
              case c1 => intro u hu; simp at hu; rcases hu with rfl | rfl | rfl | rfl <;> rfl
              case c2 => unfold maxLen; omega
              case c3 => omega
              intro v5 w5 hown5 ht5 hn5
              have HS5 : Hid (Placed w.heap.size w w5 ((someT ((ks.zip (ts.zip os)).take (k + 1))).map writeP) v5) := by
                rw [HST.out]
                exact Placed.more HPA2.out H42.out (PlaceAt.write 0 0 0 HSL5.out HNN5.out) (by rw [HML.out]; exact hown5)
              have HO5 : Hid (Placed w.heap.size w w5 (((ks.zip (ts.zip os)).take (k + 1)).map bothP) v4) := by
                obtain ⟨css', q1, q2, q3⟩ := HO4.out
                exact ⟨css', own_turns q1 ht5 (fun g hg h => HAP4.out g hg h), q2, q3⟩
              have HAP5 : Hid (∀ g, v4.ownBlock = some g → v5.ownBlock ≠ some g) := hide (fun g h1 h2 => apart_new (m := 0) HOWA.out hn5 (fun g h1 h2 => HAP4.out g h2 h1) g h2 h1)
              have HN5 : Hid (New w w5) := hide (new_turns HN4.out ht5 (fun g hg => (HOW4.out.lt g hg).1))
              clear hown5 ht5 hn5
              go_wp2
              go_roundw
              case rel => exact ⟨k + 1, by omega, by omega, by omega, by go_num, HO5.out, HS5.out, HAP5.out, HN5.out, HLA.out hbig ho0 ho1⟩
              case measure => simp [intOf]; omega
          · have hbig2 : (1099511627776 : Int) < o := by omega
            go_wp2
            go_ret
            exact ⟨rfl, HN.out⟩
        · have hbig2 : o < 0 := by omega
          go_wp2
          go_ret
          exact ⟨rfl, HN.out⟩
      · have hbig2 : (65536 : Int) < (t.length : Int) := by omega
        go_wp2
        go_ret
        exact ⟨rfl, HN.out⟩
    · have hzl : (ks.zip (ts.zip os)).length = k := by rw [HZLEN.out]; simp only [Nat.min_def]; split <;> split <;> omega
      have htake : (ks.zip (ts.zip os)).take k = ks.zip (ts.zip os) := List.take_of_length_le (by omega)
      rw [htake] at HPL0 HS HL HLEN HML
      have HZL := hide hzl
      have hk1 : k ≤ 1024 := by omega
      have hex : ¬ k < ts.length ∨ (k < ts.length ∧ ¬ k < os.length) ∨ (k < ts.length ∧ k < os.length ∧ ¬ k < ks.length) := by omega
      clear HOW HPA H4 htake hzl hlt HOW2 HPA2 H42 HAP0 HZLEN
      generalize ks.zip (ts.zip os) = l at *
      have hmem : ∀ t ∈ someT l, t.length ≤ 65536 := fun t ht => by
        obtain ⟨x, hx, e⟩ := someT_mem l t ht
        rw [← e]
        exact (HL.out x hx).1
      have hml2 : (someT l).length = m := by have := HML.out; rwa [List.length_map] at this
      have htot := tot_le (someT l) hmem
      rw [hml2] at htot
      have hrun := both_run base 1125899906842624 l (by omega) (fun x hx => (HL.out x hx).2.1)
      have hrun2 := writes_run base 1125899906842624 (someT l) (by omega)
      have HR := hide hrun; have HR2 := hide hrun2; have HMEM := hide hmem; have HML2 := hide hml2
      have HS1 : Hid (Placed w.heap.size w wr ((someT l).map writeP) (.slice UA m uc)) := hide HS.out
      clear hrun hrun2 hmem hml2 HS htot
      rcases hex with hx | ⟨hx, hx2⟩ | ⟨hx, hx2, hx3⟩
      all_goals
        go_wp2_with fail
        refine (offCall (ps := l.map bothP) HPL0.out HN.out HE.out (by rw [HLEN.out]; omega) ?hf (by omega) (by omega) hb0 (by omega)).mono ?_
        case hf =>
          intro p hp
          obtain ⟨x, hx, rfl⟩ := List.mem_map.1 hp
          have := HL.out x hx
          exact bothP_fits x this.1 this.2.1 this.2.2
        rintro e w2 ⟨MA, mc, CA, cc, css2, rfl, hran, hn⟩
        rw [HR.out] at hran ⊢
        have HN2 := hide (new_trans HN.out hn)
        have HPL2 := hide (HPL0.out.new hn)
        have HS2 := hide (HS1.out.new hn)
        simp only [runG_len, List.length_map, bothC_len, HZL.out] at hran ⊢
        have HRAN := hide hran
        clear hran hn
        generalize wr.heap.size = HB0 at *
        generalize (runG base 1125899906842624 (l.map bothP)).1 = ms at *
        go_wp2_with fail
        refine (offCall (ps := (someT l).map writeP) HS2.out HN2.out HE.out (by rw [List.length_map, HML2.out]; omega) ?hf (by omega) (by omega) hb0 (by omega)).mono ?_
        case hf =>
          intro p hp
          obtain ⟨t, ht, rfl⟩ := List.mem_map.1 hp
          exact ⟨HMEM.out t ht, .inr (.inr (by simp [writeP]))⟩
        rintro e w3 ⟨MA3, mc3, CA3, cc3, css3, rfl, hran3, hn3⟩
        rw [HR2.out] at hran3 ⊢
        have HN3 := hide (new_trans HN2.out hn3)
        have HPL3 := hide (HPL2.out.new hn3)
        have HRAN1 := hide (HRAN.out.new hn3)
        simp only [List.length_map, callsOf_length, HML2.out] at hran3 ⊢
        have HRAN3 := hide hran3
        clear hran3 hn3
        generalize w2.heap.size = HB1 at *
        have hneq : ((k : Int) != (k : Int)) = false := by simp
        have hneq2 : ((m : Int) != (m : Int)) = false := by simp
        go_wp2
        go_loopw [16, 127] (fun a i wr => ∃ j : Nat, j ≤ k ∧ i = .int .i64 j ∧ a = .int .i64 ((someT (l.take j)).length : Nat) ∧ Hid (Ran HB0 wr ms (bothC base base l) (.slice MA k mc) (.slice CA k cc) css2) ∧ Hid (Ran HB1 wr ((someT l).map (fun t => ⟨(t.length : Nat), 0⟩)) (callsOf base (someT l)) (.slice MA3 m mc3) (.slice CA3 m cc3) css3) ∧ Hid (Placed w.heap.size w wr (l.map bothP) (.slice VA k vc)) ∧ Hid (New w wr)) (fun _ i _ => k - (intOf i).toNat)
        case atStart => exact ⟨0, Nat.zero_le _, rfl, rfl, HRAN1.out, HRAN3.out, HPL3.out, HN3.out⟩
        case round =>
          clear HRAN HRAN1 HRAN3 HPL3 HPL2 HPL0 HN3 HN2 HS1 HS2 HR HR2
          obtain ⟨j, hj, rfl, rfl, HRAN, HRAN3, HPL, HN3⟩ := hrel
          by_cases hlt3 : j < k
          · have hjl : j < l.length := by rw [HZL.out]; exact hlt3
            obtain ⟨g, pc, e1, hp1, hp2, hpg, hpc⟩ := HPL.out.row (by rw [HLEN.out]; omega)
            rw [HLEN.out] at e1 hp1
            cases e1
            have hkind := hpc j (bothP l[j]) (by rw [List.getElem?_map, List.getElem?_eq_getElem hjl]; rfl)
            obtain ⟨g2, cc', e1, hc21, hc22, hg2, hm2⟩ := HRAN.out.crow (by rw [bothC_len, HZL.out]; omega)
            simp only [bothC_len, HZL.out] at e1 hc21
            cases e1
            have hcg := bothC_get base base l j
            rw [List.getElem?_eq_getElem hjl] at hcg
            obtain ⟨CB, d, z0, z1, hsA⟩ := hm2 j _ hcg
            have hstk := someT_take l j hjl
            have hi : (j : Int) < (k : Int) := by omega
            have hi0 : (0 : Int) ≤ (j : Int) := by omega
            have hsle : (someT (l.take j)).length ≤ j := Nat.le_trans (someT_len _) (by rw [List.length_take]; exact Nat.min_le_left ..)
            cases hb : l[j].1 with
            | true =>
              rw [hb] at hstk
              simp only [if_true, List.append_nil] at hstk
              have hk1 : (bothP l[j]).kind = 1 := by simp [bothP, hb]
              rw [hk1] at hkind
              have HSTK := hide hstk
              clear hstk z0 z1 hsA hcg hm2 hpc hk1
              go_wp2
              go_roundw
              case rel => exact ⟨j + 1, by omega, by go_num, by rw [HSTK.out], HRAN.out, HRAN3.out, HPL.out, HN3.out⟩
              case measure => simp [intOf]; omega
            | false =>
              rw [hb] at hstk
              have hk1 : (bothP l[j]).kind = 0 := by simp [bothP, hb]
              rw [hk1] at hkind
              obtain ⟨hsg, hst⟩ := someT_at l j hjl hb
              have hcg3 := callsOf_get base (someT l) (someT (l.take j)).length
              rw [hsg, hst] at hcg3
              have hsl : (someT (l.take j)).length < (someT l).length := (List.getElem?_eq_some_iff.1 hsg).1
              rw [HML2.out] at hsl
              obtain ⟨g3, cc3', e1, hc31, hc32, hg3, hm3⟩ := HRAN3.out.crow (by rw [callsOf_length, HML2.out]; omega)
              simp only [callsOf_length, HML2.out] at e1 hc31
              cases e1
              obtain ⟨CB3, d3, y0, y1, hsA3⟩ := hm3 _ _ hcg3
              simp only [hb] at z0
              simp only [Bool.false_eq_true, if_false] at z0 y0
              have hlen1 : (someT (l.take (j + 1))).length = (someT (l.take j)).length + 1 := by rw [hstk]; simp
              have HLEN1 := hide hlen1
              have n1 : ∀ T : Nat, ((base + (T : Int)) != (base + (T : Int))) = false := fun T => by simp
              have n2 := n1 (tot (someT (l.take j)))
              clear hstk z1 hsA hcg hm2 hpc hk1 hsA3 y1 hm3 hcg3 hsg hst hlen1 n1
              generalize tot (someT (l.take j)) = T at *
              generalize hSS : (someT (l.take j)).length = SS at *
              have hs0 : (0 : Int) ≤ (SS : Int) := by omega
              have hs1 : (SS : Int) < (m : Int) := by omega
              go_wp2_with fail
              go_quiet (fail)
              rename Nat => q9
              go_wp2
              go_roundw
              case rel => exact ⟨j + 1, by omega, by go_num, by rw [HLEN1.out]; go_num, HRAN.out.new (new_drN (new_refl _) _), HRAN3.out.new (new_drN (new_refl _) _), HPL.out.new (new_drN (new_refl _) _), new_drN HN3.out _⟩
              case measure => simp [intOf]; omega
          · go_wp2
            go_ret
            exact ⟨rfl, HN3.out⟩

theorem fnOffsetApart_walk {w : World} {base : Int} {ks : List Bool} {ts : List (List Int)} {os : List Int} {KA TA OA : Option Addr} {kc tc oc : Nat} {E : Nat → Addr} (hkb : Bl w KA ks) (ht : Tx w TA ts) (ho : Sl w 1 OA os.length (os.map (Value.int .i64))) (hE : Env w.heap.size E w) :
    Calls Tryd.prog 3 #[.int .i64 base, .slice KA ks.length kc, .slice TA ts.length tc, .slice OA os.length oc] w fun e w' => e = .returned (.bool true) ∧ New w w' := by
  by_cases hc : ts.length ≤ 1024 ∧ 0 ≤ base ∧ base ≤ 1099511627776
  · obtain ⟨c0, c1, c2⟩ := hc
    exact fnOffsetApart_in hkb ht ho hE c0 c1 c2
  · clear ht ho hE hkb
    have hc2 : ¬ ts.length ≤ 1024 ∨ (ts.length ≤ 1024 ∧ base < 0) ∨ (ts.length ≤ 1024 ∧ 0 ≤ base ∧ 1099511627776 < base) := by omega
    clear hc
    rcases hc2 with h1 | ⟨h1, h2⟩ | ⟨h1, h2, h3⟩
    all_goals
      go_enter Tryd.func3, Tryd.ntmps3
      go_wp2
      go_ret
      exact ⟨rfl, new_refl _⟩

end Go.Proofs.YtnmdjhkeekhfbaaDoor
