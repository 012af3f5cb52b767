/-
  laws.FnOffsetBases returns true, whatever the arguments.
-/
import Derived.Test.YtnmdjhkeekhfbaaDoorScript
import Derived.Test.YtnmdjhkeekhfbaaDoorCallsG
import Derived.Test.YtnmdjhkeekhfbaaDoorOffEq
namespace Go.Proofs.YtnmdjhkeekhfbaaDoor
open Go.RowKit
set_option linter.unusedVariables false
set_option maxRecDepth 100000

set_option maxHeartbeats 4000000 in
theorem fnOffsetBases_in {w : World} {base limit other : Int} {ks : List Int} {ts : List (List Int)} {os : List Int} {KA TA OA : Option Addr} {kc tc oc : Nat} {E : Nat → Addr} (hkb : Sl w 1 KA ks.length (ks.map (Value.int .i64))) (ht : Tx w TA ts) (ho : Sl w 1 OA os.length (os.map (Value.int .i64))) (hE : Env w.heap.size E w) (hl0 : ks.length ≤ 1024) (hl : ts.length ≤ 1024) (hl2 : os.length ≤ 1024) (hb0 : 0 ≤ base) (hb1 : base ≤ 1099511627776) (hm0 : -1125899906842624 ≤ limit) (hm1 : limit ≤ 1125899906842624) :
    Calls Tryd.prog 5 #[.int .i64 base, .int .i64 limit, .slice KA ks.length kc, .slice TA ts.length tc, .slice OA os.length oc, .int .i64 other] w fun e w' => e = .returned (.bool true) ∧ New w w' := by
  have HT := hide ht; have HOF := hide ho; have HE := hide hE; have HKB := hide hkb
  clear ht ho hE hkb
  go_enter Tryd.func5, Tryd.ntmps5
  go_wp2
  go_loop [54] (fun i => ∃ j : Nat, j ≤ ts.length ∧ i = .int .i64 j ∧ Hid (∀ t ∈ ts.take j, t.length ≤ 65536)) (fun i => ts.length - (intOf i).toNat)
  case atStart => exact ⟨0, Nat.zero_le _, rfl, by intro z hz; simp at hz⟩
  case round =>
    obtain ⟨j, hj, rfl, HB⟩ := hrel
    by_cases hlt : j < ts.length
    · have hkg : ts[j]? = some ts[j] := List.getElem?_eq_getElem hlt
      obtain ⟨ad, A, c, rfl, hcell, hn, hsl⟩ := HT.out.at_ (new_refl w) hkg
      have hlall : ts[j].length ≤ 65536 → ∀ t ∈ ts.take (j + 1), t.length ≤ 65536 := fun h t ht => by
        rw [List.take_succ_eq_append_getElem hlt] at ht
        rcases List.mem_append.1 ht with ht | ht
        · exact HB.out t ht
        · rw [List.mem_singleton.1 ht]; exact h
      have HLA := hide hlall
      have hi : (j : Int) < (ts.length : Int) := by omega
      have hi0 : (0 : Int) ≤ (j : Int) := by omega
      clear hkg hn hsl hlall
      generalize ts[j] = t at *
      by_cases hbig : t.length ≤ 65536
      · go_wp2
        go_round
        case rel => exact ⟨j + 1, by omega, by go_num, HLA.out hbig⟩
        case measure => simp [intOf]; omega
      · have hbig2 : (65536 : Int) < (t.length : Int) := by omega
        go_wp2
        go_ret
        exact ⟨rfl, new_refl _⟩
    · have HTB : Hid (∀ t ∈ ts, t.length ≤ 65536) := fun t ht => HB.out t (by rw [List.take_of_length_le (by omega)]; exact ht)
      clear HB
      go_wp2_with fail
      go_loop [66] (fun i => ∃ j : Nat, j ≤ os.length ∧ i = .int .i64 j ∧ Hid (∀ o ∈ os.take j, -1099511627776 ≤ o ∧ o ≤ 1099511627776)) (fun i => os.length - (intOf i).toNat)
      case atStart => exact ⟨0, Nat.zero_le _, rfl, by intro z hz; simp at hz⟩
      case round =>
        obtain ⟨i, hi, rfl, HB⟩ := hrel
        by_cases hlt2 : i < os.length
        · obtain ⟨ad2, rfl, hadb, hoc⟩ := HOF.out.2 (by omega)
          have hcell2 : w.cell? (ad2.add i) = some (.int .i64 os[i]) := hoc i _ (by simp [hlt2])
          have hlall : -1099511627776 ≤ os[i] → os[i] ≤ 1099511627776 → ∀ o ∈ os.take (i + 1), -1099511627776 ≤ o ∧ o ≤ 1099511627776 := fun h h2 o ho => by
            rw [List.take_succ_eq_append_getElem hlt2] at ho
            rcases List.mem_append.1 ho with ho | ho
            · exact HB.out o ho
            · rw [List.mem_singleton.1 ho]; exact ⟨h, h2⟩
          have HLA := hide hlall
          have hi1 : (i : Int) < (os.length : Int) := by omega
          have hi0 : (0 : Int) ≤ (i : Int) := by omega
          clear hoc hlall
          generalize os[i] = o at *
          by_cases ho0 : -1099511627776 ≤ o
          · by_cases ho1 : o ≤ 1099511627776
            · go_wp2
              go_round
              case rel => exact ⟨i + 1, by omega, by go_num, HLA.out ho0 ho1⟩
              case measure => simp [intOf]; omega
            · have hbig2 : (1099511627776 : Int) < o := by omega
              go_wp2
              go_ret
              exact ⟨rfl, new_refl _⟩
          · have hbig2 : o < -1099511627776 := by omega
            go_wp2
            go_ret
            exact ⟨rfl, new_refl _⟩
        · have HOB : Hid (∀ o ∈ os, -1099511627776 ≤ o ∧ o ≤ 1099511627776) := fun o ho => HB.out o (by rw [List.take_of_length_le (by omega)]; exact ho)
          clear HB
          by_cases p0 : 0 ≤ other
          · by_cases p1 : other ≤ 1099511627776
            · go_wp2_with fail
              refine (script_any HKB.out HT.out HOF.out hl).mono ?_
              rintro e w1 ⟨PA, pc, SA, sc, rfl, hP, hS, hN1⟩
              have hzlen : (ks.zip (ts.zip os)).length ≤ 1024 := by rw [List.length_zip]; omega
              have hmem := zip_mem (ks := ks) HTB.out HOB.out
              generalize ks.zip (ts.zip os) = l at *
              have hfit : ∀ p ∈ l.map scriptP, Fits p := fun p hp => by
                obtain ⟨x, hx, rfl⟩ := List.mem_map.1 hp
                have := hmem x hx
                exact scriptP_fits x this.1 this.2.1 this.2.2
              have hpl : (l.map scriptP).length = l.length := by simp
              have hbd := runG_calls base limit (l.map scriptP) ⟨hb0, by omega⟩ hfit
              have hsh : runG other (limit - base + other) (l.map scriptP) = ((runG base limit (l.map scriptP)).1, (runG base limit (l.map scriptP)).2.1 + (other - base), (runG base limit (l.map scriptP)).2.2.map (fun c => ⟨c.off + (other - base), c.data⟩)) := by
                have := runG_shift base limit (other - base) (l.map scriptP)
                rwa [show base + (other - base) = other by omega, show limit + (other - base) = limit - base + other by omega] at this
              have hml := runG_len base limit (l.map scriptP)
              rw [hpl] at hml hbd
              generalize l.map scriptP = ps at *
              generalize l.length = n at *
              have HP := hide hP; have HN1 := hide hN1; have HFIT := hide hfit; have HPLN := hide hpl; have HBD := hide hbd; have HSH := hide hsh; have HML := hide hml
              clear hP hS hN1 hmem hfit hpl hbd hsh hml
              go_wp2_with fail
              refine (offCall (ps := ps) HP.out HN1.out HE.out (by rw [HPLN.out]; omega) HFIT.out (by omega) (by omega) hb0 (by omega)).mono ?_
              rintro e w2 ⟨MA, mc, CA, cc, css2, rfl, hran, hn⟩
              have HN2 := hide (new_trans HN1.out hn)
              have HP2 := hide (HP.out.new hn)
              rw [HML.out] at hran ⊢
              have HRAN := hide hran
              clear hran hn
              generalize w1.heap.size = HB0 at *
              have s1 : IntKind.i64.wrap (limit - base) = limit - base := IntWalk.i64_in _ (by omega)
              have s2 : IntKind.i64.wrap (limit - base + other) = limit - base + other := IntWalk.i64_in _ (by omega)
              go_wp2_with fail
              refine (offCall (ps := ps) HP2.out HN2.out HE.out (by rw [HPLN.out]; omega) HFIT.out (by omega) (by omega) p0 (by omega)).mono ?_
              rintro e w3 ⟨MA3, mc3, CA3, cc3, css3, rfl, hran3, hn3⟩
              rw [HSH.out] at hran3 ⊢
              have HN3 := hide (new_trans HN2.out hn3)
              have HRAN2 := hide (HRAN.out.new hn3)
              simp only [List.length_map, HML.out] at hran3 ⊢
              have HRAN3 := hide hran3
              clear hran3 hn3 HRAN HSH HP HP2 HFIT
              generalize (runG base limit ps).1 = ms at *
              generalize (runG base limit ps).2.2 = cs at *
              generalize w2.heap.size = HB1 at *
              have hneq : ((n : Int) != (n : Int)) = false := by simp
              have hneq2 : ((cs.length : Int) != (cs.length : Int)) = false := by simp
              have hcl : cs.length ≤ 9223372036854775807 := by
                rcases HRAN2.out.calls.2 with ⟨_, e⟩ | ⟨g, cap, cur, _, _, _, hnc, hcm, _⟩
                · omega
                · unfold maxLen at hcm; omega
              go_wp2
              go_loopw [134] (fun i wr => ∃ j : Nat, j ≤ n ∧ i = .int .i64 j ∧ Hid (Ran HB0 wr ms cs (.slice MA n mc) (.slice CA cs.length cc) css2) ∧ Hid (Ran HB1 wr ms (cs.map (fun c => ⟨c.off + (other - base), c.data⟩)) (.slice MA3 n mc3) (.slice CA3 cs.length cc3) css3) ∧ Hid (New w wr)) (fun i _ => n - (intOf i).toNat)
              case atStart => exact ⟨0, Nat.zero_le _, rfl, HRAN2.out, HRAN3.out, HN3.out⟩
              case round =>
                clear HRAN2 HRAN3 HN3 HN2 HN1
                obtain ⟨j, hj, rfl, HRAN2, HRAN3, HN3⟩ := hrel
                by_cases hlt3 : j < n
                · have hjm : j < ms.length := by rw [HML.out]; exact hlt3
                  obtain ⟨g, mc', e1, hc1, hc2, hg, hm⟩ := HRAN2.out.mrow (by omega)
                  rw [HML.out] at e1 hc1
                  cases e1
                  obtain ⟨x0, x1⟩ := hm j ms[j] (List.getElem?_eq_getElem hjm)
                  obtain ⟨g3, mc3', e1, hc31, hc32, hg3, hm3⟩ := HRAN3.out.mrow (by omega)
                  rw [HML.out] at e1 hc31
                  cases e1
                  obtain ⟨y0, y1⟩ := hm3 j ms[j] (List.getElem?_eq_getElem hjm)
                  have hi : (j : Int) < (n : Int) := by omega
                  have hi0 : (0 : Int) ≤ (j : Int) := by omega
                  have hne : ∀ (w : World) (a b : Int), (binOp .neq 38 (.agg #[.int .i64 a, .int .i64 b]) (.agg #[.int .i64 a, .int .i64 b])).run Tryd.prog w = .ok (.bool false) w := fun w a b => by rw [neMoved]; simp
                  have hgd := guardMoved
                  clear hm hm3
                  generalize ms[j].n = a at *
                  generalize ((ms[j].code : Nat) : Int) = b at *
                  go_wp2_with fail
                  go_quiet (fail)
                  rename Nat => q9
                  go_wp2
                  go_roundw
                  case rel => exact ⟨j + 1, by omega, by go_num, HRAN2.out.new (new_drN (new_refl _) _), HRAN3.out.new (new_drN (new_refl _) _), new_drN HN3.out _⟩
                  case measure => simp [intOf]; omega
                · go_wp2_with fail
                  go_loopw [149] (fun i wr => ∃ j : Nat, j ≤ cs.length ∧ i = .int .i64 j ∧ Hid (Ran HB0 wr ms cs (.slice MA n mc) (.slice CA cs.length cc) css2) ∧ Hid (Ran HB1 wr ms (cs.map (fun c => ⟨c.off + (other - base), c.data⟩)) (.slice MA3 n mc3) (.slice CA3 cs.length cc3) css3) ∧ Hid (New w wr)) (fun i _ => cs.length - (intOf i).toNat)
                  case atStart => exact ⟨0, Nat.zero_le _, rfl, HRAN2.out, HRAN3.out, HN3.out⟩
                  case round =>
                    clear HRAN2 HRAN3 HN3
                    obtain ⟨j2, hj2, rfl, HRAN2, HRAN3, HN3⟩ := hrel
                    by_cases hlt4 : j2 < cs.length
                    · have hcg : cs[j2]? = some cs[j2] := List.getElem?_eq_getElem hlt4
                      obtain ⟨g, cc', e1, hc1, hc2, hg, hm⟩ := HRAN2.out.crow (by omega)
                      cases e1
                      obtain ⟨CB, d, z0, z1, hsA⟩ := hm j2 _ hcg
                      obtain ⟨g3, cc3', e1, hc31, hc32, hg3, hm3⟩ := HRAN3.out.crow (by rw [List.length_map]; omega)
                      rw [List.length_map] at e1 hc31
                      cases e1
                      obtain ⟨CB3, d3, y0, y1, hsB⟩ := hm3 j2 ⟨cs[j2].off + (other - base), cs[j2].data⟩ (by rw [List.getElem?_map, hcg]; rfl)
                      simp only at y0 y1 hsB
                      obtain ⟨hb2, hb3, hb4⟩ := HBD.out cs[j2] (List.getElem_mem hlt4)
                      have HSA := hide hsA; have HSB := hide hsB
                      clear hm hm3 hcg hsA hsB
                      have hi : (j2 : Int) < (cs.length : Int) := by omega
                      have hi0 : (0 : Int) ≤ (j2 : Int) := by omega
                      generalize cs[j2].off = off at *
                      generalize cs[j2].data = bs at *
                      generalize hoo : off + (other - base) = off2 at *
                      have s3 : IntKind.i64.wrap (off - base) = off - base := IntWalk.i64_in _ (by omega)
                      have s4 : IntKind.i64.wrap (off2 - other) = off2 - other := IntWalk.i64_in _ (by omega)
                      have n1 : ((off - base) != (off2 - other)) = false := by simp; omega
                      have hnotT : ∀ (x : Bool) (w : World), (Op.unary .not (.bool x)).run Tryd.prog w = .ok (.bool (!x)) w := fun _ _ => rfl
                      clear hoo
                      go_wp2_with fail
                      go_quiet (first | (go_at_call 15; refine Calls.quiet_of (sameBytes_eq rfl (by exact HSA.out.drawn _) (by exact HSB.out.drawn _) (by omega))))
                      rename Nat => q9
                      go_wp2
                      go_roundw
                      case rel => exact ⟨j2 + 1, by omega, by go_num, HRAN2.out.new (new_drN (new_refl _) _), HRAN3.out.new (new_drN (new_refl _) _), new_drN HN3.out _⟩
                      case measure => simp [intOf]; omega
                    · go_wp2
                      go_ret
                      exact ⟨rfl, HN3.out⟩
            · go_wp2
              go_ret
              exact ⟨rfl, new_refl _⟩
          · go_wp2
            go_ret
            exact ⟨rfl, new_refl _⟩

set_option maxHeartbeats 2000000 in
theorem fnOffsetBases_walk {w : World} {base limit other : Int} {ks : List Int} {ts : List (List Int)} {os : List Int} {KA TA OA : Option Addr} {kc tc oc : Nat} {E : Nat → Addr} (hkb : Sl w 1 KA ks.length (ks.map (Value.int .i64))) (ht : Tx w TA ts) (ho : Sl w 1 OA os.length (os.map (Value.int .i64))) (hE : Env w.heap.size E w) :
    Calls Tryd.prog 5 #[.int .i64 base, .int .i64 limit, .slice KA ks.length kc, .slice TA ts.length tc, .slice OA os.length oc, .int .i64 other] w fun e w' => e = .returned (.bool true) ∧ New w w' := by
  by_cases c0 : ks.length ≤ 1024
  · by_cases c1 : ts.length ≤ 1024
    · by_cases c2 : os.length ≤ 1024
      · by_cases c3 : 0 ≤ base
        · by_cases c4 : base ≤ 1099511627776
          · by_cases c5 : -1125899906842624 ≤ limit
            · by_cases c6 : limit ≤ 1125899906842624
              · exact fnOffsetBases_in hkb ht ho hE c0 c1 c2 c3 c4 c5 c6
              · clear hkb ht ho hE
                go_enter Tryd.func5, Tryd.ntmps5
                go_wp2
                go_ret
                exact ⟨rfl, new_refl _⟩
            · clear hkb ht ho hE
              have c7 : limit < -1125899906842624 := by omega
              go_enter Tryd.func5, Tryd.ntmps5
              go_wp2
              go_ret
              exact ⟨rfl, new_refl _⟩
          · clear hkb ht ho hE
            go_enter Tryd.func5, Tryd.ntmps5
            go_wp2
            go_ret
            exact ⟨rfl, new_refl _⟩
        · clear hkb ht ho hE
          go_enter Tryd.func5, Tryd.ntmps5
          go_wp2
          go_ret
          exact ⟨rfl, new_refl _⟩
      · clear hkb ht ho hE
        go_enter Tryd.func5, Tryd.ntmps5
        go_wp2
        go_ret
        exact ⟨rfl, new_refl _⟩
    · clear hkb ht ho hE
      go_enter Tryd.func5, Tryd.ntmps5
      go_wp2
      go_ret
      exact ⟨rfl, new_refl _⟩
  · clear hkb ht ho hE
    go_enter Tryd.func5, Tryd.ntmps5
    go_wp2
    go_ret
    exact ⟨rfl, new_refl _⟩

end Go.Proofs.YtnmdjhkeekhfbaaDoor
