/-
  laws.FnOffsetScript returns true, whatever the arguments.
-/
import Derived.Test.YtnmdjhkeekhfbaaDoorOffSpec
namespace Go.Proofs.YtnmdjhkeekhfbaaDoor
open Go.RowKit
set_option linter.unusedVariables false
set_option maxRecDepth 100000

/-- The reference's row of results, opened. -/
theorem SRan.mrow {B : Nat} {w : World} {ms : List MovedG} {cs : List CallG} {mv cv : Value} {css : List (List Value)} (h : SRan B w ms cs mv cv css) (h0 : 0 < ms.length) :
    ∃ g c, mv = .slice (some ⟨g, 0, none⟩) ms.length c ∧ ms.length ≤ c ∧ c ≤ 9223372036854775807 ∧ g < w.heap.size ∧ ∀ k r, ms[k]? = some r → w.cell? ⟨g, k * 2, none⟩ = some (.int .i64 r.n) ∧ w.cell? ⟨g, k * 2 + 1, none⟩ = some (.int .i64 (r.code : Nat)) := by
  have hm := h.moved
  rcases h.moved.2 with ⟨_, e⟩ | ⟨g, cap, cur, rfl, _, hg, hnc, hcm, _⟩
  · omega
  · unfold maxLen at hcm
    refine ⟨g, cap, rfl, hnc, by omega, (Array.getElem?_eq_some_iff.1 hg).1, fun k r hk => ?_⟩
    obtain ⟨x, y⟩ := movedCells_get ms k r hk
    exact ⟨add0 g (k * 2) ▸ hm.cells (g := g) rfl _ _ x, add0 g (k * 2 + 1) ▸ hm.cells (g := g) rfl _ _ y⟩

/-- The reference's row of calls, opened. -/
theorem SRan.crow {B : Nat} {w : World} {ms : List MovedG} {cs : List CallG} {mv cv : Value} {css : List (List Value)} (h : SRan B w ms cs mv cv css) (h0 : 0 < cs.length) :
    ∃ g c, cv = .slice (some ⟨g, 0, none⟩) cs.length c ∧ cs.length ≤ c ∧ c ≤ 9223372036854775807 ∧ g < w.heap.size ∧ ∀ k r, cs[k]? = some r → ∃ A d, w.cell? ⟨g, k * 2, none⟩ = some (.int .i64 r.off) ∧ w.cell? ⟨g, k * 2 + 1, none⟩ = some (.slice A r.data.length d) ∧ Sl w 1 A r.data.length (r.data.map (Value.int .u8)) := by
  have hm := h.calls
  rcases h.calls.2 with ⟨_, e⟩ | ⟨g, cap, cur, rfl, _, hg, hnc, hcm, _⟩
  · omega
  · unfold maxLen at hcm
    refine ⟨g, cap, rfl, hnc, by omega, (Array.getElem?_eq_some_iff.1 hg).1, fun k r hk => ?_⟩
    have hkl : k < cs.length := (List.getElem?_eq_some_iff.1 hk).1
    have hkc : k < css.length := by rw [h.each.1]; exact hkl
    obtain ⟨A, d, e, h1, h2, h3⟩ := h.each.2 k r _ hk (List.getElem?_eq_getElem hkc)
    have hcell : ∀ i u, i < 2 → css[k][i]? = some u → w.cell? ⟨g, k * 2 + i, none⟩ = some u := fun i u hi hu => by
      have := hm.cells (g := g) rfl (k * 2 + i) u (by rw [flatten2_get css h.two k i hi, List.getElem?_eq_getElem hkc]; exact hu)
      rwa [add0] at this
    rw [e] at hcell
    exact ⟨A, d, hcell 0 _ (by omega) rfl, hcell 1 _ (by omega) rfl, h1⟩

set_option maxHeartbeats 1000000 in
theorem sameMoved_eq {w : World} {B B' : Nat} {ms : List MovedG} {cs cs' : List CallG} {MA MA' : Option Addr} {mc mc' : Nat} {cv cv' : Value} {css css' : List (List Value)} (h : Ran B w ms cs (.slice MA ms.length mc) cv css) (h' : SRan B' w ms cs' (.slice MA' ms.length mc') cv' css') (hl : ms.length ≤ 100000) :
    Calls Tryd.prog 18 #[.slice MA ms.length mc, .slice MA' ms.length mc'] w fun e w' => e = .returned (.bool true) ∧ ∃ m, w' = w.drewN m := by
  have H := hide h; have H' := hide h'
  clear h h'
  have hneq : ((ms.length : Int) != (ms.length : Int)) = false := by simp
  go_enter Tryd.func18, Tryd.ntmps18
  go_wp2
  go_loopw [13] (fun i wr => ∃ k : Nat, k ≤ ms.length ∧ i = .int .i64 k ∧ ∃ m, wr = w.drewN m) (fun i _ => ms.length - (intOf i).toNat)
  case atStart => exact ⟨0, Nat.zero_le _, rfl, 0, rfl⟩
  case round =>
    obtain ⟨k, hk, rfl, m, rfl⟩ := hrel
    by_cases hlt : k < ms.length
    · obtain ⟨g, c, e1, hc1, hc2, hg, hm⟩ := H.out.mrow (by omega)
      cases e1
      obtain ⟨g2, c2, e1, hc21, hc22, hg2, hm2⟩ := H'.out.mrow (by omega)
      cases e1
      obtain ⟨x0, x1⟩ := hm k ms[k] (List.getElem?_eq_getElem hlt)
      obtain ⟨y0, y1⟩ := hm2 k ms[k] (List.getElem?_eq_getElem hlt)
      have hi : (k : Int) < (ms.length : Int) := by omega
      have hi0 : (0 : Int) ≤ (k : Int) := by omega
      clear hm hm2
      generalize ms[k].n = a at *
      generalize ((ms[k].code : Nat) : Int) = b at *
      have n1 : (a != a) = false := by simp
      have n2 : (b != b) = false := by simp
      go_wp2_with fail
      go_quiet (fail)
      rename Nat => q1
      go_wp2
      go_roundw
      case rel => exact ⟨k + 1, by omega, by go_num, m + q1, by simp⟩
      case measure => simp [intOf]; omega
    · go_wp2
      go_ret
      exact ⟨rfl, m, rfl⟩

set_option maxHeartbeats 1000000 in
theorem sameCalls_eq {w : World} {B B' : Nat} {ms ms' : List MovedG} {cs : List CallG} {CA CA' : Option Addr} {cc cc' : Nat} {mv mv' : Value} {css css' : List (List Value)} (h : Ran B w ms cs mv (.slice CA cs.length cc) css) (h' : SRan B' w ms' cs mv' (.slice CA' cs.length cc') css') (hl : cs.length ≤ 100000) (hd : ∀ c ∈ cs, c.data.length ≤ 65536) :
    Calls Tryd.prog 19 #[.slice CA cs.length cc, .slice CA' cs.length cc'] w fun e w' => e = .returned (.bool true) ∧ ∃ m, w' = w.drewN m := by
  have H := hide h; have H' := hide h'; have HD := hide hd
  clear h h' hd
  have hneq : ((cs.length : Int) != (cs.length : Int)) = false := by simp
  go_enter Tryd.func19, Tryd.ntmps19
  go_wp2
  go_loopw [13] (fun i wr => ∃ k : Nat, k ≤ cs.length ∧ i = .int .i64 k ∧ Hid (∃ m, wr = w.drewN m)) (fun i _ => cs.length - (intOf i).toNat)
  case atStart => exact ⟨0, Nat.zero_le _, rfl, ⟨0, rfl⟩⟩
  case round =>
    obtain ⟨k, hk, rfl, HW⟩ := hrel
    have HA : Hid (Ran B wr ms cs mv (.slice CA cs.length cc) css) := by obtain ⟨m, rfl⟩ := HW.out; exact H.out.new (new_drN (new_refl _) m)
    have HB : Hid (SRan B' wr ms' cs mv' (.slice CA' cs.length cc') css') := by obtain ⟨m, rfl⟩ := HW.out; exact H'.out.new (new_drN (new_refl _) m)
    by_cases hlt : k < cs.length
    · obtain ⟨g, c, e1, hc1, hc2, hg, hm⟩ := HA.out.crow (by omega)
      cases e1
      obtain ⟨g2, c2, e1, hc21, hc22, hg2, hm2⟩ := HB.out.crow (by omega)
      cases e1
      obtain ⟨A, d, x0, x1, hsA⟩ := hm k cs[k] (List.getElem?_eq_getElem hlt)
      obtain ⟨A2, d2, y0, y1, hsB⟩ := hm2 k cs[k] (List.getElem?_eq_getElem hlt)
      have hbl := HD.out cs[k] (List.getElem_mem hlt)
      have hi : (k : Int) < (cs.length : Int) := by omega
      have hi0 : (0 : Int) ≤ (k : Int) := by omega
      have HSA := hide hsA; have HSB := hide hsB
      clear hm hm2 hsA hsB
      generalize cs[k].off = off at *
      generalize cs[k].data = bs at *
      have n1 : (off != off) = false := by simp
      have hnotT : ∀ (x : Bool) (w : World), (Op.unary .not (.bool x)).run Tryd.prog w = .ok (.bool (!x)) w := fun _ _ => rfl
      go_wp2_with fail
      go_quiet (first | (go_at_call 15; refine Calls.quiet_of (sameBytes_eq rfl (by exact HSA.out.drawn _) (by exact HSB.out.drawn _) (by omega))))
      rename Nat => q1
      go_wp2
      go_roundw
      case rel => exact ⟨k + 1, by omega, by go_num, by obtain ⟨m, rfl⟩ := HW.out; exact ⟨m + q1, by simp⟩⟩
      case measure => simp [intOf]; omega
    · go_wp2
      go_ret
      exact ⟨rfl, HW.out⟩

theorem scriptP_off (x : Int × List Int × Int) : (scriptP x).off = x.2.2 := by unfold scriptP; split <;> rfl

set_option maxHeartbeats 4000000 in
theorem fnOffsetScript_in {w : World} {base limit : Int} {ks : List Int} {ts : List (List Int)} {os : List Int} {KA TA OA : Option Addr} {kc tc oc : Nat} {E : Nat → Addr} (hkb : Sl w 1 KA ks.length (ks.map (Value.int .i64))) (ht : Tx w TA ts) (ho : Sl w 1 OA os.length (os.map (Value.int .i64))) (hE : Env w.heap.size E w) (hl0 : ks.length ≤ 1024) (hl : ts.length ≤ 1024) (hl2 : os.length ≤ 1024) (hb0 : 0 ≤ base) (hb1 : base ≤ 1099511627776) (hm0 : -1125899906842624 ≤ limit) (hm1 : limit ≤ 1125899906842624) :
    Calls Tryd.prog 10 #[.int .i64 base, .int .i64 limit, .slice KA ks.length kc, .slice TA ts.length tc, .slice OA os.length oc] w fun e w' => e = .returned (.bool true) ∧ New w w' := by
  have HT := hide ht; have HOF := hide ho; have HE := hide hE; have HKB := hide hkb
  clear ht ho hE hkb
  go_enter Tryd.func10, Tryd.ntmps10
  go_wp2
  go_loop [50] (fun i => ∃ j : Nat, j ≤ ts.length ∧ i = .int .i64 j ∧ Hid (∀ t ∈ ts.take j, t.length ≤ 65536)) (fun i => ts.length - (intOf i).toNat)
  case atStart => exact ⟨0, Nat.zero_le _, rfl, by intro z hz; simp at hz⟩
  case round =>
    obtain ⟨j, hj, rfl, HB⟩ := hrel
    by_cases hlt : j < ts.length
    · have hkg : ts[j]? = some ts[j] := List.getElem?_eq_getElem hlt
      obtain ⟨ad, A, c, rfl, hcell, hn, hsl⟩ := HT.out.at_ (new_refl w) hkg
      have hlall : ts[j].length ≤ 65536 → ∀ t ∈ ts.take (j + 1), t.length ≤ 65536 := fun h t ht => by
        rw [List.take_succ_eq_append_getElem hlt] at ht
        rcases List.mem_append.1 ht with ht | ht
        · exact HB.out t ht
        · rw [List.mem_singleton.1 ht]; exact h
      have HLA := hide hlall
      have hi : (j : Int) < (ts.length : Int) := by omega
      have hi0 : (0 : Int) ≤ (j : Int) := by omega
      clear hkg hn hsl hlall
      generalize ts[j] = t at *
      by_cases hbig : t.length ≤ 65536
      · go_wp2
        go_round
        case rel => exact ⟨j + 1, by omega, by go_num, HLA.out hbig⟩
        case measure => simp [intOf]; omega
      · have hbig2 : (65536 : Int) < (t.length : Int) := by omega
        go_wp2
        go_ret
        exact ⟨rfl, new_refl _⟩
    · have HTB : Hid (∀ t ∈ ts, t.length ≤ 65536) := fun t ht => HB.out t (by rw [List.take_of_length_le (by omega)]; exact ht)
      clear HB
      go_wp2_with fail
      go_loop [62] (fun i => ∃ j : Nat, j ≤ os.length ∧ i = .int .i64 j ∧ Hid (∀ o ∈ os.take j, -1099511627776 ≤ o ∧ o ≤ 1099511627776)) (fun i => os.length - (intOf i).toNat)
      case atStart => exact ⟨0, Nat.zero_le _, rfl, by intro z hz; simp at hz⟩
      case round =>
        obtain ⟨i, hi, rfl, HB⟩ := hrel
        by_cases hlt2 : i < os.length
        · obtain ⟨ad2, rfl, hadb, hoc⟩ := HOF.out.2 (by omega)
          have hcell2 : w.cell? (ad2.add i) = some (.int .i64 os[i]) := hoc i _ (by simp [hlt2])
          have hlall : -1099511627776 ≤ os[i] → os[i] ≤ 1099511627776 → ∀ o ∈ os.take (i + 1), -1099511627776 ≤ o ∧ o ≤ 1099511627776 := fun h h2 o ho => by
            rw [List.take_succ_eq_append_getElem hlt2] at ho
            rcases List.mem_append.1 ho with ho | ho
            · exact HB.out o ho
            · rw [List.mem_singleton.1 ho]; exact ⟨h, h2⟩
          have HLA := hide hlall
          have hi1 : (i : Int) < (os.length : Int) := by omega
          have hi0 : (0 : Int) ≤ (i : Int) := by omega
          clear hoc hlall
          generalize os[i] = o at *
          by_cases ho0 : -1099511627776 ≤ o
          · by_cases ho1 : o ≤ 1099511627776
            · go_wp2
              go_round
              case rel => exact ⟨i + 1, by omega, by go_num, HLA.out ho0 ho1⟩
              case measure => simp [intOf]; omega
            · have hbig2 : (1099511627776 : Int) < o := by omega
              go_wp2
              go_ret
              exact ⟨rfl, new_refl _⟩
          · have hbig2 : o < -1099511627776 := by omega
            go_wp2
            go_ret
            exact ⟨rfl, new_refl _⟩
        · have HOB : Hid (∀ o ∈ os, -1099511627776 ≤ o ∧ o ≤ 1099511627776) := fun o ho => HB.out o (by rw [List.take_of_length_le (by omega)]; exact ho)
          clear HB
          go_wp2_with fail
          refine (script_any HKB.out HT.out HOF.out hl).mono ?_
          rintro e w1 ⟨PA, pc, SA, sc, rfl, hP, hS, hN1⟩
          have hzlen : (ks.zip (ts.zip os)).length ≤ 1024 := by rw [List.length_zip]; omega
          have hmem := zip_mem (ks := ks) HTB.out HOB.out
          generalize ks.zip (ts.zip os) = l at *
          have hfit : ∀ p ∈ l.map scriptP, Fits p := fun p hp => by
            obtain ⟨x, hx, rfl⟩ := List.mem_map.1 hp
            have := hmem x hx
            exact scriptP_fits x this.1 this.2.1 this.2.2
          have hfo : ∀ p ∈ l.map scriptP, -1099511627776 ≤ p.off ∧ p.off ≤ 1099511627776 := fun p hp => by
            obtain ⟨x, hx, rfl⟩ := List.mem_map.1 hp
            rw [scriptP_off]
            exact (hmem x hx).2
          have hpl : (l.map scriptP).length = l.length := by simp
          have hbd := runG_calls base limit (l.map scriptP) ⟨hb0, by omega⟩ hfit
          have hst := runG_stays base limit (l.map scriptP) ⟨hb0, by omega⟩ hfit (l.map scriptP).length (Nat.le_refl _)
          rw [List.take_length] at hst
          have hcl := hst.2.2.2
          have hml := runG_len base limit (l.map scriptP)
          rw [hpl] at hml hbd hcl
          rw [← hpl] at hS
          generalize l.map scriptP = ps at *
          generalize l.length = n at *
          have HP := hide hP; have HS := hide hS; have HN1 := hide hN1; have HFIT := hide hfit; have HFO := hide hfo; have HPLN := hide hpl; have HBD := hide hbd; have HML := hide hml
          clear hP hS hN1 hmem hfit hfo hbd hml hst
          subst hpl
          go_wp2_with fail
          refine (offCall (ps := ps) HP.out HN1.out HE.out (by omega) HFIT.out (by omega) (by omega) hb0 (by omega)).mono ?_
          rintro e w2 ⟨MA, mc, CA, cc, css2, rfl, hran, hn⟩
          have HN2 := hide (new_trans HN1.out hn)
          have HS2 := hide (HS.out.new hn)
          have HRAN := hide hran
          clear hran hn
          generalize w1.heap.size = HB0 at *
          go_wp2_with fail
          refine (specOffsets_any HS2.out HN2.out (by omega) HFIT.out HFO.out hm0 hm1 hb0 hb1).mono ?_
          rintro e w3 ⟨MA3, mc3, CA3, cc3, css3, rfl, hran3, hn3⟩
          have HN3 := hide (new_trans HN2.out hn3)
          have HRAN2 := hide (HRAN.out.new hn3)
          have HRAN3 := hide hran3
          clear hran3 hn3 HRAN HFIT HFO HS HS2 HP
          have hml2 : (runG base limit ps).1.length ≤ 1024 := by rw [HML.out]; exact hzlen
          generalize w2.heap.size = HB1 at *
          generalize (runG base limit ps).1 = ms at *
          generalize (runG base limit ps).2.2 = cs at *
          have hsm := sameMoved_eq HRAN2.out HRAN3.out (by omega)
          have HSM := hide hsm
          clear hsm
          go_wp2_with fail
          refine HSM.out.mono ?_
          rintro e w4 ⟨rfl, m, rfl⟩
          have HSC := hide (sameCalls_eq (w := w3.drewN m) (HRAN2.out.new (new_drN (new_refl _) m)) (HRAN3.out.new (new_drN (new_refl _) m)) (by omega) (fun c hc => (HBD.out c hc).2.2))
          go_wp2_with fail
          refine HSC.out.mono ?_
          rintro e w5 ⟨rfl, m2, rfl⟩
          go_wp2
          go_ret
          exact ⟨rfl, new_drN HN3.out _⟩

set_option maxHeartbeats 2000000 in
theorem fnOffsetScript_walk {w : World} {base limit : Int} {ks : List Int} {ts : List (List Int)} {os : List Int} {KA TA OA : Option Addr} {kc tc oc : Nat} {E : Nat → Addr} (hkb : Sl w 1 KA ks.length (ks.map (Value.int .i64))) (ht : Tx w TA ts) (ho : Sl w 1 OA os.length (os.map (Value.int .i64))) (hE : Env w.heap.size E w) :
    Calls Tryd.prog 10 #[.int .i64 base, .int .i64 limit, .slice KA ks.length kc, .slice TA ts.length tc, .slice OA os.length oc] w fun e w' => e = .returned (.bool true) ∧ New w w' := by
  by_cases c0 : ks.length ≤ 1024
  · by_cases c1 : ts.length ≤ 1024
    · by_cases c2 : os.length ≤ 1024
      · by_cases c3 : 0 ≤ base
        · by_cases c4 : base ≤ 1099511627776
          · by_cases c5 : -1125899906842624 ≤ limit
            · by_cases c6 : limit ≤ 1125899906842624
              · exact fnOffsetScript_in hkb ht ho hE c0 c1 c2 c3 c4 c5 c6
              · clear hkb ht ho hE
                go_enter Tryd.func10, Tryd.ntmps10
                go_wp2
                go_ret
                exact ⟨rfl, new_refl _⟩
            · clear hkb ht ho hE
              have c7 : limit < -1125899906842624 := by omega
              go_enter Tryd.func10, Tryd.ntmps10
              go_wp2
              go_ret
              exact ⟨rfl, new_refl _⟩
          · clear hkb ht ho hE
            go_enter Tryd.func10, Tryd.ntmps10
            go_wp2
            go_ret
            exact ⟨rfl, new_refl _⟩
        · clear hkb ht ho hE
          go_enter Tryd.func10, Tryd.ntmps10
          go_wp2
          go_ret
          exact ⟨rfl, new_refl _⟩
      · clear hkb ht ho hE
        go_enter Tryd.func10, Tryd.ntmps10
        go_wp2
        go_ret
        exact ⟨rfl, new_refl _⟩
    · clear hkb ht ho hE
      go_enter Tryd.func10, Tryd.ntmps10
      go_wp2
      go_ret
      exact ⟨rfl, new_refl _⟩
  · clear hkb ht ho hE
    go_enter Tryd.func10, Tryd.ntmps10
    go_wp2
    go_ret
    exact ⟨rfl, new_refl _⟩

end Go.Proofs.YtnmdjhkeekhfbaaDoor
