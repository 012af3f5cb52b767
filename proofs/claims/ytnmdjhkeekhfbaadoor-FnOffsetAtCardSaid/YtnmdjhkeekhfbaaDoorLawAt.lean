/-
  laws.FnOffsetAt returns true, whatever the arguments.
-/
import Derived.Test.YtnmdjhkeekhfbaaDoorAtG
namespace Go.Proofs.YtnmdjhkeekhfbaaDoor
open Go.RowKit
set_option linter.unusedVariables false
set_option maxRecDepth 100000
attribute [local go_sem 10000] run_imin run_imax

set_option maxHeartbeats 4000000 in
theorem fnOffsetAt_in {w : World} {base limit : Int} {ts : List (List Int)} {os : List Int} {TA OA : Option Addr} {tc oc : Nat} {E : Nat → Addr} (ht : Tx w TA ts) (ho : Sl w 1 OA os.length (os.map (Value.int .i64))) (hE : Env w.heap.size E w) (hl : ts.length ≤ 1024) (hb0 : 0 ≤ base) (hb1 : base ≤ 1099511627776) (hm0 : 0 ≤ limit) (hm1 : limit ≤ 1125899906842624) :
    Calls Tryd.prog 4 #[.int .i64 base, .int .i64 limit, .slice TA ts.length tc, .slice OA os.length oc] w fun e w' => e = .returned (.bool true) ∧ New w w' := by
  have HT := hide ht; have HOF := hide ho; have HE := hide hE
  clear ht ho hE
  go_enter Tryd.func4, Tryd.ntmps4
  go_wp2
  go_loopw [9, 10] (fun v i wr => ∃ k : Nat, k ≤ ts.length ∧ k ≤ os.length ∧ i = .int .i64 k ∧ Hid (Placed w.heap.size w wr (atP ((ts.zip os).take k)) v) ∧ Hid (New w wr) ∧ Hid (∀ x ∈ (ts.zip os).take k, x.1.length ≤ 65536 ∧ 0 ≤ x.2 ∧ x.2 ≤ 1099511627776)) (fun _ i _ => ts.length - (intOf i).toNat)
  case atStart => exact ⟨0, Nat.zero_le _, Nat.zero_le _, rfl, Placed.nil (At.made _ _ _) (Nat.le_refl _), new_alloc _ _, by intro t h; simp at h⟩
  case round =>
    obtain ⟨k, hk, hko, rfl, HO, HN, HL⟩ := hrel
    obtain ⟨VA, vc, css, rfl, hown, hpa, h4⟩ := HO.out.slice
    have hlen : (atP ((ts.zip os).take k)).length = k := by simp [atP]; omega
    rw [hlen] at hown ⊢
    have HOW := hide hown; have HPA := hide hpa; have H4 := hide h4; have HLEN := hide hlen
    clear hown hpa h4 hlen
    by_cases hlt : k < ts.length ∧ k < os.length
    · obtain ⟨hlt1, hlt2⟩ := hlt
      have hkg : ts[k]? = some ts[k] := List.getElem?_eq_getElem hlt1
      obtain ⟨ad, A, c, rfl, hcell, hn, hsl⟩ := HT.out.at_ HN.out hkg
      obtain ⟨ad2, rfl, hadb, hoc⟩ := HOF.out.2 (by omega)
      have hcell2 : wr.cell? (ad2.add k) = some (.int .i64 os[k]) := (HN.out.cell (p := ad2.add k) (by rw [block_add]; exact hadb)).trans (hoc k _ (by simp [hlt2]))
      have hi : (k : Int) < (ts.length : Int) := by omega
      have hi2 : (k : Int) < (os.length : Int) := by omega
      have hi0 : (0 : Int) ≤ (k : Int) := by omega
      have hzk : k < (ts.zip os).length := by simp; omega
      have htk : atP ((ts.zip os).take (k + 1)) = atP ((ts.zip os).take k) ++ [⟨1, ts[k], os[k], 0⟩] := by rw [List.take_succ_eq_append_getElem hzk]; simp [atP]
      have hlall : ts[k].length ≤ 65536 → 0 ≤ os[k] → os[k] ≤ 1099511627776 → ∀ x ∈ (ts.zip os).take (k + 1), x.1.length ≤ 65536 ∧ 0 ≤ x.2 ∧ x.2 ≤ 1099511627776 := fun h1 h2 h3 x hx => by
        rw [List.take_succ_eq_append_getElem hzk] at hx
        rcases List.mem_append.1 hx with hx | hx
        · exact HL.out x hx
        · rw [List.mem_singleton.1 hx]; simp only [List.getElem_zip]; exact ⟨h1, h2, h3⟩
      have HTK := hide htk; have HSL := hide hsl; have HNN := hide hn; have HLA := hide hlall
      clear hkg htk hsl hn hlall hoc hzk
      generalize ts[k] = t at *
      generalize os[k] = o at *
      by_cases hbig : t.length ≤ 65536
      · by_cases ho0 : 0 ≤ o
        · by_cases ho1 : o ≤ 1099511627776
          · have hBw := HN.out.size
            go_wp2_with fail
            go_region_law
              ((refine step_append_sl (by rfl) (.tmp 68) (.tmp 78) 25 (by rfl) w.heap.size 28 _ 4 48 Tryd.underlying25 infoPlace rfl (by decide) (.slice VA k vc) _ _ (by rfl) (by exact own_new HOW.out (by repeat (with_reducible first | exact new_refl _ | apply new_al | apply new_dr | apply new_drN))) (some ⟨wr.heap.size, 0, none⟩) 1 1 [.int .i64 1, .slice A t.length c, .int .i64 o, .int .i64 0] (by rfl) (fun e => by cases e) (by first | exact Sl.one _ _ _ _ rfl | exact (Sl.one _ _ _ _ rfl).drawn 1) (by intro u hu; simp at hu; rcases hu with rfl | rfl | rfl | rfl <;> rfl) (by unfold maxLen; omega) (by omega) (by simp; omega) ?_; intro v4 w4 hown4 ht4 hn4))
            all_goals
              have HO4 : Hid (Placed w.heap.size w w4 (atP ((ts.zip os).take (k + 1))) v4) := by
                rw [HTK.out]
                exact Placed.more HPA.out H4.out (PlaceAt.write 1 o 0 HSL.out HNN.out) (by rw [HLEN.out]; exact hown4)
              have HN4 : Hid (New w w4) := hide (new_turns (new_trans HN.out (by repeat (with_reducible first | exact new_refl _ | apply new_al | apply new_dr | apply new_drN))) ht4 (fun g hg => (HOW.out.lt g hg).1))
              clear hown4 ht4 hn4
              go_wp2
              go_roundw
              case rel => exact ⟨k + 1, by omega, by omega, by go_num, HO4.out, HN4.out, HLA.out hbig ho0 ho1⟩
              case measure => simp [intOf]; omega
          · have hbig2 : (1099511627776 : Int) < o := by omega
            go_wp2
            go_ret
            exact ⟨rfl, HN.out⟩
        · have hbig2 : o < 0 := by omega
          go_wp2
          go_ret
          exact ⟨rfl, HN.out⟩
      · have hbig2 : (65536 : Int) < (t.length : Int) := by omega
        go_wp2
        go_ret
        exact ⟨rfl, HN.out⟩
    · have htake : (ts.zip os).take k = ts.zip os := List.take_of_length_le (by simp; omega)
      have hzl : (ts.zip os).length = k := by simp; omega
      rw [htake] at HO HL HPA HLEN
      have hrun := at_run base limit (ts.zip os) (fun x hx => (HL.out x hx).2.1)
      have HR := hide hrun; have HZL := hide hzl
      have HPL : Hid (Placed w.heap.size w wr (atP (ts.zip os)) (.slice VA k vc)) := by
        have h := HO.out
        rw [HLEN.out] at h
        exact h
      have hmin : imin (ts.length : Int) (os.length : Int) = (k : Int) := by unfold imin; split <;> omega
      have hk1 : k ≤ 1024 := by omega
      have hex : ¬ k < ts.length ∨ (k < ts.length ∧ ¬ k < os.length) := by omega
      clear HO hrun HOW HPA H4 htake hzl hlt
      rcases hex with hx | ⟨hx, hx2⟩
      all_goals
        go_wp2_with fail
        refine (offCall (ps := atP (ts.zip os)) HPL.out HN.out HE.out (by rw [HLEN.out]; omega) ?hf (by omega) (by omega) hb0 (by omega)).mono ?_
        case hf =>
          intro p hp
          obtain ⟨x, hx, rfl⟩ := List.mem_map.1 hp
          have := HL.out x hx
          exact ⟨this.1, .inr (.inr (by simp only; omega))⟩
        rintro e w2 ⟨MA, mc, CA, cc, css2, rfl, hran, hn⟩
        rw [HR.out] at hran ⊢
        have HN2 := hide (new_trans HN.out hn)
        simp only [List.length_map, HZL.out] at hran ⊢
        have HRAN := hide hran
        clear hran hn HPL
        generalize wr.heap.size = HB0 at *
        have hneq : ((k : Int) != (k : Int)) = false := by simp
        have heq : ((k : Int) == (k : Int)) = true := by simp
        go_wp2
        go_loopw [101] (fun i wr => ∃ j : Nat, j ≤ k ∧ i = .int .i64 j ∧ Hid (Ran HB0 wr ((ts.zip os).map (fun x => underG limit (x.2 + base) x.1.length)) ((ts.zip os).map (fun x => ⟨x.2 + base, x.1⟩)) (.slice MA k mc) (.slice CA k cc) css2) ∧ Hid (New w wr)) (fun i _ => k - (intOf i).toNat)
        case atStart => exact ⟨0, Nat.zero_le _, rfl, HRAN.out, HN2.out⟩
        case round =>
          clear HRAN HN2
          obtain ⟨j, hj, rfl, HRAN, HN2⟩ := hrel
          by_cases hlt3 : j < k
          · have hj1 : j < ts.length := by omega
            have hj2 : j < os.length := by omega
            have hkg : ts[j]? = some ts[j] := List.getElem?_eq_getElem hj1
            have hzz : (ts.zip os)[j]? = some (ts[j], os[j]) := by rw [List.getElem?_eq_getElem (by rw [HZL.out]; exact hlt3)]; simp
            have hxl := HL.out (ts[j], os[j]) (List.mem_of_getElem? hzz)
            simp only at hxl
            obtain ⟨ad, A, c, rfl, hcell, hn, hsl⟩ := HT.out.at_ HN2.out hkg
            obtain ⟨ad2, rfl, hadb, hoc⟩ := HOF.out.2 (by omega)
            have hcell2 : wr.cell? (ad2.add j) = some (.int .i64 os[j]) := (HN2.out.cell (p := ad2.add j) (by rw [block_add]; exact hadb)).trans (hoc j _ (by simp [hj2]))
            obtain ⟨g, mc', e1, hc1, hc2, hg, hm⟩ := HRAN.out.mrow (by simp only [List.length_map, HZL.out]; omega)
            simp only [List.length_map, HZL.out] at e1 hc1
            cases e1
            obtain ⟨x0, x1⟩ := hm j _ (by rw [List.getElem?_map, hzz]; rfl)
            obtain ⟨g2, cc', e1, hc21, hc22, hg2, hm2⟩ := HRAN.out.crow (by simp only [List.length_map, HZL.out]; omega)
            simp only [List.length_map, HZL.out] at e1 hc21
            cases e1
            obtain ⟨CB, d, z0, z1, hsA⟩ := hm2 j ⟨os[j] + base, ts[j]⟩ (by rw [List.getElem?_map, hzz]; rfl)
            simp only at x0 x1 z0 z1 hsA
            have hi : (j : Int) < (k : Int) := by omega
            have hi1 : (j : Int) < (ts.length : Int) := by omega
            have hi2 : (j : Int) < (os.length : Int) := by omega
            have hi0 : (0 : Int) ≤ (j : Int) := by omega
            have HSA := hide hsA; have HSL := hide (hsl.new HN2.out)
            clear hm hm2 hkg hn hsl hsA hzz hoc
            generalize ts[j] = t at *
            generalize os[j] = o at *
            obtain ⟨hxl1, hxl2, hxl3⟩ := hxl
            have s1 : IntKind.i64.wrap (base + o) = base + o := IntWalk.i64_in _ (by omega)
            have s2 : IntKind.i64.wrap (base + o + (t.length : Int)) = base + o + (t.length : Int) := IntWalk.i64_in _ (by omega)
            have s3 : IntKind.i64.wrap (limit - base) = limit - base := IntWalk.i64_in _ (by omega)
            have s4 : IntKind.i64.wrap (limit - base - o) = limit - base - o := IntWalk.i64_in _ (by omega)
            have n1 : ((o + base) != (base + o)) = false := by simp; omega
            have hnotT : ∀ (x : Bool) (w : World), (Op.unary .not (.bool x)).run Tryd.prog w = .ok (.bool (!x)) w := fun _ _ => rfl
            by_cases hov : limit < base + o + (t.length : Int)
            · have hu : underG limit (o + base) t.length = ⟨imax (limit - base - o) 0, 3⟩ := by unfold underG; rw [if_pos (by omega), show limit - (o + base) = limit - base - o by omega]
              rw [hu] at x0 x1
              simp only at x0 x1
              clear hu
              have n2 : (imax (limit - base - o) 0 != imax (limit - base - o) 0) = false := by simp
              go_wp2_with fail
              go_quiet (first | (go_at_call 15; refine Calls.quiet_of (sameBytes_eq rfl (by exact HSA.out.drawn _) (by exact HSL.out.drawn _) (by omega))))
              rename Nat => q9
              go_wp2
              go_roundw
              case rel => exact ⟨j + 1, by omega, by go_num, HRAN.out.new (new_drN (new_refl _) _), new_drN HN2.out _⟩
              case measure => simp [intOf]; omega
            · have hu : underG limit (o + base) t.length = ⟨t.length, 0⟩ := by unfold underG; rw [if_neg (by omega)]
              rw [hu] at x0 x1
              simp only at x0 x1
              clear hu
              have n2 : ((t.length : Int) != (t.length : Int)) = false := by simp
              go_wp2_with fail
              go_quiet (first | (go_at_call 15; refine Calls.quiet_of (sameBytes_eq rfl (by exact HSA.out.drawn _) (by exact HSL.out.drawn _) (by omega))))
              rename Nat => q9
              go_wp2
              go_roundw
              case rel => exact ⟨j + 1, by omega, by go_num, HRAN.out.new (new_drN (new_refl _) _), new_drN HN2.out _⟩
              case measure => simp [intOf]; omega
          · go_wp2
            go_ret
            exact ⟨rfl, HN2.out⟩

theorem fnOffsetAt_walk {w : World} {base limit : Int} {ts : List (List Int)} {os : List Int} {TA OA : Option Addr} {tc oc : Nat} {E : Nat → Addr} (ht : Tx w TA ts) (ho : Sl w 1 OA os.length (os.map (Value.int .i64))) (hE : Env w.heap.size E w) :
    Calls Tryd.prog 4 #[.int .i64 base, .int .i64 limit, .slice TA ts.length tc, .slice OA os.length oc] w fun e w' => e = .returned (.bool true) ∧ New w w' := by
  by_cases hc : ts.length ≤ 1024 ∧ 0 ≤ base ∧ base ≤ 1099511627776 ∧ 0 ≤ limit ∧ limit ≤ 1125899906842624
  · obtain ⟨c0, c1, c2, c3, c4⟩ := hc
    exact fnOffsetAt_in ht ho hE c0 c1 c2 c3 c4
  · clear ht ho hE
    have hc2 : ¬ ts.length ≤ 1024 ∨ (ts.length ≤ 1024 ∧ base < 0) ∨ (ts.length ≤ 1024 ∧ 0 ≤ base ∧ 1099511627776 < base) ∨ (ts.length ≤ 1024 ∧ 0 ≤ base ∧ base ≤ 1099511627776 ∧ limit < 0) ∨ (ts.length ≤ 1024 ∧ 0 ≤ base ∧ base ≤ 1099511627776 ∧ 0 ≤ limit ∧ 1125899906842624 < limit) := by omega
    clear hc
    rcases hc2 with h1 | ⟨h1, h2⟩ | ⟨h1, h2, h3⟩ | ⟨h1, h2, h3, h4⟩ | ⟨h1, h2, h3, h4, h5⟩
    all_goals
      go_enter Tryd.func4, Tryd.ntmps4
      go_wp2
      go_ret
      exact ⟨rfl, new_refl _⟩

end Go.Proofs.YtnmdjhkeekhfbaaDoor
