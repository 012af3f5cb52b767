/-
  What laws.script returns: the same places for the program and for the reference.
-/
import Derived.Test.YtnmdjhkeekhfbaaDoorAtG
namespace Go.Proofs.YtnmdjhkeekhfbaaDoor
open Go.RowKit
set_option linter.unusedVariables false
set_option maxRecDepth 100000

theorem infoSPlace : (Tryd.prog.info? 64).map (fun i => (i.zero, i.size, i.bytes)) = some (some (.agg #[.int .i64 0, .slice none 0 0, .int .i64 0, .int .i64 0]), 4, 48) := by kernel_rfl

/-- A row of places of the reference. -/
def SPlaced (B : Nat) (w wr : World) (ps : List PlaceG) (sv : Value) : Prop :=
  ∃ css, wr.ownsRow B 64 4 sv ps.length css.flatten ∧ PlacesAt w ps css ∧ ∀ c ∈ css, c.length = 4
theorem SPlaced.new {B : Nat} {w wr wr' : World} {ps : List PlaceG} {sv : Value} (h : SPlaced B w wr ps sv) (hn : New wr wr') : SPlaced B w wr' ps sv := by
  obtain ⟨css, h1, h2, h3⟩ := h
  exact ⟨css, own_new h1 hn, h2, h3⟩
theorem SPlaced.nil {w wr : World} {g : Nat} (hg : At wr g 64 #[]) (hb : w.heap.size ≤ g) : SPlaced w.heap.size w wr [] (.slice (some ⟨g, 0, none⟩) 0 0) := ⟨[], lit_own _ _ hg hb, PlacesAt.nil _, by simp⟩
theorem SPlaced.slice {B : Nat} {w wr : World} {ps : List PlaceG} {sv : Value} (h : SPlaced B w wr ps sv) : ∃ A c css, sv = .slice A ps.length c ∧ wr.ownsRow B 64 4 sv ps.length css.flatten ∧ PlacesAt w ps css ∧ ∀ c ∈ css, c.length = 4 := by
  obtain ⟨css, h1, h2, h3⟩ := h
  obtain ⟨A, c, e, -, -⟩ := Sl.of_own h1
  exact ⟨A, c, css, e, h1, h2, h3⟩
theorem SPlaced.more {B : Nat} {w wr : World} {ps : List PlaceG} {p : PlaceG} {sv : Value} {css : List (List Value)} {cells : List Value} (hp : PlacesAt w ps css) (h4 : ∀ c ∈ css, c.length = 4) (hc : PlaceAt w p cells) (hown : wr.ownsRow B 64 4 sv (ps.length + 1) (css.flatten ++ cells)) : SPlaced B w wr (ps ++ [p]) sv := by
  refine ⟨css ++ [cells], ?_, hp.snoc hc, fun c hm => ?_⟩
  · rw [List.length_append, List.flatten_append]
    simpa using hown
  · rcases List.mem_append.1 hm with hm | hm
    · exact h4 c hm
    · rw [List.mem_singleton.1 hm]
      obtain ⟨A, c', e, _⟩ := hc
      rw [e]; rfl

theorem own_apart {w : World} {B B' e e' s s' n n' : Nat} {v v' : Value} {xs xs' : List Value} (h : w.ownsRow B e s v n xs) (h' : w.ownsRow B' e' s' v' n' xs') (hne : e ≠ e') : ∀ g, v.ownBlock = some g → v'.ownBlock ≠ some g := by
  intro g hg
  rcases h.2 with ⟨rfl, _⟩ | ⟨g', cap, cur, rfl, _, hh, _⟩
  · simp [Value.ownBlock] at hg
  · have e2 : g' = g := by simpa [Value.ownBlock] using hg
    subst e2
    exact own_ne h' (t := e) (cs := cur) hh (Ne.symm hne)

set_option maxHeartbeats 4000000 in
theorem script_any {w : World} {ks : List Int} {ts : List (List Int)} {os : List Int} {KA TA OA : Option Addr} {kc tc oc : Nat} (hkb : Sl w 1 KA ks.length (ks.map (Value.int .i64))) (ht : Tx w TA ts) (ho : Sl w 1 OA os.length (os.map (Value.int .i64))) (hl : ts.length ≤ 1024) :
    Calls Tryd.prog 16 #[.slice KA ks.length kc, .slice TA ts.length tc, .slice OA os.length oc] w fun e w' => ∃ PA pc SA sc, e = .returned (.tuple #[.slice PA (ks.zip (ts.zip os)).length pc, .slice SA (ks.zip (ts.zip os)).length sc]) ∧
      Placed w.heap.size w w' ((ks.zip (ts.zip os)).map scriptP) (.slice PA (ks.zip (ts.zip os)).length pc) ∧ SPlaced w.heap.size w w' ((ks.zip (ts.zip os)).map scriptP) (.slice SA (ks.zip (ts.zip os)).length sc) ∧ New w w' := by
  have HT := hide ht; have HOF := hide ho; have HKB := hide hkb
  clear ht ho hkb
  have hzlen : (ks.zip (ts.zip os)).length = Nat.min ks.length (Nat.min ts.length os.length) := by simp [List.length_zip]
  have HZLEN := hide hzlen
  clear hzlen
  go_enter Tryd.func16, Tryd.ntmps16
  go_wp2
  go_loopw [8, 9, 10] (fun v u i wr => ∃ k : Nat, k ≤ ts.length ∧ k ≤ os.length ∧ k ≤ ks.length ∧ i = .int .i64 k ∧ Hid (Placed w.heap.size w wr (((ks.zip (ts.zip os)).take k).map scriptP) v) ∧ Hid (SPlaced w.heap.size w wr (((ks.zip (ts.zip os)).take k).map scriptP) u) ∧ Hid (New w wr)) (fun _ _ i _ => ts.length - (intOf i).toNat)
  case atStart => exact ⟨0, Nat.zero_le _, Nat.zero_le _, Nat.zero_le _, rfl, Placed.nil ((At.made _ _ _).laid _) (Nat.le_refl _), SPlaced.nil (At.made' (by simp) _ _) (by omega), new_al (new_alloc _ _) _⟩
  case round =>
    obtain ⟨k, hk, hko, hkk, rfl, HO, HS, HN⟩ := hrel
    obtain ⟨VA, vc, css, rfl, hown, hpa, h4⟩ := HO.out.slice
    obtain ⟨UA, uc, dss, rfl, hown2, hpa2, h42⟩ := HS.out.slice
    have hlen : (((ks.zip (ts.zip os)).take k).map scriptP).length = k := by rw [List.length_map, List.length_take, HZLEN.out]; simp only [Nat.min_def]; split <;> split <;> omega
    have HPL0 : Hid (Placed w.heap.size w wr (((ks.zip (ts.zip os)).take k).map scriptP) (.slice VA k vc)) := by
      have h := HO.out
      rw [hlen] at h
      exact h
    have HSL0 : Hid (SPlaced w.heap.size w wr (((ks.zip (ts.zip os)).take k).map scriptP) (.slice UA k uc)) := by
      have h := HS.out
      rw [hlen] at h
      exact h
    rw [hlen] at hown hown2 ⊢
    have HOW := hide hown; have HPA := hide hpa; have H4 := hide h4; have HLEN := hide hlen; have HOW2 := hide hown2; have HPA2 := hide hpa2; have H42 := hide h42
    clear hown hpa h4 hlen hown2 hpa2 h42 HO HS
    by_cases hlt : k < ts.length ∧ k < os.length ∧ k < ks.length
    · obtain ⟨hlt1, hlt2, hlt3⟩ := hlt
      have hkg : ts[k]? = some ts[k] := List.getElem?_eq_getElem hlt1
      obtain ⟨ad, A, c, rfl, hcell, hn, hsl⟩ := HT.out.at_ HN.out hkg
      obtain ⟨ad2, rfl, hadb, hoc⟩ := HOF.out.2 (by omega)
      obtain ⟨ad3, rfl, hadb3, hkc3⟩ := HKB.out.2 (by omega)
      have hall2 : ∀ W : World, New w W → W.cell? (ad2.add k) = some (.int .i64 os[k]) := fun W hW => (hW.cell (p := ad2.add k) (by rw [block_add]; exact hadb)).trans (hoc k _ (by simp [hlt2]))
      have hcell2 := hall2 wr HN.out
      have hcell3 : wr.cell? (ad3.add k) = some (.int .i64 ks[k]) := (HN.out.cell (p := ad3.add k) (by rw [block_add]; exact hadb3)).trans (hkc3 k _ (by simp [hlt3]))
      have hi : (k : Int) < (ts.length : Int) := by omega
      have hi2 : (k : Int) < (os.length : Int) := by omega
      have hi3 : (k : Int) < (ks.length : Int) := by omega
      have hi0 : (0 : Int) ≤ (k : Int) := by omega
      have hzk : k < (ks.zip (ts.zip os)).length := by rw [HZLEN.out]; simp only [Nat.min_def]; split <;> split <;> omega
      have hzg : (ks.zip (ts.zip os))[k] = (ks[k], ts[k], os[k]) := by simp
      have htk : ((ks.zip (ts.zip os)).take (k + 1)).map scriptP = ((ks.zip (ts.zip os)).take k).map scriptP ++ [scriptP (ks[k], ts[k], os[k])] := by rw [List.take_succ_eq_append_getElem hzk, List.map_append, hzg]; rfl
      have HTK := hide htk; have HSL := hide hsl; have HNN := hide hn; have HKG := hide hkg; have HALL2 := hide hall2
      clear hkg htk hsl hn hoc hzk hzg hkc3 hall2
      generalize ts[k] = t at *
      generalize os[k] = o at *
      generalize ks[k] = z at *
      have hBw := HN.out.size
      by_cases hz0 : z = 0
      · subst hz0
        have hsp : scriptP (0, t, o) = ⟨0, t, o, 0⟩ := by simp [scriptP]
        rw [hsp] at HTK
        go_wp2_with fail
        clear hsp hcell3
        go_region_law
          ((refine step_append_sl (by rfl) (.tmp 48) (.tmp 60) 25 (by rfl) w.heap.size 28 _ 4 48 Tryd.underlying25 infoPlace rfl (by decide) (.slice VA k vc) _ _ (by rfl) (by exact own_new HOW.out (by repeat (with_reducible first | exact new_refl _ | apply new_al | apply new_dr | apply new_drN))) (some ⟨wr.heap.size, 0, none⟩) 1 1 [.int .i64 0, .slice A t.length c, .int .i64 o, .int .i64 0] (by rfl) (fun e => by cases e) (by first | exact Sl.one _ _ _ _ rfl | exact (Sl.one _ _ _ _ rfl).drawn 1) (by intro u hu; simp at hu; rcases hu with rfl | rfl | rfl | rfl <;> rfl) (by unfold maxLen; omega) (by omega) (by simp; omega) ?_; intro v4 w4 hown4 ht4 hn4))
        all_goals
          have HO4 : Hid (Placed w.heap.size w w4 (((ks.zip (ts.zip os)).take (k + 1)).map scriptP) v4) := by
            rw [HTK.out]
            exact Placed.more HPA.out H4.out (PlaceAt.write 0 o 0 HSL.out HNN.out) (by rw [HLEN.out]; exact hown4)
          have hown2' : w4.ownsRow w.heap.size 64 4 (.slice UA k uc) k dss.flatten := own_turns (own_new HOW2.out (by repeat (with_reducible first | exact new_refl _ | apply new_al | apply new_dr | apply new_drN))) ht4 (fun g hg h => own_apart HOW.out HOW2.out (by decide) g h hg)
          have HN4 : Hid (New w w4) := hide (new_turns (new_trans HN.out (by repeat (with_reducible first | exact new_refl _ | apply new_al | apply new_dr | apply new_drN))) ht4 (fun g hg => (HOW.out.lt g hg).1))
          have HOW4 := hide hown2'; have HOWA := hide hown4
          obtain ⟨ad4, A4, c4, hea, hcell4, hn5, hsl5⟩ := HT.out.at_ HN4.out HKG.out
          cases hea
          have hcell24 := HALL2.out w4 HN4.out
          have hBw4 := HN4.out.size
          have HSL5 := hide hsl5; have HNN5 := hide hn5
          clear hown4 ht4 hn4 hown2' hcell hcell2 hsl5 hn5
          go_wp2_with fail
          go_region_law
            ((refine step_append_sl (by rfl) (.tmp 62) (.tmp 74) 41 (by rfl) w.heap.size 64 _ 4 48 Tryd.underlying41 infoSPlace rfl (by decide) (.slice UA k uc) _ _ (by rfl) (by exact own_new HOW4.out (by repeat (with_reducible first | exact new_refl _ | apply new_al | apply new_dr | apply new_drN))) (some ⟨w4.heap.size, 0, none⟩) 1 1 [.int .i64 0, .slice A4 t.length c4, .int .i64 o, .int .i64 0] (by rfl) (fun e => by cases e) (by first | exact Sl.one _ _ _ _ rfl | exact (Sl.one _ _ _ _ rfl).drawn 1) (by intro u hu; simp at hu; rcases hu with rfl | rfl | rfl | rfl <;> rfl) (by unfold maxLen; omega) (by omega) (by simp; omega) ?_; intro v5 w5 hown5 ht5 hn5))
          all_goals
            have HS5 : Hid (SPlaced w.heap.size w w5 (((ks.zip (ts.zip os)).take (k + 1)).map scriptP) v5) := by
              rw [HTK.out]
              exact SPlaced.more HPA2.out H42.out (PlaceAt.write 0 o 0 HSL5.out HNN5.out) (by rw [HLEN.out]; exact hown5)
            have HO5 : Hid (Placed w.heap.size w w5 (((ks.zip (ts.zip os)).take (k + 1)).map scriptP) v4) := by
              obtain ⟨css', q1, q2, q3⟩ := HO4.out
              exact ⟨css', own_turns (own_new q1 (by repeat (with_reducible first | exact new_refl _ | apply new_al | apply new_dr | apply new_drN))) ht5 (fun g hg h => own_apart HOWA.out HOW4.out (by decide) g hg h), q2, q3⟩
            have HN5 : Hid (New w w5) := hide (new_turns (new_trans HN4.out (by repeat (with_reducible first | exact new_refl _ | apply new_al | apply new_dr | apply new_drN))) ht5 (fun g hg => (HOW4.out.lt g hg).1))
            clear hown5 ht5 hn5
            go_wp2
            go_roundw
            case rel => exact ⟨k + 1, by omega, by omega, by omega, by go_num, HO5.out, HS5.out, HN5.out⟩
            case measure => simp [intOf]; omega
      · by_cases hz1 : z = 1
        · subst hz1
          have hsp : scriptP (1, t, o) = ⟨1, t, o, 0⟩ := by simp [scriptP]
          rw [hsp] at HTK
          go_wp2_with fail
          clear hsp hcell3
          go_region_law
            ((refine step_append_sl (by rfl) (.tmp 48) (.tmp 60) 25 (by rfl) w.heap.size 28 _ 4 48 Tryd.underlying25 infoPlace rfl (by decide) (.slice VA k vc) _ _ (by rfl) (by exact own_new HOW.out (by repeat (with_reducible first | exact new_refl _ | apply new_al | apply new_dr | apply new_drN))) (some ⟨wr.heap.size, 0, none⟩) 1 1 [.int .i64 1, .slice A t.length c, .int .i64 o, .int .i64 0] (by rfl) (fun e => by cases e) (by first | exact Sl.one _ _ _ _ rfl | exact (Sl.one _ _ _ _ rfl).drawn 1) (by intro u hu; simp at hu; rcases hu with rfl | rfl | rfl | rfl <;> rfl) (by unfold maxLen; omega) (by omega) (by simp; omega) ?_; intro v4 w4 hown4 ht4 hn4))
          all_goals
            have HO4 : Hid (Placed w.heap.size w w4 (((ks.zip (ts.zip os)).take (k + 1)).map scriptP) v4) := by
              rw [HTK.out]
              exact Placed.more HPA.out H4.out (PlaceAt.write 1 o 0 HSL.out HNN.out) (by rw [HLEN.out]; exact hown4)
            have hown2' : w4.ownsRow w.heap.size 64 4 (.slice UA k uc) k dss.flatten := own_turns (own_new HOW2.out (by repeat (with_reducible first | exact new_refl _ | apply new_al | apply new_dr | apply new_drN))) ht4 (fun g hg h => own_apart HOW.out HOW2.out (by decide) g h hg)
            have HN4 : Hid (New w w4) := hide (new_turns (new_trans HN.out (by repeat (with_reducible first | exact new_refl _ | apply new_al | apply new_dr | apply new_drN))) ht4 (fun g hg => (HOW.out.lt g hg).1))
            have HOW4 := hide hown2'; have HOWA := hide hown4
            obtain ⟨ad4, A4, c4, hea, hcell4, hn5, hsl5⟩ := HT.out.at_ HN4.out HKG.out
            cases hea
            have hcell24 := HALL2.out w4 HN4.out
            have hBw4 := HN4.out.size
            have HSL5 := hide hsl5; have HNN5 := hide hn5
            clear hown4 ht4 hn4 hown2' hcell hcell2 hsl5 hn5
            go_wp2_with fail
            go_region_law
              ((refine step_append_sl (by rfl) (.tmp 62) (.tmp 74) 41 (by rfl) w.heap.size 64 _ 4 48 Tryd.underlying41 infoSPlace rfl (by decide) (.slice UA k uc) _ _ (by rfl) (by exact own_new HOW4.out (by repeat (with_reducible first | exact new_refl _ | apply new_al | apply new_dr | apply new_drN))) (some ⟨w4.heap.size, 0, none⟩) 1 1 [.int .i64 1, .slice A4 t.length c4, .int .i64 o, .int .i64 0] (by rfl) (fun e => by cases e) (by first | exact Sl.one _ _ _ _ rfl | exact (Sl.one _ _ _ _ rfl).drawn 1) (by intro u hu; simp at hu; rcases hu with rfl | rfl | rfl | rfl <;> rfl) (by unfold maxLen; omega) (by omega) (by simp; omega) ?_; intro v5 w5 hown5 ht5 hn5))
            all_goals
              have HS5 : Hid (SPlaced w.heap.size w w5 (((ks.zip (ts.zip os)).take (k + 1)).map scriptP) v5) := by
                rw [HTK.out]
                exact SPlaced.more HPA2.out H42.out (PlaceAt.write 1 o 0 HSL5.out HNN5.out) (by rw [HLEN.out]; exact hown5)
              have HO5 : Hid (Placed w.heap.size w w5 (((ks.zip (ts.zip os)).take (k + 1)).map scriptP) v4) := by
                obtain ⟨css', q1, q2, q3⟩ := HO4.out
                exact ⟨css', own_turns (own_new q1 (by repeat (with_reducible first | exact new_refl _ | apply new_al | apply new_dr | apply new_drN))) ht5 (fun g hg h => own_apart HOWA.out HOW4.out (by decide) g hg h), q2, q3⟩
              have HN5 : Hid (New w w5) := hide (new_turns (new_trans HN4.out (by repeat (with_reducible first | exact new_refl _ | apply new_al | apply new_dr | apply new_drN))) ht5 (fun g hg => (HOW4.out.lt g hg).1))
              clear hown5 ht5 hn5
              go_wp2
              go_roundw
              case rel => exact ⟨k + 1, by omega, by omega, by omega, by go_num, HO5.out, HS5.out, HN5.out⟩
              case measure => simp [intOf]; omega
        · have hsp : scriptP (z, t, o) = ⟨2, t, o, IntKind.i64.wrap (z - 2)⟩ := by unfold scriptP; rw [if_neg (by omega)]
          rw [hsp] at HTK
          have b0 : (z != 0) = true := by simp [hz0]
          have b1 : (z != 1) = true := by simp [hz1]
          clear hsp
          generalize hzw : IntKind.i64.wrap (z - 2) = zw at *
          go_wp2_with fail
          go_quiet (fail)
          rename Nat => q1
          go_wp2_with fail
          clear hcell3 b0 b1 hz0 hz1 hzw
          go_region_law
            ((refine step_append_sl (by rfl) (.tmp 48) (.tmp 60) 25 (by rfl) w.heap.size 28 _ 4 48 Tryd.underlying25 infoPlace rfl (by decide) (.slice VA k vc) _ _ (by rfl) (by exact own_new HOW.out (by repeat (with_reducible first | exact new_refl _ | apply new_al | apply new_dr | apply new_drN))) (some ⟨wr.heap.size, 0, none⟩) 1 1 [.int .i64 2, .slice A t.length c, .int .i64 o, .int .i64 zw] (by rfl) (fun e => by cases e) (by first | exact Sl.one _ _ _ _ rfl | exact (Sl.one _ _ _ _ rfl).drawn 1) (by intro u hu; simp at hu; rcases hu with rfl | rfl | rfl | rfl <;> rfl) (by unfold maxLen; omega) (by omega) (by simp; omega) ?_; intro v4 w4 hown4 ht4 hn4))
          all_goals
            have HO4 : Hid (Placed w.heap.size w w4 (((ks.zip (ts.zip os)).take (k + 1)).map scriptP) v4) := by
              rw [HTK.out]
              exact Placed.more HPA.out H4.out (PlaceAt.write 2 o zw HSL.out HNN.out) (by rw [HLEN.out]; exact hown4)
            have hown2' : w4.ownsRow w.heap.size 64 4 (.slice UA k uc) k dss.flatten := own_turns (own_new HOW2.out (by repeat (with_reducible first | exact new_refl _ | apply new_al | apply new_dr | apply new_drN))) ht4 (fun g hg h => own_apart HOW.out HOW2.out (by decide) g h hg)
            have HN4 : Hid (New w w4) := hide (new_turns (new_trans HN.out (by repeat (with_reducible first | exact new_refl _ | apply new_al | apply new_dr | apply new_drN))) ht4 (fun g hg => (HOW.out.lt g hg).1))
            have HOW4 := hide hown2'; have HOWA := hide hown4
            obtain ⟨ad4, A4, c4, hea, hcell4, hn5, hsl5⟩ := HT.out.at_ HN4.out HKG.out
            cases hea
            have hcell24 := HALL2.out w4 HN4.out
            have hBw4 := HN4.out.size
            have HSL5 := hide hsl5; have HNN5 := hide hn5
            clear hown4 ht4 hn4 hown2' hcell hcell2 hsl5 hn5
            go_wp2_with fail
            go_region_law
              ((refine step_append_sl (by rfl) (.tmp 62) (.tmp 74) 41 (by rfl) w.heap.size 64 _ 4 48 Tryd.underlying41 infoSPlace rfl (by decide) (.slice UA k uc) _ _ (by rfl) (by exact own_new HOW4.out (by repeat (with_reducible first | exact new_refl _ | apply new_al | apply new_dr | apply new_drN))) (some ⟨w4.heap.size, 0, none⟩) 1 1 [.int .i64 2, .slice A4 t.length c4, .int .i64 o, .int .i64 zw] (by rfl) (fun e => by cases e) (by first | exact Sl.one _ _ _ _ rfl | exact (Sl.one _ _ _ _ rfl).drawn 1) (by intro u hu; simp at hu; rcases hu with rfl | rfl | rfl | rfl <;> rfl) (by unfold maxLen; omega) (by omega) (by simp; omega) ?_; intro v5 w5 hown5 ht5 hn5))
            all_goals
              have HS5 : Hid (SPlaced w.heap.size w w5 (((ks.zip (ts.zip os)).take (k + 1)).map scriptP) v5) := by
                rw [HTK.out]
                exact SPlaced.more HPA2.out H42.out (PlaceAt.write 2 o zw HSL5.out HNN5.out) (by rw [HLEN.out]; exact hown5)
              have HO5 : Hid (Placed w.heap.size w w5 (((ks.zip (ts.zip os)).take (k + 1)).map scriptP) v4) := by
                obtain ⟨css', q1, q2, q3⟩ := HO4.out
                exact ⟨css', own_turns (own_new q1 (by repeat (with_reducible first | exact new_refl _ | apply new_al | apply new_dr | apply new_drN))) ht5 (fun g hg h => own_apart HOWA.out HOW4.out (by decide) g hg h), q2, q3⟩
              have HN5 : Hid (New w w5) := hide (new_turns (new_trans HN4.out (by repeat (with_reducible first | exact new_refl _ | apply new_al | apply new_dr | apply new_drN))) ht5 (fun g hg => (HOW4.out.lt g hg).1))
              clear hown5 ht5 hn5
              go_wp2
              go_roundw
              case rel => exact ⟨k + 1, by omega, by omega, by omega, by go_num, HO5.out, HS5.out, HN5.out⟩
              case measure => simp [intOf]; omega
    · have hzl : (ks.zip (ts.zip os)).length = k := by rw [HZLEN.out]; simp only [Nat.min_def]; split <;> split <;> omega
      have htake : (ks.zip (ts.zip os)).take k = ks.zip (ts.zip os) := List.take_of_length_le (by omega)
      rw [htake] at HPL0 HSL0
      have HZL := hide hzl
      have hex : ¬ k < ks.length ∨ (k < ks.length ∧ ¬ k < ts.length) ∨ (k < ks.length ∧ k < ts.length ∧ ¬ k < os.length) := by omega
      clear HOW HPA H4 htake hzl hlt HOW2 HPA2 H42
      rcases hex with hx | ⟨hx, hx2⟩ | ⟨hx, hx2, hx3⟩
      all_goals
        go_wp2
        go_ret2
        exact ⟨VA, vc, UA, uc, by rw [HZL.out]; first | done | rfl, by rw [HZL.out]; exact HPL0.out, by rw [HZL.out]; exact HSL0.out, HN.out⟩

end Go.Proofs.YtnmdjhkeekhfbaaDoor
