/-
  laws.FnNopRest returns true, whatever the arguments.
-/
import Derived.Test.YtdcdbbcphkhmeaaDoorNopReads
namespace Go.Proofs.YtdcdbbcphkhmeaaDoor
open Go.RowKit
set_option linter.unusedVariables false
set_option maxRecDepth 100000

/-- A read and a close, so many times. -/
def restSteps (z : Int) : Nat → List (Int × Int)
  | 0 => []
  | k + 1 => restSteps z k ++ [(0, z), (1, 0)]
theorem restSteps_length (z : Int) (k : Nat) : (restSteps z k).length = 2 * k := by
  induction k with
  | zero => rfl
  | succ k ih => simp [restSteps, ih]; omega
theorem restSteps_take (z : Int) (m k : Nat) (h : k ≤ m) : (restSteps z m).take (2 * k) = restSteps z k := by
  induction m with
  | zero => have : k = 0 := by omega
            subst this; rfl
  | succ m ih =>
    rcases Nat.eq_or_lt_of_le h with rfl | hlt
    · rw [List.take_of_length_le (by rw [restSteps_length]; omega)]
    · rw [restSteps, List.take_append_of_le_length (by rw [restSteps_length]; omega)]
      exact ih (by omega)
theorem restSteps_get (z : Int) (m k : Nat) (h : k < m) : (restSteps z m)[2 * k]? = some (0, z) := by
  have e := restSteps_take z m (k + 1) h
  have hl := restSteps_length z k
  have : ((restSteps z m).take (2 * (k + 1)))[2 * k]? = some (0, z) := by
    rw [e, restSteps, List.getElem?_append_right (by omega), hl]
    simp
  rw [List.getElem?_take] at this
  split at this
  · exact this
  · cases this
theorem restSteps_mem (z : Int) (m : Nat) : ∀ st ∈ restSteps z m, (st.1 = 0 ∨ st.1 = 1) ∧ (st.2 = z ∨ st.2 = 0) := by
  induction m with
  | zero => simp [restSteps]
  | succ m ih =>
    intro st hst
    rw [restSteps, List.mem_append] at hst
    rcases hst with hst | hst
    · exact ih st hst
    · simp at hst
      rcases hst with rfl | rfl
      · exact ⟨.inl rfl, .inl rfl⟩
      · exact ⟨.inr rfl, .inr rfl⟩
theorem restSteps_cells (z : Int) (k : Nat) : stepCells (restSteps z (k + 1)) = stepCells (restSteps z k) ++ [.int .i64 0, .int .i64 z, .int .i64 1, .int .i64 0] := by
  simp [restSteps, stepCells]

/-- All bytes of some results. -/
def allOf (gs : List GotG) : List Int := gs.flatMap (·.data)

theorem rest_state (s : Src) (z : Int) (hz : 1 ≤ z) (k : Nat) :
    (s.after (restSteps z k)).2.1 ≤ s.data.length ∧ Nat.min k s.data.length ≤ (s.after (restSteps z k)).2.1 ∧ allOf (s.after (restSteps z k)).1 = s.data.take (s.after (restSteps z k)).2.1 := by
  induction k with
  | zero => exact ⟨Nat.zero_le _, by simp [Src.after, restSteps], by simp [Src.after, restSteps, allOf]⟩
  | succ k ih =>
    obtain ⟨h1, h2, h3⟩ := ih
    have e : restSteps z (k + 1) = (restSteps z k ++ [(0, z)]) ++ [(1, 0)] := by simp [restSteps]
    rw [e, s.after_snoc, s.after_snoc]
    generalize (s.after (restSteps z k)).2.1 = a at *
    generalize (s.after (restSteps z k)).2.2 = p at *
    generalize (s.after (restSteps z k)).1 = gs at *
    have hs0 : s.stepG a p (0, z) = (⟨(s.read a p z.toNat).bytes, (s.read a p z.toNat).bytes.length, (s.read a p z.toNat).code, true⟩, (s.read a p z.toNat).at_, (s.read a p z.toNat).pc) := rfl
    have hs1 : ∀ a p, s.stepG a p (1, 0) = (⟨[], 0, 0, true⟩, a, p) := fun _ _ => rfl
    simp only [hs0, hs1]
    have hle := s.read_le a p z.toNat h1
    refine ⟨hle, ?_, ?_⟩
    · unfold Src.read
      rw [if_neg (by omega)]
      split
      · rename_i ha; show Nat.min (k + 1) s.data.length ≤ a; rw [ha]; exact Nat.min_le_right _ _
      · rename_i ha
        have := s.amount_pos a p z.toNat (by omega) (by omega)
        show Nat.min (k + 1) s.data.length ≤ a + s.amount a p z.toNat
        simp only [Nat.min_def] at h2 ⊢
        split at h2 <;> split <;> omega
    · have e2 : allOf ((gs ++ [⟨(s.read a p z.toNat).bytes, (s.read a p z.toNat).bytes.length, (s.read a p z.toNat).code, true⟩]) ++ [⟨[], 0, 0, true⟩]) = allOf gs ++ (s.read a p z.toNat).bytes := by simp [allOf]
      rw [e2, h3]
      unfold Src.read
      rw [if_neg (by omega)]
      split
      · simp
      · show s.data.take a ++ (s.data.drop a).take (s.amount a p z.toNat) = s.data.take (a + s.amount a p z.toNat)
        rw [List.take_add]

theorem allOf_take_le (gs : List GotG) (j : Nat) : (allOf (gs.take j)).length ≤ (allOf gs).length := by
  have e : allOf gs = allOf (gs.take j) ++ allOf (gs.drop j) := by unfold allOf; rw [← List.flatMap_append, List.take_append_drop]
  rw [e, List.length_append]
  omega
theorem allOf_snoc (gs : List GotG) (j : Nat) (g : GotG) (h : gs[j]? = some g) : allOf (gs.take (j + 1)) = allOf (gs.take j) ++ g.data := by
  rw [List.take_add_one, h]
  simp [allOf]

/-- The last read's result, and all the bytes. -/
theorem rest_end (s : Src) (z : Int) (hz : 1 ≤ z) : allOf (s.after (restSteps z (s.data.length + 1))).1 = s.data ∧
    ∃ g, (s.after (restSteps z (s.data.length + 1))).1[2 * s.data.length]? = some g ∧ g.code = s.endCode := by
  obtain ⟨h1, h2, h3⟩ := rest_state s z hz (s.data.length + 1)
  have h2' : Nat.min (s.data.length + 1) s.data.length = s.data.length := Nat.min_eq_right (by omega)
  refine ⟨by rw [h3, List.take_of_length_le (by omega)], ?_⟩
  have hl := restSteps_length z (s.data.length + 1)
  have hg := s.after_get (restSteps z (s.data.length + 1)) (2 * s.data.length) (by omega)
  have e1 : (restSteps z (s.data.length + 1))[2 * s.data.length]'(by omega) = (0, z) := by
    have := restSteps_get z (s.data.length + 1) s.data.length (by omega)
    exact (List.getElem?_eq_some_iff.1 this).2
  rw [e1, restSteps_take z (s.data.length + 1) s.data.length (by omega)] at hg
  obtain ⟨k1, k2, _⟩ := rest_state s z hz s.data.length
  have k2' : Nat.min s.data.length s.data.length = s.data.length := Nat.min_self _
  have hat : (s.after (restSteps z s.data.length)).2.1 = s.data.length := by omega
  refine ⟨_, hg, ?_⟩
  rw [hat]
  show (s.read s.data.length _ z.toNat).code = s.endCode
  unfold Src.read
  rw [if_neg (by omega), if_pos rfl]

theorem Sl.few (w : World) (e : TypeId) (news : List Value) (size m : Nat) (hl : news.length = m * size) : Sl (w.alloc (.cells news.toArray e)) size (some ⟨w.heap.size, 0, none⟩) m news := by
  refine ⟨hl, fun _ => ⟨_, rfl, by simp, fun j u hu => ?_⟩⟩
  rw [add0, (At.made w e news.toArray).get j]
  simpa using hu

theorem wpList_append_few {P : Program} {w : World} {ops : Array Oper} {rest : List Oper} {o : Oper} {a : Act} {Q : Exit → Act → World → Prop} (hgd : o.guard = none) (s x : Operand) (t : TypeId)
    (ho : o.op = .call { callee := .builtin .append, args := #[s, x], argTypes := #[t, t] })
    (base : Nat) (e : TypeId) (z : Value) (size bytes : Nat) (ht : P.underlying t = some (.slice e)) (hinfo : (P.info? e).map (fun i => (i.zero, i.size, i.bytes)) = some (some z, size, bytes)) (hzs : z.cells.size = size) (hsz : 0 < size)
    (v : Value) (n : Nat) (xs : List Value) (hs : a.eval s = v) (hown : w.ownsRow base e size v n xs)
    (m : Nat) (news : List Value) (H : Nat) (hx : a.eval x = .slice (some ⟨H, 0, none⟩) m m) (hl : news.length = m * size) (h1 : ∀ u ∈ news, u.oneCell' = true)
    (h63 : n + m ≤ maxLen) (hbytes : (n + m) * bytes ≤ 140737488355328) (hbase : base ≤ w.heap.size) (hH : w.heap.size = H)
    (h : ∀ v' w', w'.ownsRow base e size v' (n + m) (xs ++ news) → Turns (fun k => v.ownBlock = some k) w w' → wpList P ops Q rest (a.put o.dst v') w') : wpList P ops Q (o :: rest) a (w.alloc (.cells news.toArray e)) := by
  subst hH
  refine wpList_append_sl hgd s x t ho base e z size bytes ht hinfo hzs hsz v n xs hs (hown.alloc _) _ m m news hx (fun e => by cases e) (Sl.few w e news size m hl) h1 h63 hbytes (by simp; omega) ?_
  intro v' w' h2 h3 _
  exact h v' w' h2 (Turns.trans (Turns.of_new (new_alloc w _) _) h3 (fun _ _ hi => hi))

set_option maxHeartbeats 2000000 in
theorem fnNopRest_in {w : World} {s : Src} {z : Int} {DA PA : Option Addr} {dc pc : Nat} {E : Nat → Addr} (hd : Sl w 1 DA s.data.length (s.data.map (Value.int .u8))) (hDn : DA = none → dc = 0)
    (hp : Sl w 1 PA s.pieces.length (s.pieces.map (Value.int .i64))) (hPn : PA = none → pc = 0)
    (hdl : s.data.length ≤ 2000) (hpl : s.pieces.length ≤ 4096) (hz1 : 1 ≤ z) (hz2 : z ≤ 65536) (hE : Env w.heap.size E w) :
    Calls Tryd.prog 4 #[.slice DA s.data.length dc, .slice PA s.pieces.length pc, .bool s.together, .bool s.broken, .bool s.direct, .int .i64 z] w fun e w' => e = .returned (.bool true) ∧ New w w' := by
  have HD := hide hd; have HP := hide hp; have HDN := hide hDn; have HPN := hide hPn; have HE := hide hE
  clear hd hp hDn hPn hE
  go_enter Tryd.func4, Tryd.ntmps4
  go_wp2
  go_loopw [13, 14] (fun v i wr => ∃ k : Nat, k ≤ s.data.length + 1 ∧ i = .int .i64 k ∧ Hid (wr.ownsRow w.heap.size 26 2 v (2 * k) (stepCells (restSteps z k))) ∧ Hid (New w wr)) (fun _ i _ => s.data.length + 1 - (intOf i).toNat)
  case atStart => exact ⟨0, Nat.zero_le _, rfl, lit_own _ _ (At.made _ _ _) (Nat.le_refl _), new_alloc _ _⟩
  case round =>
    obtain ⟨k, hk, rfl, HO, HN⟩ := hrel
    by_cases hlt2 : k ≤ s.data.length
    · have hBw := HN.out.size
      obtain ⟨VA, vc, rfl, -, -⟩ := Sl.of_own HO.out
      have hle' : (k : Int) ≤ (s.data.length : Int) := by omega
      go_wp2_with (at_builtin; (with_reducible refine wpList_append_few rfl (.tmp 42) (.tmp 46) 24 rfl w.heap.size 26 _ 2 16 Tryd.underlying24 infoStep rfl (by decide) _ _ _ rfl HO.out 2 [.int .i64 0, .int .i64 z, .int .i64 1, .int .i64 0] _ rfl rfl ?c1 ?c2 ?c3 hBw rfl ?_))
      case c1 => intro u hu; simp at hu; rcases hu with rfl | rfl | rfl | rfl <;> rfl
      case c2 => unfold maxLen; omega
      case c3 => omega
      intro v4 w4 hown4 ht4
      have HO4 : Hid (w4.ownsRow w.heap.size 26 2 v4 (2 * (k + 1)) (stepCells (restSteps z (k + 1)))) := by
        rw [restSteps_cells]
        exact hown4
      have HN4 : Hid (New w w4) := hide (new_turns HN.out ht4 (fun g hg => (HO.out.lt g hg).1))
      clear hown4 ht4
      go_wp2
      go_roundw
      case rel => exact ⟨k + 1, by omega, by go_num, HO4.out, HN4.out⟩
      case measure => simp [intOf]; omega
    · obtain rfl : k = s.data.length + 1 := by omega
      obtain ⟨VA, vc, rfl, -, -⟩ := Sl.of_own HO.out
      have hgt' : ¬ ((s.data.length : Int) + 1 ≤ (s.data.length : Int)) := by omega
      go_wp2_with fail
      refine (source_any (s := s) (HD.out.new HN.out) HDN.out (HP.out.new HN.out) HPN.out (by omega) (by omega)).mono ?_
      rintro e w2 ⟨dv, pv, rfl, hdv, hpv, hN2⟩
      obtain ⟨A1, k1, rfl, hn1, hs1⟩ := Sl.of_own hdv
      obtain ⟨A2, k2, rfl, hn2, hs2⟩ := Sl.of_own hpv
      have HN2 := hide (new_trans HN.out hN2)
      have HO2 := hide (own_new HO.out hN2)
      have HS1 := hide hs1; have HS2 := hide hs2; have HK1 := hide hn1; have HK2 := hide hn2
      clear hdv hpv hN2 hs1 hs2 hn1 hn2 HO HN
      have HRL := hide (restSteps_length z (s.data.length + 1))
      go_wp2_with fail
      refine (nopCloser_any (s := s) (steps := restSteps z (s.data.length + 1)) (E := E) HS1.out HK1.out HS2.out HK2.out (by omega) (by omega) (by rw [HRL.out]; exact HO2.out) (by rw [HRL.out]; omega) ?hst ((HE.out.below HN2.out).up HN2.out.size)).mono ?_
      case hst =>
        intro st hst
        obtain ⟨h1, h2⟩ := restSteps_mem z _ st hst
        exact ⟨h1, by omega⟩
      rintro e w3 ⟨v3, css, rfl, hown3, hgs3, hcl3, hN3⟩
      have hN03 := new_trans HN2.out hN3
      rw [HRL.out] at hown3
      obtain ⟨A3, k3, rfl, -, -⟩ := Sl.of_own hown3
      have HOWN := hide hown3; have HGS := hide hgs3; have HCL := hide hcl3; have HN3 := hide hN03
      have HSZ2 := hide HN2.out.size
      clear hown3 hgs3 hcl3 hN3 hN03 HO2 HS1 HS2 HK1 HK2
      go_wp2_with fail
      have hgl := s.after_length (restSteps z (s.data.length + 1))
      rw [HRL.out] at hgl
      obtain ⟨hall, glast, hlast, hcode⟩ := rest_end s z hz1
      generalize (s.after (restSteps z (s.data.length + 1))).1 = gs at *
      generalize hM : 2 * (s.data.length + 1) = M at *
      have hM1 : M ≤ 4002 := by omega
      have hM2 : 2 ≤ M := by omega
      have hMI1 : (M : Int) ≤ 2 * ((s.data.length : Int) + 1) := by omega
      have hMI2 : 2 * ((s.data.length : Int) + 1) ≤ (M : Int) := by omega
      have HM := hide hM
      have HGL := hide hgl; have HALL := hide hall; have HLAST := hide hlast; have HCODE := hide hcode
      clear hM hgl hall hlast hcode
      rcases HOWN.out.2 with ⟨_, h0⟩ | ⟨og, oc, ocur, hov, hogB, hog, hnoc, hocm, _⟩
      · omega
      cases hov
      have hogl : og < w3.heap.size := (Array.getElem?_eq_some_iff.1 hog).1
      unfold maxLen at hocm
      clear hog
      go_loopw [16, 64] (fun v i wr => ∃ j : Nat, j ≤ M ∧ i = .int .i64 j ∧ Hid (wr.ownsRow w3.heap.size 5 1 v (allOf (gs.take j)).length ((allOf (gs.take j)).map (Value.int .u8))) ∧ Hid (New w3 wr)) (fun _ i _ => M - (intOf i).toNat)
      case atStart => exact ⟨0, Nat.zero_le _, rfl, lit_own _ _ (At.made _ _ _) (Nat.le_refl _), new_alloc _ _⟩
      case round =>
        obtain ⟨j, hj, rfl, HO, HW⟩ := hrel
        by_cases hlt3 : j < M
        · obtain ⟨g, hg⟩ : ∃ g, gs[j]? = some g := ⟨gs[j]'(by rw [HGL.out]; exact hlt3), List.getElem?_eq_getElem _⟩
          obtain ⟨GA, gc, x0, x1, x2, x3, hgsl, hgn, -⟩ := got_cells HOWN.out HGS.out HCL.out hg
          have y0 : wr.cell? ⟨og, j * 4, none⟩ = some (.slice GA g.data.length gc) := (HW.out.cell (p := ⟨og, j * 4, none⟩) hogl).trans x0
          have HGSL := hide (hgsl.new HW.out); have HGN := hide hgn
          have hsn := allOf_snoc gs j g hg
          have hle1 := allOf_take_le gs (j + 1)
          have hall := HALL.out
          rw [hall, hsn, List.length_append] at hle1
          have HSN := hide hsn
          obtain ⟨VA', vc', rfl, -, -⟩ := Sl.of_own HO.out
          have hBw := HW.out.size
          have hji : (j : Int) < 2 * ((s.data.length : Int) + 1) := by omega
          have hjm : (j : Int) < (M : Int) := by omega
          clear x0 x1 x2 x3 hgsl hgn hg hsn hall
          go_upto_region 15 with (fail)
          go_wp2_with (at_builtin; (refine wpList_append_sl (by rfl) (.tmp 67) (.tmp 72) 22 (by rfl) w3.heap.size 5 (.int .u8 0) 1 1 Tryd.underlying22 info5 rfl (by decide) (.slice VA' (allOf (gs.take j)).length vc') _ _ (by rfl) (by exact HO.out) GA g.data.length gc _ (by rfl) (by exact HGN.out) (by exact HGSL.out) (by exact ints_oneCell _ _) (by unfold maxLen; omega) (by omega) (by exact hBw) ?_))
          intro v5 w5 hown5 ht5 _
          have HO5 : Hid (w5.ownsRow w3.heap.size 5 1 v5 (allOf (gs.take (j + 1))).length ((allOf (gs.take (j + 1))).map (Value.int .u8))) := by
            rw [HSN.out, List.length_append, List.map_append]
            exact hown5
          have HW5 : Hid (New w3 w5) := hide (new_turns HW.out ht5 (fun k hk => (HO.out.lt k hk).1))
          clear hown5 ht5
          go_wp2
          go_roundw
          case rel => exact ⟨j + 1, by omega, by go_num, HO5.out, HW5.out⟩
          case measure => simp [intOf]; omega
        · obtain rfl : j = M := by omega
          have ho := HO.out
          rw [List.take_of_length_le (by rw [HGL.out]; exact Nat.le_refl _), HALL.out] at ho
          obtain ⟨VA', vc', rfl, -, hsl⟩ := Sl.of_own ho
          have HSL := hide hsl
          have hd4 := HD.out.new (new_trans HN3.out HW.out)
          have HD4 := hide hd4
          have hlast' : gs[j - 2]? = some glast := by
            have e := HM.out
            rw [show j - 2 = 2 * s.data.length by omega]
            exact HLAST.out
          obtain ⟨GA, gc, x0, x1, x2, x3, -, -, -⟩ := got_cells HOWN.out HGS.out HCL.out hlast'
          rw [HCODE.out] at x2
          have y2 : wr.cell? ⟨og, (j - 2) * 4 + 2, none⟩ = some (.int .i64 (s.endCode : Nat)) := (HW.out.cell (p := ⟨og, (j - 2) * 4 + 2, none⟩) hogl).trans x2
          have hN9 := hide (new_trans HN3.out HW.out)
          have hjn : ¬ ((j : Int) < 2 * ((s.data.length : Int) + 1)) := by omega
          have hj1 : (0 : Int) ≤ (j : Int) - 2 := by omega
          have hj2 : (j : Int) - 2 < (j : Int) := by omega
          clear x0 x1 x2 x3 ho hsl hd4 hlast' HO HW HOWN HGS HCL HLAST HALL HCODE
          cases hbr : s.broken with
          | true =>
            have ec : s.endCode = 2 := by simp [Src.endCode, hbr]
            rw [ec] at y2
            clear ec
            go_wp2_with fail
            refine (sameBytes_eq rfl HSL.out HD4.out (by omega)).mono ?_
            rintro e w6 ⟨rfl, q, rfl⟩
            go_wp2
            go_ret
            exact ⟨rfl, new_drN hN9.out q⟩
          | false =>
            have ec : s.endCode = 1 := by simp [Src.endCode, hbr]
            rw [ec] at y2
            clear ec
            go_wp2_with fail
            refine (sameBytes_eq rfl HSL.out HD4.out (by omega)).mono ?_
            rintro e w6 ⟨rfl, q, rfl⟩
            go_wp2
            go_ret
            exact ⟨rfl, new_drN hN9.out q⟩

theorem fnNopRest_walk {w : World} {s : Src} {z : Int} {DA PA : Option Addr} {dc pc : Nat} {E : Nat → Addr} (hd : Sl w 1 DA s.data.length (s.data.map (Value.int .u8))) (hDn : DA = none → dc = 0)
    (hp : Sl w 1 PA s.pieces.length (s.pieces.map (Value.int .i64))) (hPn : PA = none → pc = 0) (hE : Env w.heap.size E w) :
    Calls Tryd.prog 4 #[.slice DA s.data.length dc, .slice PA s.pieces.length pc, .bool s.together, .bool s.broken, .bool s.direct, .int .i64 z] w fun e w' => e = .returned (.bool true) ∧ New w w' := by
  by_cases c1 : s.data.length ≤ 2000
  · by_cases c2 : s.pieces.length ≤ 4096
    · by_cases c3 : 1 ≤ z
      · by_cases c4 : z ≤ 65536
        · exact fnNopRest_in hd hDn hp hPn c1 c2 c3 c4 hE
        · clear hd hDn hp hPn hE
          go_enter Tryd.func4, Tryd.ntmps4
          go_wp2
          go_ret
          exact ⟨rfl, new_refl _⟩
      · clear hd hDn hp hPn hE
        go_enter Tryd.func4, Tryd.ntmps4
        go_wp2
        go_ret
        exact ⟨rfl, new_refl _⟩
    · clear hd hDn hp hPn hE
      go_enter Tryd.func4, Tryd.ntmps4
      go_wp2
      go_ret
      exact ⟨rfl, new_refl _⟩
  · clear hd hDn hp hPn hE
    go_enter Tryd.func4, Tryd.ntmps4
    go_wp2
    go_ret
    exact ⟨rfl, new_refl _⟩

end Go.Proofs.YtdcdbbcphkhmeaaDoor
