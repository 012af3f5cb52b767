/-
  laws.FnCopyBufferAsked returns true, whatever the arguments.
-/
import Derived.Test.YtnbhhckempbimaaDoorLawCopy
import Derived.Test.YtnbhhckempbimaaDoorSpec
namespace Go.Proofs.YtnbhhckempbimaaDoor
open Go.RowKit
set_option linter.unusedVariables false
set_option maxRecDepth 100000

theorem sameInts_eq {w : World} {A A' : Option Addr} {n c c' : Nat} {xs : List Int} (hn : xs.length = n) (h : Sl w 1 A n (xs.map (Value.int .i64))) (h' : Sl w 1 A' n (xs.map (Value.int .i64))) (hm : n ≤ 1000000000000) :
    Calls Tryd.prog 19 #[.slice A n c, .slice A' n c'] w fun e w' => e = .returned (.bool true) ∧ ∃ m, w' = w.drewN m := by
  have H := hide h; have H' := hide h'; have HN := hide hn
  clear h h' hn
  have hneq : ((n : Int) != (n : Int)) = false := by simp
  go_enter Tryd.func19, Tryd.ntmps19
  go_wp2
  go_loopw [13] (fun i wr => ∃ k : Nat, k ≤ n ∧ i = .int .i64 k ∧ ∃ m, wr = w.drewN m) (fun i _ => n - (intOf i).toNat)
  case atStart => exact ⟨0, Nat.zero_le _, rfl, 0, rfl⟩
  case round =>
    obtain ⟨k, hk, rfl, m, rfl⟩ := hrel
    by_cases hlt : k < n
    · obtain ⟨ad, rfl, hadb, hcell⟩ := H.out.2 (by omega)
      obtain ⟨ad', rfl, hadb', hcell'⟩ := H'.out.2 (by omega)
      have hkx : k < xs.length := by rw [HN.out]; exact hlt
      have c1 : w.cell? (ad.add k) = some (.int .i64 xs[k]) := hcell k _ (by simp [hkx])
      have c2 : w.cell? (ad'.add k) = some (.int .i64 xs[k]) := hcell' k _ (by simp [hkx])
      have hi : (k : Int) < (n : Int) := by omega
      have hi0 : (0 : Int) ≤ (k : Int) := by omega
      have hne : (xs[k] != xs[k]) = false := by simp
      clear hcell hcell'
      generalize xs[k] = z at *
      go_wp2_with fail
      go_quiet (fail)
      rename Nat => q1
      go_wp2
      go_roundw
      case rel => exact ⟨k + 1, by omega, by go_num, m + q1, by simp⟩
      case measure => simp [intOf]; omega
    · go_wp2
      go_ret
      exact ⟨rfl, m, rfl⟩


/-- The law's own rows behind j rounds. -/
structure ARel (w0 : World) (sb : Nat) (s : Src) (DA PA : Option Addr) (dc pc : Nat) (room : Int) (m j : Nat) (v1 v2 : Value) (wr : World) : Prop where
  asked : wr.ownsRow w0.heap.size 3 1 v1 j (List.replicate j (Value.int .i64 (m : Int)))
  writes : wr.ownsRow w0.heap.size 3 1 v2 (s.lens m j).length ((s.lens m j).map (Value.int .i64))
  ap : ∀ g, v1.ownBlock = some g → v2.ownBlock ≠ some g
  spec : SRd wr sb s DA PA dc pc (s.pos m j).1 (s.pos m j).2
  new_ : New w0 wr
  before : ∀ i, i < j → ¬ s.stops room m i

theorem rep_snoc (j : Nat) (m : Int) : List.replicate (j + 1) (Value.int .i64 m) = List.replicate j (Value.int .i64 m) ++ [.int .i64 m] := List.replicate_succ' 
theorem own_i64_ne_spec {w : World} {base n : Nat} {v : Value} {xs : List Value} {sb : Nat} {cs : Array Value} (h : w.ownsRow base 3 1 v n xs) (hg : At w sb 37 cs) : ∀ g, v.ownBlock = some g → ¬ g = sb := fun g hg' e => own_ne h hg (by decide) (e ▸ hg')

attribute [local go_sem 10000] run_imin run_imax
set_option maxHeartbeats 2000000 in
theorem fnCopyBufferAsked_in {w : World} {s : Src} {DA PA : Option Addr} {dc pc m : Nat} {room: Int} {quiet : Bool} {E : Nat → Addr} (hd : Sl w 1 DA s.data.length (s.data.map (Value.int .u8))) (hDn : DA = none → dc = 0) (hdc : s.data.length ≤ dc) (hdm : dc ≤ 9223372036854775807)
    (hp : Sl w 1 PA s.pieces.length (s.pieces.map (Value.int .i64))) (hPn : PA = none → pc = 0) (hdir : s.direct = false) (hr1 : -9223372036854775808 ≤ room) (hr2 : room ≤ 9223372036854775807)
    (hdl : s.data.length ≤ 65536) (hpl : s.pieces.length ≤ 4096) (hm0 : 0 < m) (hm : m ≤ 65536) (hE : Env w.heap.size E w) :
    Calls Tryd.prog 4 #[.slice DA s.data.length dc, .slice PA s.pieces.length pc, .bool s.together, .bool s.broken, .int .i64 room, .bool quiet, .int .i64 (m : Int)] w fun e w' => e = .returned (.bool true) ∧ New w w' := by
  have HSRC : Hid (∀ W, Sl W 1 DA s.data.length (s.data.map (Value.int .u8)) → Sl W 1 PA s.pieces.length (s.pieces.map (Value.int .i64)) → Calls Tryd.prog 15 #[.slice DA s.data.length dc, .slice PA s.pieces.length pc, .bool s.together, .bool s.broken, .bool false] W (SourcePost s W)) := by
    intro W h1 h2
    have := source_any (s := s) h1 hDn h2 hPn (by omega) (by omega)
    rwa [hdir] at this
  have HDIR := hide hdir
  clear hdir
  have HD := hide hd; have HP := hide hp; have HDN := hide hDn; have HPN := hide hPn; have HE := hide hE
  clear hd hp hDn hPn hE
  have hmk : ∀ W : World, (Instr.makeSlice 22 (.int .i64 (m : Int)) (.int .i64 (m : Int))).run Tryd.prog W = .ok (.slice (some ⟨W.heap.size, 0, none⟩) m m) (W.alloc (.cells (zeros m).toArray 5)) := fun W => run_make_bytes 22 5 Tryd.underlying22 info5 m (by omega) W
  have hm1 : ¬ ((m : Int) < 1) := by omega
  have hm2 : ¬ ((65536 : Int) < (m : Int)) := by omega
  go_enter Tryd.func4, Tryd.ntmps4
  go_wp2_with fail
  go_cut [15] (fun v wx => ∃ k, v = .pointer (some ⟨k, 0, none⟩) ∧ Hid (OutAt w s room quiet false m k wx))
  case first =>
    have tokS : True := trivial
    have tokC : True := trivial
    go_region_held3 (fun _ => True) (trivial)
      (first
        | (have _t := tokS; go_at_call 15; refine (HSRC.out _ (by exact HD.out.new (by repeat (with_reducible first | exact new_refl _ | apply new_al | apply new_dr | apply new_drN))) (by exact HP.out.new (by repeat (with_reducible first | exact new_refl _ | apply new_al | apply new_dr | apply new_drN)))).mono ?_; rintro e wS ⟨dv, pv, rfl, hdv, hpv, mS⟩; have nS0 : Hid (New w wS) := hide (new_trans (by repeat (with_reducible first | exact new_refl _ | apply new_al | apply new_dr | apply new_drN)) mS); have nS := hide mS; (first | (have hKS := At.new (t := 25) (cs := zero8) (by repeat (with_reducible first | exact At.made _ _ _ | apply At.laid | apply At.drew | apply At.drawn)) mS; (try simp only [World.size_alloc] at hKS); have HKS := hide hKS; clear hKS) | skip); obtain ⟨A1, k1, rfl, hn1, hs1⟩ := Sl.of_own hdv; obtain ⟨A2, k2, rfl, hn2, hs2⟩ := Sl.of_own hpv; have HS1 := hide hs1; have HS2 := hide hs2; have HK1 := hide hn1; have HK2 := hide hn2; clear hdv hpv mS hs1 hs2 hn1 hn2 tokS)
        | (have _t := tokC; go_at_call 14; refine (impl_z (s := s) (E := E) (by exact HS1.out.new (by repeat (with_reducible first | exact new_refl _ | apply new_al | apply new_dr | apply new_drN))) HK1.out (by exact HS2.out.new (by repeat (with_reducible first | exact new_refl _ | apply new_al | apply new_dr | apply new_drN))) HK2.out (by repeat (with_reducible first | exact At.made' (by simp) _ _ | refine At.new ?_ nS.out | apply At.laid | apply At.drew | apply At.drawn)) (by exact HE.out.of_new (by repeat (with_reducible first | exact nS0.out | apply new_al | apply new_dr | apply new_drN))) hm0 hm hr1 hr2 hdl hpl).mono ?_; rintro e wC ⟨GA, gc, BA, bc, AA, ac, VA, vc, asked, writes, rfl, hF, mC⟩; have HF := hide hF; have nC := hide mC; clear hF tokC; first | (have hKC := At.new (t := 25) (cs := zero8) (by repeat (with_reducible first | exact HKS.out | exact At.made _ _ _ | apply At.laid | apply At.drew | apply At.drawn)) mC; (try simp only [World.size_alloc] at hKC); have t0 := hKC.get 0; have t1 := hKC.get 1; have t2 := hKC.get 2; have t3 := hKC.get 3; have t4 := hKC.get 4; have t5 := hKC.get 5; have t6 := hKC.get 6; have t7 := hKC.get 7; have f0 := hKC.soft 0; have f1 := hKC.soft 1; have f2 := hKC.soft 2; have f3 := hKC.soft 3; have f4 := hKC.soft 4; have f5 := hKC.soft 5; have f6 := hKC.soft 6; have f7 := hKC.soft 7; have HKC := hide hKC; clear hKC mC) | clear mC))
    all_goals
      go_wp2_with fail
      go_meet
      case rel =>
        have hz1 := Below.size nS0.out
        have hz2 := Below.size nS.out
        have hz3 := Below.size nC.out
        simp only [World.size_alloc, World.drew] at hz2 hz3
        refine ⟨_, rfl, hide ?_⟩
        first
          | (have _h := HKC; skip)
          | exact out_alloc nC.out HF.out (by repeat (with_reducible first | exact nS0.out | apply new_al | apply new_dr | apply new_drN))
        all_goals
          refine out_store HKC.out nC.out HF.out (by repeat (with_reducible first | exact nS0.out | apply new_al | apply new_dr | apply new_drN)) ?_ ?_
          · omega
          · first | omega | (simp; omega) | (simp; done)
  case rest =>
    obtain ⟨k, rfl, hO⟩ := hcut
    obtain ⟨GA, gc, BA, bc, AA, ac, VA, vc, asked, writes, hK, hgs, has, hws, hT, hkk, hN4, hcap⟩ := hO.out
    have hnotT : ∀ (x : Bool) (w : World), (Op.unary .not (.bool x)).run Tryd.prog w = .ok (.bool (!x)) w := fun _ _ => rfl
    have hml := mostLe s room
    clear hO hmk
    obtain ⟨T1, T2, T3, T4, T5⟩ := hT
    have hr0 : roadOf s.direct false = 0 := by rw [HDIR.out]; rfl
    obtain ⟨K, hbef, hst, hask, hwrt⟩ := T5 hr0
    subst hask
    subst hwrt
    have HK := hide hK; have HAS := hide has; have HWS := hide hws; have HN4 := hide hN4; have HBEF := hide hbef; have HST := hide hst
    have hKd : K ≤ s.data.length := Nat.le_trans (s.pos_ge room m K hm0 hbef) (s.pos_le m K)
    have hll := s.lens_length m (K + 1)
    have hdlt : ∀ ad, DA = some ad → 0 < s.data.length → ad.block < w.heap.size := fun ad e h0 => by
      obtain ⟨ad', e', hb, _⟩ := HD.out.2 h0
      have e2 : ad' = ad := Option.some.inj (e'.symm.trans e)
      subst e2
      exact hb
    have hplt : ∀ ad, PA = some ad → 0 < s.pieces.length → ad.block < w.heap.size := fun ad e h0 => by
      obtain ⟨ad', e', hb, _⟩ := HP.out.2 h0
      have e2 : ad' = ad := Option.some.inj (e'.symm.trans e)
      subst e2
      exact hb
    have HDL := hide hdlt; have HPL := hide hplt
    have hsz4 := hN4.size
    have hmx : imax room 0 = ((room.toNat : Nat) : Int) := by have := imax_toNat room 0; simpa using this
    clear hK hgs has hws hN4 hcap T1 T2 T3 T4 T5 hr0 hml hbef hst hdlt hplt
    simp only [List.length_replicate] at *
    go_wp2_with fail
    have hA0 : ARel wc wc.heap.size s DA PA dc pc room m 0 (.slice (some ⟨wc.heap.size + 1, 0, none⟩) 0 0) (.slice (some ⟨wc.heap.size + 1 + 1, 0, none⟩) 0 0)
        (((wc.alloc (.cells #[.slice DA s.data.length dc, .slice PA s.pieces.length pc, .bool s.together, .bool s.broken, .int .i64 0, .int .i64 0] 37)).alloc (.cells #[] 3)).alloc (.cells #[] 3)) := by
      refine ⟨lit_own 3 1 ((At.made' (by simp) _ _).laid _) (by omega), lit_own 3 1 (At.made' (by simp) _ _) (by omega), ?_, ⟨((At.made _ _ _).laid _).laid _, ((HD.out.new HN4.out).laid _ |>.laid _).laid _, ((HP.out.new HN4.out).laid _ |>.laid _).laid _, fun ad e h0 => ?_, fun ad e h0 => ?_⟩, new_al (new_al (new_alloc _ _) _) _, fun i hi => absurd hi (Nat.not_lt_zero i)⟩
      · intro g hg e
        simp [Value.ownBlock] at hg e
        omega
      · have := HDL.out ad e h0; omega
      · have := HPL.out ad e h0; omega
    have HA0 := hide hA0
    clear hA0
    have hmx2 : max room 0 = (((room.toNat - (s.pos m 0).1 : Nat)) : Int) := by show max room 0 = (((room.toNat - 0 : Nat)) : Int); omega
    generalize hsb : wc.heap.size = sb at *
    have HSB := hide hsb
    clear hsb
    go_loopw [17, 18, 19] (fun v1 v2 l wr => ∃ j : Nat, l = .int .i64 ((room.toNat - (s.pos m j).1 : Nat) : Int) ∧ Hid (ARel wc sb s DA PA dc pc room m j v1 v2 wr)) (fun _ _ l _ => (intOf l).toNat)
    case atStart => exact ⟨0, congrArg (Value.int .i64) hmx2, HA0.out⟩
    case round =>
      clear HA0 hmx2 hmx
      obtain ⟨j, rfl, HA⟩ := hrel
      obtain ⟨V1, e1, rfl, -, -⟩ := Sl.of_own HA.out.asked
      obtain ⟨V2, e2, rfl, -, -⟩ := Sl.of_own HA.out.writes
      have hj1 := s.pos_ge room m j hm0 HA.out.before
      have hj2 := s.pos_le m j
      have hj3 := s.pos_room room m j HA.out.before
      have hj4 := s.lens_length m j
      have hbw := HA.out.new_.size
      go_wp2_with (at_builtin; (with_reducible refine wpList_append_one rfl (.tmp 56) (.tmp 58) 23 rfl wc.heap.size 3 (.int .i64 0) 1 8 Tryd.underlying23 info3 rfl (by decide) _ _ _ rfl HA.out.asked _ _ rfl rfl ?c1 ?c2 ?c3 hbw rfl ?_))
      case c1 => intro u hu; rw [List.mem_singleton.1 hu]; rfl
      case c2 => unfold maxLen; omega
      case c3 => omega
      intro v3 w3 hown3 ht3 hn3
      have hB1 : ∀ g, (Value.slice V1 j e1).ownBlock = some g → sb ≤ g := fun g hg => by have := (HA.out.asked.lt g hg).1; have := HSB.out; omega
      have hsp3 : SRd w3 sb s DA PA dc pc (s.pos m j).1 (s.pos m j).2 := HA.out.spec.turns ht3 (own_ne HA.out.asked HA.out.spec.blk (by decide)) (fun ad e h0 h => by have := HDL.out ad e h0; have := hB1 _ h; have := HSB.out; omega) (fun ad e h0 h => by have := HPL.out ad e h0; have := hB1 _ h; have := HSB.out; omega)
      have hwr3 := own_turns HA.out.writes ht3 (fun g hg h => HA.out.ap g h hg)
      have hap3 : ∀ g, v3.ownBlock = some g → (Value.slice V2 (s.lens m j).length e2).ownBlock ≠ some g := fun g hg e => Near.ne hn3 (HA.out.writes.lt g e).2 (fun e' => HA.out.ap g e' e) hg
      have hnew3 := new_turns HA.out.new_ ht3 (fun g hg => (HA.out.asked.lt g hg).1)
      have hsr := sread_any (z := (m : Int)) hsp3 hj2 hdc hdm (by omega) (by omega) (by omega)
      rw [Int.toNat_natCast] at hsr
      have HSR := hide hsr; have HO3 := hide hown3; have HW3 := hide hwr3; have HAP3 := hide hap3; have HNW3 := hide hnew3; have HSP3 := hide hsp3
      obtain ⟨V3, e3, rfl, -, -⟩ := Sl.of_own hown3
      clear hown3 ht3 hn3 hB1 hsp3 hwr3 hap3 hnew3 hsr
      go_wp2_with fail
      refine HSR.out.mono ?_
      rintro e w4 ⟨v4, rfl, hv4, hb4, ht4⟩
      obtain ⟨V4, e4, rfl, -, -⟩ := Sl.of_own hv4
      have hnew4 : New wc w4 := new_turns HNW3.out ht4 (fun g hg => by have := HSB.out; omega)
      have ha4 : w4.ownsRow wc.heap.size 3 1 (.slice V3 (j + 1) e3) (j + 1) (List.replicate (j + 1) (Value.int .i64 (m : Int))) := by
        rw [rep_snoc]
        exact own_turns HO3.out ht4 (own_i64_ne_spec HO3.out HSP3.out.blk)
      have hw4 := own_turns HW3.out ht4 (own_i64_ne_spec HW3.out HSP3.out.blk)
      have hs4 : SRd w4 sb s DA PA dc pc (s.pos m (j + 1)).1 (s.pos m (j + 1)).2 :=
        ⟨hb4, HSP3.out.data.turns ht4 (fun ad e h0 e2 => HSP3.out.dataNe ad e h0 e2), HSP3.out.pieces.turns ht4 (fun ad e h0 e2 => HSP3.out.piecesNe ad e h0 e2), HSP3.out.dataNe, HSP3.out.piecesNe⟩
      have HA4 := hide ha4; have HW4 := hide hw4; have HS4 := hide hs4; have FNN := hide hnew4
      have epc : s.read (s.pos m j).1 (s.pos m j).2 m = s.piece m j := rfl
      rw [epc]
      have hnle : (s.piece m j).bytes.length ≤ m := s.read_bytes_le _ _ _
      have hpj : (s.pos m (j + 1)).1 = (s.pos m j).1 + (s.piece m j).bytes.length := (s.read_facts (s.pos m j).1 (s.pos m j).2 m hm0 hj2).2.1
      have f3 := (s.read_facts (s.pos m j).1 (s.pos m j).2 m hm0 hj2).2.2.1
      rw [epc] at f3
      have hec := s.endCode_pos
      clear hv4 hb4 ht4 hnew4 ha4 hw4 hs4 epc HSR HO3 HW3 HSP3 HNW3
      by_cases hn : (s.piece m j).bytes.length = 0
      · obtain ⟨g1, g2⟩ := f3 hn
        have hstop : s.stops room m j := .inr (by omega)
        have hlens : s.lens m (j + 1) = s.lens m j := by rw [Src.lens, if_pos hn, List.append_nil]
        have hcc : (((s.piece m j).code : Int) != 0) = true := by simp; omega
        have FB : Hid (Sl w4 1 V3 (j + 1) ((List.replicate (j + 1) (m : Int)).map (Value.int .i64))) := by
          obtain ⟨_, _, e0, _, h⟩ := Sl.of_own HA4.out; cases e0; rw [List.map_replicate]; exact h
        have FD : Hid (Sl w4 1 V2 (s.lens m (j + 1)).length ((s.lens m (j + 1)).map (Value.int .i64))) := by
          rw [hlens]; obtain ⟨_, _, e0, _, h⟩ := Sl.of_own HW4.out; cases e0; exact h
        rw [hn]
        rw [← hlens] at *
        clear hlens f3 g1 g2 hpj hn
        have hKK : K = j := s.stop_one room m K j HBEF.out HST.out HA.out.before hstop
        subst hKK
        have FK := hide (HK.out.new FNN.out)
        have x4 := FK.out.get 4
        have x5 := FK.out.get 5
        have FA := hide (HAS.out.new FNN.out); have FC := hide (HWS.out.new FNN.out)
        have FN := hide (new_trans HN4.out FNN.out)
        clear HK HAS HWS HN4 HBEF HST HA FNN hstop
        have hrl : (List.replicate (K + 1) (m : Int)).length = K + 1 := List.length_replicate
        have HRL := hide hrl
        clear hrl
        go_wp2_with fail
        refine (sameInts_eq (xs := List.replicate (K + 1) (m : Int)) HRL.out FA.out FB.out (by omega)).mono ?_
        rintro e w8 ⟨rfl, q8, rfl⟩
        go_wp2_with fail
        refine (sameInts_eq rfl (by exact FC.out.drawn _) (by exact FD.out.drawn _) (by omega)).mono ?_
        rintro e w9 ⟨rfl, q9, rfl⟩
        go_wp2
        go_ret
        exact ⟨rfl, new_drN FN.out _⟩
      · have hnpos : 0 < (s.piece m j).bytes.length := by omega
        have hlens : s.lens m (j + 1) = s.lens m j ++ [((s.piece m j).bytes.length : Int)] := by rw [Src.lens, if_neg (by omega)]
        have hni : (0 : Int) < ((s.piece m j).bytes.length : Int) := by omega
        have hbw4 := FNN.out.size
        go_wp2_with (at_builtin; (with_reducible refine wpList_append_one rfl (.tmp 68) (.tmp 71) 23 rfl wc.heap.size 3 (.int .i64 0) 1 8 Tryd.underlying23 info3 rfl (by decide) _ _ _ rfl HW4.out _ _ rfl rfl ?d1 ?d2 ?d3 hbw4 rfl ?_))
        case d1 => intro u hu; rw [List.mem_singleton.1 hu]; rfl
        case d2 => unfold maxLen; omega
        case d3 => omega
        intro v5 w5 hown5 ht5 hn5
        have hB2 : ∀ g, (Value.slice V2 (s.lens m j).length e2).ownBlock = some g → sb ≤ g := fun g hg => by have := (HW4.out.lt g hg).1; have := HSB.out; omega
        have hs5 : SRd w5 sb s DA PA dc pc (s.pos m (j + 1)).1 (s.pos m (j + 1)).2 := HS4.out.turns ht5 (own_ne HW4.out HS4.out.blk (by decide)) (fun ad e h0 h => by have := HDL.out ad e h0; have := hB2 _ h; have := HSB.out; omega) (fun ad e h0 h => by have := HPL.out ad e h0; have := hB2 _ h; have := HSB.out; omega)
        have ha5 := own_turns HA4.out ht5 (fun g hg h => HAP3.out g hg h)
        have hap5 : ∀ g, (Value.slice V3 (j + 1) e3).ownBlock = some g → v5.ownBlock ≠ some g := fun g hg => Near.ne hn5 (HA4.out.lt g hg).2 (HAP3.out g hg)
        have hnew5 := new_turns FNN.out ht5 (fun g hg => (HW4.out.lt g hg).1)
        have hw5 : w5.ownsRow wc.heap.size 3 1 v5 (s.lens m (j + 1)).length ((s.lens m (j + 1)).map (Value.int .i64)) := by
          rw [hlens, List.length_append, List.map_append]; exact hown5
        obtain ⟨V5, e5, hv5, -, -⟩ := Sl.of_own hw5
        subst hv5
        have HA5 := hide ha5; have HW5 := hide hw5; have HS5 := hide hs5; have HAP5 := hide hap5
        clear hown5 ht5 hn5 hB2 hs5 ha5 hap5 hw5 HA4 HW4 HS4 HAP3 FNN
        have FNN := hide hnew5
        clear hnew5 f3 hlens hbw4
        have hl5 : (s.lens m (j + 1)).length ≤ j + 1 := s.lens_length m (j + 1)
        have hsub : ((room.toNat - (s.pos m j).1 : Nat) : Int) - ((s.piece m j).bytes.length : Int) = ((room.toNat - (s.pos m j).1 : Nat) : Int) - ((s.piece m j).bytes.length : Int) := rfl
        clear hsub
        have HPJ := hide hpj
        have hat : (s.piece m j).at_ = (s.pos m (j + 1)).1 := rfl
        have FB : Hid (Sl w5 1 V3 (j + 1) ((List.replicate (j + 1) (m : Int)).map (Value.int .i64))) := by
          obtain ⟨_, _, e0, _, h⟩ := Sl.of_own HA5.out; cases e0; rw [List.map_replicate]; exact h
        have FD : Hid (Sl w5 1 V5 (s.lens m (j + 1)).length ((s.lens m (j + 1)).map (Value.int .i64))) := by
          obtain ⟨_, _, e0, _, h⟩ := Sl.of_own HW5.out; cases e0; exact h
        by_cases hshort : room.toNat - (s.pos m j).1 < (s.piece m j).bytes.length
        · have hstop : s.stops room m j := .inl (by omega)
          generalize hnn : (s.piece m j).bytes.length = n at *
          generalize hrr : room.toNat - (s.pos m j).1 = rr at *
          have hsi : (rr : Int) < (n : Int) := by omega
          clear hat hpj HPJ hnn hrr
          have hKK : K = j := s.stop_one room m K j HBEF.out HST.out HA.out.before hstop
          subst hKK
          have FK := hide (HK.out.new FNN.out)
          have x4 := FK.out.get 4
          have x5 := FK.out.get 5
          have FA := hide (HAS.out.new FNN.out); have FC := hide (HWS.out.new FNN.out)
          have FN := hide (new_trans HN4.out FNN.out)
          clear HK HAS HWS HN4 HBEF HST HA FNN hstop
          have hrl : (List.replicate (K + 1) (m : Int)).length = K + 1 := List.length_replicate
          have HRL := hide hrl
          clear hrl
          go_wp2_with fail
          refine (sameInts_eq (xs := List.replicate (K + 1) (m : Int)) HRL.out FA.out FB.out (by omega)).mono ?_
          rintro e w8 ⟨rfl, q8, rfl⟩
          go_wp2_with fail
          refine (sameInts_eq rfl (by exact FC.out.drawn _) (by exact FD.out.drawn _) (by omega)).mono ?_
          rintro e w9 ⟨rfl, q9, rfl⟩
          go_wp2
          go_ret
          exact ⟨rfl, new_drN FN.out _⟩
        · have hgo : ¬ ((room.toNat - (s.pos m j).1 : Nat) : Int) < ((s.piece m j).bytes.length : Int) := by omega
          have hrr2 : room.toNat - (s.pos m (j + 1)).1 = room.toNat - (s.pos m j).1 - (s.piece m j).bytes.length := by omega
          have hle2 : (s.pos m j).1 + (s.piece m j).bytes.length ≤ room.toNat := by omega
          by_cases hc : (s.piece m j).code = 0
          · have hns : ¬ s.stops room m j := by
              intro h
              rcases h with h | h
              · omega
              · exact h hc
            have HNEXT : Hid (ARel wc sb s DA PA dc pc room m (j + 1) (.slice V3 (j + 1) e3) (.slice V5 (s.lens m (j + 1)).length e5) w5) :=
              ⟨HA5.out, HW5.out, HAP5.out, HS5.out, FNN.out, fun i hi => by
                rcases Nat.lt_or_ge i j with h | h
                · exact HA.out.before i h
                · obtain rfl : i = j := by omega
                  exact hns⟩
            have HRR := hide hrr2
            rw [hc]
            clear hns hat hpj HPJ hc hrr2 HA HA5 HW5 HS5 HAP5 FNN FB FD HK HAS HWS HBEF HST
            generalize hnn : (s.piece m j).bytes.length = n at *
            generalize hqq : room.toNat - (s.pos m j).1 = rr at *
            have hnr : n ≤ rr := by omega
            generalize (s.lens m (j + 1)).length = ln at *
            clear hnn
            go_wp2
            go_roundw
            case rel => exact ⟨j + 1, by rw [HRR.out]; exact congrArg (Value.int .i64) (by omega), HNEXT.out⟩
            case measure => simp [intOf]; omega
          · have hstop : s.stops room m j := .inr hc
            have hcc : (((s.piece m j).code : Int) != 0) = true := by simp; omega
            generalize hnn : (s.piece m j).bytes.length = n at *
            generalize hqq : room.toNat - (s.pos m j).1 = rr at *
            generalize (s.piece m j).code = cd at *
            have hnr : n ≤ rr := by omega
            clear hat hpj HPJ hnn hqq hrr2 hle2 hc
            have hKK : K = j := s.stop_one room m K j HBEF.out HST.out HA.out.before hstop
            subst hKK
            have FK := hide (HK.out.new FNN.out)
            have x4 := FK.out.get 4
            have x5 := FK.out.get 5
            have FA := hide (HAS.out.new FNN.out); have FC := hide (HWS.out.new FNN.out)
            have FN := hide (new_trans HN4.out FNN.out)
            clear HK HAS HWS HN4 HBEF HST HA FNN hstop
            have hrl : (List.replicate (K + 1) (m : Int)).length = K + 1 := List.length_replicate
            have HRL := hide hrl
            clear hrl
            go_wp2_with fail
            refine (sameInts_eq (xs := List.replicate (K + 1) (m : Int)) HRL.out FA.out FB.out (by omega)).mono ?_
            rintro e w8 ⟨rfl, q8, rfl⟩
            go_wp2_with fail
            refine (sameInts_eq rfl (by exact FC.out.drawn _) (by exact FD.out.drawn _) (by omega)).mono ?_
            rintro e w9 ⟨rfl, q9, rfl⟩
            go_wp2
            go_ret
            exact ⟨rfl, new_drN FN.out _⟩


theorem fnCopyBufferAsked_walk {w : World} {s : Src} {DA PA : Option Addr} {dc pc : Nat} {room z : Int} {quiet : Bool} {E : Nat → Addr} (hd : Sl w 1 DA s.data.length (s.data.map (Value.int .u8))) (hDn : DA = none → dc = 0) (hdc : s.data.length ≤ dc) (hdm : dc ≤ 9223372036854775807)
    (hp : Sl w 1 PA s.pieces.length (s.pieces.map (Value.int .i64))) (hPn : PA = none → pc = 0) (hdir : s.direct = false) (hr : -9223372036854775808 ≤ room ∧ room ≤ 9223372036854775807) (hE : Env w.heap.size E w) :
    Calls Tryd.prog 4 #[.slice DA s.data.length dc, .slice PA s.pieces.length pc, .bool s.together, .bool s.broken, .int .i64 room, .bool quiet, .int .i64 z] w fun e w' => e = .returned (.bool true) ∧ New w w' := by
  by_cases c1 : s.data.length ≤ 65536
  · by_cases c2 : s.pieces.length ≤ 4096
    · by_cases c3 : 1 ≤ z
      · by_cases c4 : z ≤ 65536
        · obtain ⟨m, rfl⟩ := Int.eq_ofNat_of_zero_le (show 0 ≤ z by omega)
          exact fnCopyBufferAsked_in hd hDn hdc hdm hp hPn hdir hr.1 hr.2 c1 c2 (by omega) (by omega) hE
        · clear hd hDn hp hPn hE hdir
          have c3' : ¬ (z < 1) := by omega
          go_enter Tryd.func4, Tryd.ntmps4
          go_wp2
          go_ret
          exact ⟨rfl, new_refl _⟩
      · clear hd hDn hp hPn hE hdir
        have c3' : z < 1 := by omega
        go_enter Tryd.func4, Tryd.ntmps4
        go_wp2
        go_ret
        exact ⟨rfl, new_refl _⟩
    · clear hd hDn hp hPn hE hdir
      go_enter Tryd.func4, Tryd.ntmps4
      go_wp2
      go_ret
      exact ⟨rfl, new_refl _⟩
  · clear hd hDn hp hPn hE hdir
    go_enter Tryd.func4, Tryd.ntmps4
    go_wp2
    go_ret
    exact ⟨rfl, new_refl _⟩

end Go.Proofs.YtnbhhckempbimaaDoor
