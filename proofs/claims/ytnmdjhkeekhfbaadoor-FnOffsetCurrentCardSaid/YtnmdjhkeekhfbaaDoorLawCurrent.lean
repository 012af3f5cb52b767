/-
  laws.FnOffsetCurrent returns true, whatever the arguments.
-/
import Derived.Test.YtnmdjhkeekhfbaaDoorFew
import Derived.Deep.Cut
namespace Go.Proofs.YtnmdjhkeekhfbaaDoor
open Go.RowKit
set_option linter.unusedVariables false
set_option maxRecDepth 100000

set_option maxHeartbeats 2000000 in
theorem fnOffsetCurrent_in {w : World} {base off : Int} {bs : List Int} {ts : List (List Int)} {TA DA : Option Addr} {tc dc : Nat} {E : Nat → Addr} (ht : Tx w TA ts) (hd : Sl w 1 DA bs.length (bs.map (Value.int .u8))) (hDn : DA = none → dc = 0) (hE : Env w.heap.size E w) (hl : ts.length ≤ 1024) (hb0 : 0 ≤ base) (hb1 : base ≤ 1099511627776) (ho0 : 0 ≤ off) (ho1 : off ≤ 1099511627776) (hbl : bs.length ≤ 65536) :
    Calls Tryd.prog 7 #[.int .i64 base, .slice TA ts.length tc, .int .i64 off, .slice DA bs.length dc] w fun e w' => e = .returned (.bool true) ∧ New w w' := by
  have HT := hide ht; have HE := hide hE; have HD := hide hd; have HDN := hide hDn
  clear ht hE hd hDn
  go_enter Tryd.func7, Tryd.ntmps7
  go_wp2
  go_loopw [9, 10, 42] (fun v y i wr => ∃ k : Nat, k ≤ ts.length ∧ i = .int .i64 k ∧ y = .int .i64 (tot (ts.take k) : Nat) ∧ Hid (Placed w.heap.size w wr ((ts.take k).map writeP) v) ∧ Hid (New w wr) ∧ Hid (∀ t ∈ ts.take k, t.length ≤ 65536)) (fun _ _ i _ => ts.length - (intOf i).toNat)
  case atStart => exact ⟨0, Nat.zero_le _, rfl, by simp [tot], Placed.nil (At.made _ _ _) (Nat.le_refl _), new_alloc _ _, by intro t h; simp at h⟩
  case round =>
    obtain ⟨k, hk, rfl, rfl, HO, HN, HL⟩ := hrel
    obtain ⟨VA, vc, css, rfl, hown, hpa, h4⟩ := HO.out.slice
    have hlen : ((ts.take k).map writeP).length = k := by simp; omega
    rw [hlen] at hown ⊢
    have HOW := hide hown; have HPA := hide hpa; have H4 := hide h4; have HLEN := hide hlen
    clear hown hpa h4 hlen
    by_cases hlt : k < ts.length
    · have hkg : ts[k]? = some ts[k] := List.getElem?_eq_getElem hlt
      obtain ⟨ad, A, c, rfl, hcell, hn, hsl⟩ := HT.out.at_ HN.out hkg
      have hi : (k : Int) < (ts.length : Int) := by omega
      have hi0 : (0 : Int) ≤ (k : Int) := by omega
      have htk := take_writes ts k hlt
      have HKG := hide hkg
      have HTK := hide htk; have HSL := hide hsl; have HNN := hide hn
      have hlall : ts[k].length ≤ 65536 → ∀ t ∈ ts.take (k + 1), t.length ≤ 65536 := fun h t ht => by
        rw [List.take_succ_eq_append_getElem hlt] at ht
        rcases List.mem_append.1 ht with ht | ht
        · exact HL.out t ht
        · rw [List.mem_singleton.1 ht]; exact h
      have HLA := hide hlall
      have htj := tot_take ts k hlt
      have htb0 := tot_le (ts.take k) HL.out
      have htb1 : (ts.take k).length ≤ 1024 := by rw [List.length_take]; omega
      have htb : tot (ts.take k) ≤ 67108864 := by omega
      have HTJ := hide htj
      clear htj htb0 htb1
      clear hkg htk hsl hn hlall
      generalize ts[k] = t at *
      generalize tot (ts.take k) = T at *
      by_cases hbig : t.length ≤ 65536
      · have hBw := HN.out.size
        go_wp2_with (at_builtin; (with_reducible refine wpList_append_one rfl (.tmp 51) (.tmp 57) 25 rfl w.heap.size 28 _ 4 48 Tryd.underlying25 infoPlace rfl (by decide) _ _ _ rfl HOW.out _ _ rfl rfl ?c1 ?c2 ?c3 hBw rfl ?_))
        case c1 => intro u hu; simp at hu; rcases hu with rfl | rfl | rfl | rfl <;> rfl
        case c2 => unfold maxLen; omega
        case c3 => omega
        intro v4 w4 hown4 ht4 hn4
        have HO4 : Hid (Placed w.heap.size w w4 ((ts.take (k + 1)).map writeP) v4) := by
          rw [HTK.out]
          exact Placed.more HPA.out H4.out (PlaceAt.write 0 0 0 HSL.out HNN.out) (by rw [HLEN.out]; exact hown4)
        have HN4 : Hid (New w w4) := hide (new_turns HN.out ht4 (fun g hg => (HOW.out.lt g hg).1))
        obtain ⟨ad2, A2, c2, hea, hcell2, -, -⟩ := HT.out.at_ HN4.out HKG.out
        cases hea
        have hcs : c2 = c2 := rfl
        clear hcell hcs
        clear hown4 ht4 hn4
        go_wp2
        go_roundw
        case rel => exact ⟨k + 1, by omega, by go_num, by rw [HTJ.out]; go_num, HO4.out, HN4.out, HLA.out hbig⟩
        case measure => simp [intOf]; omega
      · have hbig2 : (65536 : Int) < (t.length : Int) := by omega
        go_wp2
        go_ret
        exact ⟨rfl, HN.out⟩
    · obtain rfl : k = ts.length := by omega
      rw [List.take_length] at HO HL HPA HLEN ⊢
      have hall := HL.out
      have htot := tot_le ts hall
      have hrun := current_run base 1125899906842624 ts bs off (by omega) ho0 (by omega)
      have hqa : PlacesAt w [⟨2, [], off, 1⟩, ⟨0, bs, 0, 0⟩, ⟨2, [], -(tot ts : Nat) - off - (bs.length : Nat), 1⟩] [[.int .i64 2, .slice none 0 0, .int .i64 off, .int .i64 1], [.int .i64 0, .slice DA bs.length dc, .int .i64 0, .int .i64 0], [.int .i64 2, .slice none 0 0, .int .i64 (-(tot ts : Nat) - off - (bs.length : Nat)), .int .i64 1]] := PlacesAt.snoc (PlacesAt.snoc (PlacesAt.snoc (PlacesAt.nil _) (PlaceAt.seek _ 2 off 1)) (PlaceAt.write 0 0 0 HD.out HDN.out)) (PlaceAt.seek _ 2 (-(tot ts : Nat) - off - (bs.length : Nat)) 1)
      have HR := hide hrun; have HALL := hide hall; have HQA := hide hqa
      have hTb : tot ts ≤ 67108864 := by omega
      clear HO hall hrun htot HL hqa
      generalize tot ts = T at *
      have s1 : IntKind.i64.wrap (-(T : Int)) = -(T : Int) := IntWalk.i64_in _ (by omega)
      have s2 : IntKind.i64.wrap (-(T : Int) - off) = -(T : Int) - off := IntWalk.i64_in _ (by omega)
      have s3 : IntKind.i64.wrap (-(T : Int) - off - (bs.length : Int)) = -(T : Int) - off - (bs.length : Int) := IntWalk.i64_in _ (by omega)
      have hBw := HN.out.size
      go_wp2_with (at_builtin; (with_reducible refine wpList_append_few rfl (.tmp 67) (.tmp 80) 25 rfl w.heap.size 28 _ 4 48 Tryd.underlying25 infoPlace rfl (by decide) _ _ _ rfl HOW.out 3 [.int .i64 2, .slice none 0 0, .int .i64 off, .int .i64 1, .int .i64 0, .slice DA bs.length dc, .int .i64 0, .int .i64 0, .int .i64 2, .slice none 0 0, .int .i64 (-(T : Int) - off - (bs.length : Nat)), .int .i64 1] _ rfl rfl ?c1 ?c2 ?c3 hBw rfl ?_))
      case c1 => intro u hu; simp at hu; rcases hu with rfl | rfl | rfl | rfl | rfl | rfl | rfl | rfl | rfl | rfl | rfl <;> rfl
      case c2 => unfold maxLen; omega
      case c3 => omega
      intro v4 w4 hown4 ht4
      have HPL : Hid (Placed w.heap.size w w4 (ts.map writeP ++ [⟨2, [], off, 1⟩, ⟨0, bs, 0, 0⟩, ⟨2, [], -(T : Int) - off - (bs.length : Nat), 1⟩]) v4) := Placed.many HPA.out H4.out HQA.out (by simp) (by rw [HLEN.out]; rfl) hown4
      have HN4 : Hid (New w w4) := hide (new_turns HN.out ht4 (fun g hg => (HOW.out.lt g hg).1))
      obtain ⟨VB, vd, rfl, -, -⟩ := Sl.of_own hown4
      clear hown4 ht4 HOW HPA H4 HN
      go_wp2_with fail
      refine (offCall (ps := ts.map writeP ++ [⟨2, [], off, 1⟩, ⟨0, bs, 0, 0⟩, ⟨2, [], -(T : Int) - off - (bs.length : Nat), 1⟩]) HPL.out HN4.out HE.out (by simp; omega) ?hf (by omega) (by omega) hb0 (by omega)).mono ?_
      case hf =>
        intro p hp
        rcases List.mem_append.1 hp with hp | hp
        · obtain ⟨t, ht, rfl⟩ := List.mem_map.1 hp
          exact ⟨HALL.out t ht, .inr (.inr (by simp [writeP]))⟩
        · simp only [List.mem_cons, List.not_mem_nil, or_false] at hp
          rcases hp with rfl | rfl | rfl
          · exact ⟨by simp, .inr (.inr (by simp only; omega))⟩
          · exact ⟨hbl, .inr (.inr (by simp))⟩
          · exact ⟨by simp, .inr (.inr (by simp only; omega))⟩
      rintro e w2 ⟨MA, mc, CA, cc, css2, rfl, hran, hn⟩
      rw [HR.out] at hran ⊢
      have HN2 := hide (new_trans HN4.out hn)
      have e1 : (ts.map (fun (t : List Int) => (⟨(t.length : Nat), 0⟩ : MovedG)) ++ ([⟨(T : Int) + off, 0⟩, ⟨bs.length, 0⟩, ⟨0, 0⟩] : List MovedG)).length = ts.length + 3 := by simp
      have e2 : (callsOf base ts ++ ([⟨base + (T : Int) + off, bs⟩] : List CallG)).length = ts.length + 1 := by simp [callsOf_length]
      simp only [e1, e2] at hran ⊢
      have m0 : (ts.map (fun (t : List Int) => (⟨(t.length : Nat), 0⟩ : MovedG)) ++ ([⟨(T : Int) + off, 0⟩, ⟨bs.length, 0⟩, ⟨0, 0⟩] : List MovedG))[ts.length]? = some ⟨(T : Int) + off, 0⟩ := by rw [List.getElem?_append_right (by simp)]; simp
      have m1 : (ts.map (fun (t : List Int) => (⟨(t.length : Nat), 0⟩ : MovedG)) ++ ([⟨(T : Int) + off, 0⟩, ⟨bs.length, 0⟩, ⟨0, 0⟩] : List MovedG))[ts.length + 1]? = some ⟨bs.length, 0⟩ := by rw [List.getElem?_append_right (by simp)]; simp
      have m2 : (ts.map (fun (t : List Int) => (⟨(t.length : Nat), 0⟩ : MovedG)) ++ ([⟨(T : Int) + off, 0⟩, ⟨bs.length, 0⟩, ⟨0, 0⟩] : List MovedG))[ts.length + 2]? = some ⟨0, 0⟩ := by rw [List.getElem?_append_right (by simp)]; simp
      have k0 : (callsOf base ts ++ ([⟨base + (T : Int) + off, bs⟩] : List CallG))[ts.length]? = some ⟨base + (T : Int) + off, bs⟩ := by rw [List.getElem?_append_right (by rw [callsOf_length]; exact Nat.le_refl _), callsOf_length]; simp
      obtain ⟨g, c, e3, hc1, hc2, hg, hm⟩ := hran.mrow (by rw [e1]; omega)
      rw [e1] at e3 hc1
      cases e3
      obtain ⟨x0, x1⟩ := hm _ _ m0
      obtain ⟨x2, x3⟩ := hm _ _ m1
      obtain ⟨x4, x5⟩ := hm _ _ m2
      obtain ⟨g2, c2, e3, hc21, hc22, hg2, hm2⟩ := hran.crow (by rw [e2]; omega)
      rw [e2] at e3 hc21
      cases e3
      obtain ⟨CB, d, z0, z1, hsA⟩ := hm2 _ _ k0
      have HSA := hide hsA
      have HRAN := hide hran
      clear hran hn HPL hm hm2 m0 m1 k0 e1 e2 hsA m2
      have hneq : (((ts.length + 3 : Nat) : Int) != ((ts.length + 3 : Nat) : Int)) = false := by simp
      have hi0 : (0 : Int) ≤ (ts.length : Int) := by omega
      have hi1 : (ts.length : Int) < ((ts.length + 3 : Nat) : Int) := by omega
      have hi2 : (ts.length : Int) < ((ts.length + 1 : Nat) : Int) := by omega
      have hi3 : (ts.length : Int) + 2 < ((ts.length + 3 : Nat) : Int) := by omega
      go_upto_region 17 with (fail)
      have HN5 := hide (new_al HN2.out (.cells #[.int .i64 0, .int .i64 0] 38))
      have hK : At (w2.alloc (.cells #[.int .i64 0, .int .i64 0] 38)) w2.heap.size 38 #[.int .i64 0, .int .i64 0] := At.made _ _ _
      have y0 := (new_alloc w2 (.cells #[.int .i64 0, .int .i64 0] 38)).cell (p := ⟨g, ts.length * 2, none⟩) hg |>.trans x0
      have y1 := (new_alloc w2 (.cells #[.int .i64 0, .int .i64 0] 38)).cell (p := ⟨g, ts.length * 2 + 1, none⟩) hg |>.trans x1
      have y2 := (new_alloc w2 (.cells #[.int .i64 0, .int .i64 0] 38)).cell (p := ⟨g2, ts.length * 2, none⟩) hg2 |>.trans z0
      generalize w2.alloc (.cells #[.int .i64 0, .int .i64 0] 38) = w5 at *
      generalize w2.heap.size = K at *
      have b0 := hK.get 0
      have b1 := hK.get 1
      have s4 : IntKind.i64.wrap ((T : Int) + off) = (T : Int) + off := IntWalk.i64_in _ (by omega)
      have s5 : IntKind.i64.wrap (base + (T : Int)) = base + (T : Int) := IntWalk.i64_in _ (by omega)
      have s6 : IntKind.i64.wrap (base + (T : Int) + off) = base + (T : Int) + off := IntWalk.i64_in _ (by omega)
      clear x0 x1 x2 x3 x4 x5 z0 z1 HSA HRAN hK
      go_wp2
      go_ret
      exact ⟨rfl, HN5.out⟩

theorem fnOffsetCurrent_walk {w : World} {base off : Int} {bs : List Int} {ts : List (List Int)} {TA DA : Option Addr} {tc dc : Nat} {E : Nat → Addr} (ht : Tx w TA ts) (hd : Sl w 1 DA bs.length (bs.map (Value.int .u8))) (hDn : DA = none → dc = 0) (hE : Env w.heap.size E w) :
    Calls Tryd.prog 7 #[.int .i64 base, .slice TA ts.length tc, .int .i64 off, .slice DA bs.length dc] w fun e w' => e = .returned (.bool true) ∧ New w w' := by
  by_cases c0 : ts.length ≤ 1024
  · by_cases c1 : 0 ≤ base
    · by_cases c2 : base ≤ 1099511627776
      · by_cases c3 : 0 ≤ off
        · by_cases c4 : off ≤ 1099511627776
          · by_cases c5 : bs.length ≤ 65536
            · exact fnOffsetCurrent_in ht hd hDn hE c0 c1 c2 c3 c4 c5
            · clear ht hd hDn hE
              go_enter Tryd.func7, Tryd.ntmps7
              go_wp2
              go_ret
              exact ⟨rfl, new_refl _⟩
          · clear ht hd hDn hE
            go_enter Tryd.func7, Tryd.ntmps7
            go_wp2
            go_ret
            exact ⟨rfl, new_refl _⟩
        · clear ht hd hDn hE
          go_enter Tryd.func7, Tryd.ntmps7
          go_wp2
          go_ret
          exact ⟨rfl, new_refl _⟩
      · clear ht hd hDn hE
        go_enter Tryd.func7, Tryd.ntmps7
        go_wp2
        go_ret
        exact ⟨rfl, new_refl _⟩
    · clear ht hd hDn hE
      go_enter Tryd.func7, Tryd.ntmps7
      go_wp2
      go_ret
      exact ⟨rfl, new_refl _⟩
  · clear ht hd hDn hE
    go_enter Tryd.func7, Tryd.ntmps7
    go_wp2
    go_ret
    exact ⟨rfl, new_refl _⟩

end Go.Proofs.YtnmdjhkeekhfbaaDoor
