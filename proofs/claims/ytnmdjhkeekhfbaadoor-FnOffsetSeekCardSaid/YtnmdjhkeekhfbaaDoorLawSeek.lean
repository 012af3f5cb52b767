/-
  laws.FnOffsetSeek returns true, whatever the arguments.
-/
import Derived.Test.YtnmdjhkeekhfbaaDoorFew
import Derived.Deep.Cut
namespace Go.Proofs.YtnmdjhkeekhfbaaDoor
open Go.RowKit
set_option linter.unusedVariables false
set_option maxRecDepth 100000

set_option maxHeartbeats 2000000 in
theorem fnOffsetSeek_in {w : World} {base off : Int} {bs : List Int} {ts : List (List Int)} {TA DA : Option Addr} {tc dc : Nat} {E : Nat → Addr} (ht : Tx w TA ts) (hd : Sl w 1 DA bs.length (bs.map (Value.int .u8))) (hDn : DA = none → dc = 0) (hE : Env w.heap.size E w) (hl : ts.length ≤ 1024) (hb0 : 0 ≤ base) (hb1 : base ≤ 1099511627776) (ho0 : 0 ≤ off) (ho1 : off ≤ 1099511627776) (hbl : bs.length ≤ 65536) :
    Calls Tryd.prog 11 #[.int .i64 base, .slice TA ts.length tc, .int .i64 off, .slice DA bs.length dc] w fun e w' => e = .returned (.bool true) ∧ New w w' := by
  have HT := hide ht; have HE := hide hE; have HD := hide hd; have HDN := hide hDn
  clear ht hE hd hDn
  go_enter Tryd.func11, Tryd.ntmps11
  go_wp2
  go_loopw [9, 41] (fun v i wr => ∃ k : Nat, k ≤ ts.length ∧ i = .int .i64 k ∧ Hid (Placed w.heap.size w wr ((ts.take k).map writeP) v) ∧ Hid (New w wr) ∧ Hid (∀ t ∈ ts.take k, t.length ≤ 65536)) (fun _ i _ => ts.length - (intOf i).toNat)
  case atStart => exact ⟨0, Nat.zero_le _, rfl, Placed.nil (At.made _ _ _) (Nat.le_refl _), new_alloc _ _, by intro t h; simp at h⟩
  case round =>
    obtain ⟨k, hk, rfl, HO, HN, HL⟩ := hrel
    obtain ⟨VA, vc, css, rfl, hown, hpa, h4⟩ := HO.out.slice
    have hlen : ((ts.take k).map writeP).length = k := by simp; omega
    rw [hlen] at hown ⊢
    have HOW := hide hown; have HPA := hide hpa; have H4 := hide h4; have HLEN := hide hlen
    clear hown hpa h4 hlen
    by_cases hlt : k < ts.length
    · have hkg : ts[k]? = some ts[k] := List.getElem?_eq_getElem hlt
      obtain ⟨ad, A, c, rfl, hcell, hn, hsl⟩ := HT.out.at_ HN.out hkg
      have hi : (k : Int) < (ts.length : Int) := by omega
      have hi0 : (0 : Int) ≤ (k : Int) := by omega
      have htk := take_writes ts k hlt
      have HTK := hide htk; have HSL := hide hsl; have HNN := hide hn
      have hlall : ts[k].length ≤ 65536 → ∀ t ∈ ts.take (k + 1), t.length ≤ 65536 := fun h t ht => by
        rw [List.take_succ_eq_append_getElem hlt] at ht
        rcases List.mem_append.1 ht with ht | ht
        · exact HL.out t ht
        · rw [List.mem_singleton.1 ht]; exact h
      have HLA := hide hlall
      clear hkg htk hsl hn hlall
      generalize ts[k] = t at *
      by_cases hbig : t.length ≤ 65536
      · have hBw := HN.out.size
        go_wp2_with (at_builtin; (with_reducible refine wpList_append_one rfl (.tmp 50) (.tmp 56) 25 rfl w.heap.size 28 _ 4 48 Tryd.underlying25 infoPlace rfl (by decide) _ _ _ rfl HOW.out _ _ rfl rfl ?c1 ?c2 ?c3 hBw rfl ?_))
        case c1 => intro u hu; simp at hu; rcases hu with rfl | rfl | rfl | rfl <;> rfl
        case c2 => unfold maxLen; omega
        case c3 => omega
        intro v4 w4 hown4 ht4 hn4
        have HO4 : Hid (Placed w.heap.size w w4 ((ts.take (k + 1)).map writeP) v4) := by
          rw [HTK.out]
          exact Placed.more HPA.out H4.out (PlaceAt.write 0 0 0 HSL.out HNN.out) (by rw [HLEN.out]; exact hown4)
        have HN4 : Hid (New w w4) := hide (new_turns HN.out ht4 (fun g hg => (HOW.out.lt g hg).1))
        clear hown4 ht4 hn4
        go_wp2
        go_roundw
        case rel => exact ⟨k + 1, by omega, by go_num, HO4.out, HN4.out, HLA.out hbig⟩
        case measure => simp [intOf]; omega
      · have hbig2 : (65536 : Int) < (t.length : Int) := by omega
        go_wp2
        go_ret
        exact ⟨rfl, HN.out⟩
    · obtain rfl : k = ts.length := by omega
      rw [List.take_length] at HO HL HPA HLEN
      have hall := HL.out
      have htot := tot_le ts hall
      have hrun := seek_run base 1125899906842624 ts bs off (by omega) ho0 (by omega)
      have hqa : PlacesAt w [⟨2, [], off, 0⟩, ⟨0, bs, 0, 0⟩] [[.int .i64 2, .slice none 0 0, .int .i64 off, .int .i64 0], [.int .i64 0, .slice DA bs.length dc, .int .i64 0, .int .i64 0]] := PlacesAt.snoc (PlacesAt.snoc (PlacesAt.nil _) (PlaceAt.seek _ 2 off 0)) (PlaceAt.write 0 0 0 HD.out HDN.out)
      have HR := hide hrun; have HALL := hide hall; have HQA := hide hqa
      have hTb : tot ts ≤ 67108864 := by omega
      clear HO hall hrun htot HL hqa
      have hBw := HN.out.size
      go_wp2_with (at_builtin; (with_reducible refine wpList_append_few rfl (.tmp 59) (.tmp 64) 25 rfl w.heap.size 28 _ 4 48 Tryd.underlying25 infoPlace rfl (by decide) _ _ _ rfl HOW.out 2 [.int .i64 2, .slice none 0 0, .int .i64 off, .int .i64 0, .int .i64 0, .slice DA bs.length dc, .int .i64 0, .int .i64 0] _ rfl rfl ?c1 ?c2 ?c3 hBw rfl ?_))
      case c1 => intro u hu; simp at hu; rcases hu with rfl | rfl | rfl | rfl | rfl | rfl | rfl <;> rfl
      case c2 => unfold maxLen; omega
      case c3 => omega
      intro v4 w4 hown4 ht4
      have HPL : Hid (Placed w.heap.size w w4 (ts.map writeP ++ [⟨2, [], off, 0⟩, ⟨0, bs, 0, 0⟩]) v4) := Placed.many HPA.out H4.out HQA.out (by simp) (by rw [HLEN.out]; rfl) hown4
      have HN4 : Hid (New w w4) := hide (new_turns HN.out ht4 (fun g hg => (HOW.out.lt g hg).1))
      obtain ⟨VB, vd, rfl, -, -⟩ := Sl.of_own hown4
      clear hown4 ht4 HOW HPA H4 HN
      go_wp2_with fail
      refine (offCall (ps := ts.map writeP ++ [⟨2, [], off, 0⟩, ⟨0, bs, 0, 0⟩]) HPL.out HN4.out HE.out (by simp; omega) ?hf (by omega) (by omega) hb0 (by omega)).mono ?_
      case hf =>
        intro p hp
        rcases List.mem_append.1 hp with hp | hp
        · obtain ⟨t, ht, rfl⟩ := List.mem_map.1 hp
          exact ⟨HALL.out t ht, .inr (.inr (by simp [writeP]))⟩
        · simp only [List.mem_cons, List.not_mem_nil, or_false] at hp
          rcases hp with rfl | rfl
          · exact ⟨by simp, .inr (.inr (by simp only; omega))⟩
          · exact ⟨hbl, .inr (.inr (by simp))⟩
      rintro e w2 ⟨MA, mc, CA, cc, css2, rfl, hran, hn⟩
      rw [HR.out] at hran ⊢
      have HN2 := hide (new_trans HN4.out hn)
      have e1 : (ts.map (fun (t : List Int) => (⟨(t.length : Nat), 0⟩ : MovedG)) ++ ([⟨off, 0⟩, ⟨bs.length, 0⟩] : List MovedG)).length = ts.length + 2 := by simp
      have e2 : (callsOf base ts ++ ([⟨off + base, bs⟩] : List CallG)).length = ts.length + 1 := by simp [callsOf_length]
      simp only [e1, e2] at hran ⊢
      have m0 : (ts.map (fun (t : List Int) => (⟨(t.length : Nat), 0⟩ : MovedG)) ++ ([⟨off, 0⟩, ⟨bs.length, 0⟩] : List MovedG))[ts.length]? = some ⟨off, 0⟩ := by rw [List.getElem?_append_right (by simp)]; simp
      have m1 : (ts.map (fun (t : List Int) => (⟨(t.length : Nat), 0⟩ : MovedG)) ++ ([⟨off, 0⟩, ⟨bs.length, 0⟩] : List MovedG))[ts.length + 1]? = some ⟨bs.length, 0⟩ := by rw [List.getElem?_append_right (by simp)]; simp
      have k0 : (callsOf base ts ++ ([⟨off + base, bs⟩] : List CallG))[ts.length]? = some ⟨off + base, bs⟩ := by rw [List.getElem?_append_right (by rw [callsOf_length]; exact Nat.le_refl _), callsOf_length]; simp
      obtain ⟨g, c, e3, hc1, hc2, hg, hm⟩ := hran.mrow (by rw [e1]; omega)
      rw [e1] at e3 hc1
      cases e3
      obtain ⟨x0, x1⟩ := hm _ _ m0
      obtain ⟨x2, x3⟩ := hm _ _ m1
      obtain ⟨g2, c2, e3, hc21, hc22, hg2, hm2⟩ := hran.crow (by rw [e2]; omega)
      rw [e2] at e3 hc21
      cases e3
      obtain ⟨CB, d, z0, z1, hsA⟩ := hm2 _ _ k0
      have HSA := hide hsA
      have HRAN := hide hran
      clear hran hn HPL hm hm2 m0 m1 k0 e1 e2 hsA
      have hneq : (((ts.length + 2 : Nat) : Int) != ((ts.length + 2 : Nat) : Int)) = false := by simp
      have hi0 : (0 : Int) ≤ (ts.length : Int) := by omega
      have hi1 : (ts.length : Int) < ((ts.length + 2 : Nat) : Int) := by omega
      have hi2 : (ts.length : Int) < ((ts.length + 1 : Nat) : Int) := by omega
      have hi3 : (ts.length : Int) + 1 < ((ts.length + 2 : Nat) : Int) := by omega
      go_upto_region 16 with (fail)
      have HN5 := hide (new_al HN2.out (.cells #[.int .i64 (off + base), .slice CB bs.length d] 34))
      have hK : At (w2.alloc (.cells #[.int .i64 (off + base), .slice CB bs.length d] 34)) w2.heap.size 34 #[.int .i64 (off + base), .slice CB bs.length d] := At.made _ _ _
      have y0 := (new_alloc w2 (.cells #[.int .i64 (off + base), .slice CB bs.length d] 34)).cell (p := ⟨g, ts.length * 2, none⟩) hg |>.trans x0
      have y1 := (new_alloc w2 (.cells #[.int .i64 (off + base), .slice CB bs.length d] 34)).cell (p := ⟨g, ts.length * 2 + 1, none⟩) hg |>.trans x1
      have y2 := (new_alloc w2 (.cells #[.int .i64 (off + base), .slice CB bs.length d] 34)).cell (p := ⟨g, (ts.length + 1) * 2, none⟩) hg |>.trans x2
      have HSB := hide (HSA.out.laid (.cells #[.int .i64 (off + base), .slice CB bs.length d] 34))
      have HDB := hide (HD.out.new HN5.out)
      generalize w2.alloc (.cells #[.int .i64 (off + base), .slice CB bs.length d] 34) = w5 at *
      generalize w2.heap.size = K at *
      have b0 := hK.get 0
      have b1 := hK.get 1
      have s1 : IntKind.i64.wrap (base + off) = base + off := IntWalk.i64_in _ (by omega)
      have q1 : (off + base == base + off) = true := by simp; omega
      clear x0 x1 x2 x3 z0 z1 HSA HRAN hK
      go_wp2_with fail
      refine (sameBytes_eq rfl HSB.out HDB.out (by omega)).mono ?_
      rintro e w6 ⟨rfl, q, rfl⟩
      go_wp2
      go_ret
      exact ⟨rfl, new_drN HN5.out q⟩

theorem fnOffsetSeek_walk {w : World} {base off : Int} {bs : List Int} {ts : List (List Int)} {TA DA : Option Addr} {tc dc : Nat} {E : Nat → Addr} (ht : Tx w TA ts) (hd : Sl w 1 DA bs.length (bs.map (Value.int .u8))) (hDn : DA = none → dc = 0) (hE : Env w.heap.size E w) :
    Calls Tryd.prog 11 #[.int .i64 base, .slice TA ts.length tc, .int .i64 off, .slice DA bs.length dc] w fun e w' => e = .returned (.bool true) ∧ New w w' := by
  by_cases c0 : ts.length ≤ 1024
  · by_cases c1 : 0 ≤ base
    · by_cases c2 : base ≤ 1099511627776
      · by_cases c3 : 0 ≤ off
        · by_cases c4 : off ≤ 1099511627776
          · by_cases c5 : bs.length ≤ 65536
            · exact fnOffsetSeek_in ht hd hDn hE c0 c1 c2 c3 c4 c5
            · clear ht hd hDn hE
              go_enter Tryd.func11, Tryd.ntmps11
              go_wp2
              go_ret
              exact ⟨rfl, new_refl _⟩
          · clear ht hd hDn hE
            go_enter Tryd.func11, Tryd.ntmps11
            go_wp2
            go_ret
            exact ⟨rfl, new_refl _⟩
        · clear ht hd hDn hE
          go_enter Tryd.func11, Tryd.ntmps11
          go_wp2
          go_ret
          exact ⟨rfl, new_refl _⟩
      · clear ht hd hDn hE
        go_enter Tryd.func11, Tryd.ntmps11
        go_wp2
        go_ret
        exact ⟨rfl, new_refl _⟩
    · clear ht hd hDn hE
      go_enter Tryd.func11, Tryd.ntmps11
      go_wp2
      go_ret
      exact ⟨rfl, new_refl _⟩
  · clear ht hd hDn hE
    go_enter Tryd.func11, Tryd.ntmps11
    go_wp2
    go_ret
    exact ⟨rfl, new_refl _⟩

end Go.Proofs.YtnmdjhkeekhfbaaDoor
