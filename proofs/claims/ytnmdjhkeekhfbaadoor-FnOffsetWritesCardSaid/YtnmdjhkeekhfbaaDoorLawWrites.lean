/-
  laws.FnOffsetWrites returns true, whatever the arguments.
-/
import Derived.Test.YtnmdjhkeekhfbaaDoorWritesG
namespace Go.Proofs.YtnmdjhkeekhfbaaDoor
open Go.RowKit
set_option linter.unusedVariables false
set_option maxRecDepth 100000

set_option maxHeartbeats 2000000 in
theorem fnOffsetWrites_in {w : World} {base : Int} {ts : List (List Int)} {TA : Option Addr} {tc : Nat} {E : Nat → Addr} (ht : Tx w TA ts) (hE : Env w.heap.size E w) (hl : ts.length ≤ 1024) (hb0 : 0 ≤ base) (hb1 : base ≤ 1099511627776) :
    Calls Tryd.prog 13 #[.int .i64 base, .slice TA ts.length tc] w fun e w' => e = .returned (.bool true) ∧ New w w' := by
  have HT := hide ht; have HE := hide hE
  clear ht hE
  go_enter Tryd.func13, Tryd.ntmps13
  go_wp2
  go_loopw [5, 25] (fun v i wr => ∃ k : Nat, k ≤ ts.length ∧ i = .int .i64 k ∧ Hid (Placed w.heap.size w wr ((ts.take k).map writeP) v) ∧ Hid (New w wr) ∧ Hid (∀ t ∈ ts.take k, t.length ≤ 65536)) (fun _ i _ => ts.length - (intOf i).toNat)
  case atStart => exact ⟨0, Nat.zero_le _, rfl, Placed.nil (At.made _ _ _) (Nat.le_refl _), new_alloc _ _, by intro t h; simp at h⟩
  case round =>
    obtain ⟨k, hk, rfl, HO, HN, HL⟩ := hrel
    obtain ⟨VA, vc, css, rfl, hown, hpa, h4⟩ := HO.out.slice
    have hlen : ((ts.take k).map writeP).length = k := by simp; omega
    rw [hlen] at hown ⊢
    have HOW := hide hown; have HPA := hide hpa; have H4 := hide h4; have HLEN := hide hlen
    clear hown hpa h4 hlen
    by_cases hlt : k < ts.length
    · have hkg : ts[k]? = some ts[k] := List.getElem?_eq_getElem hlt
      obtain ⟨ad, A, c, rfl, hcell, hn, hsl⟩ := HT.out.at_ HN.out hkg
      have hi : (k : Int) < (ts.length : Int) := by omega
      have hi0 : (0 : Int) ≤ (k : Int) := by omega
      have htk := take_writes ts k hlt
      have HTK := hide htk; have HSL := hide hsl; have HNN := hide hn
      have hlall : ts[k].length ≤ 65536 → ∀ t ∈ ts.take (k + 1), t.length ≤ 65536 := fun h t ht => by
        rw [List.take_succ_eq_append_getElem hlt] at ht
        rcases List.mem_append.1 ht with ht | ht
        · exact HL.out t ht
        · rw [List.mem_singleton.1 ht]; exact h
      have HLA := hide hlall
      clear hkg htk hsl hn hlall
      generalize ts[k] = t at *
      by_cases hbig : t.length ≤ 65536
      · have hBw := HN.out.size
        go_wp2_with (at_builtin; (with_reducible refine wpList_append_one rfl (.tmp 34) (.tmp 40) 25 rfl w.heap.size 28 _ 4 48 Tryd.underlying25 infoPlace rfl (by decide) _ _ _ rfl HOW.out _ _ rfl rfl ?c1 ?c2 ?c3 hBw rfl ?_))
        case c1 => intro u hu; simp at hu; rcases hu with rfl | rfl | rfl | rfl <;> rfl
        case c2 => unfold maxLen; omega
        case c3 => omega
        intro v4 w4 hown4 ht4 hn4
        have HO4 : Hid (Placed w.heap.size w w4 ((ts.take (k + 1)).map writeP) v4) := by
          rw [HTK.out]
          exact Placed.more HPA.out H4.out (PlaceAt.write 0 0 0 HSL.out HNN.out) (by rw [HLEN.out]; exact hown4)
        have HN4 : Hid (New w w4) := hide (new_turns HN.out ht4 (fun g hg => (HOW.out.lt g hg).1))
        clear hown4 ht4 hn4
        go_wp2
        go_roundw
        case rel => exact ⟨k + 1, by omega, by go_num, HO4.out, HN4.out, HLA.out hbig⟩
        case measure => simp [intOf]; omega
      · have hbig2 : (65536 : Int) < (t.length : Int) := by omega
        go_wp2
        go_ret
        exact ⟨rfl, HN.out⟩
    · obtain rfl : k = ts.length := by omega
      rw [List.take_length] at HO HL HPA HLEN
      have hall := HL.out
      have htot := tot_le ts hall
      have hrun := writes_run base 1125899906842624 ts (by omega)
      have HR := hide hrun; have HALL := hide hall; have HTOT := hide htot
      have HPL : Hid (Placed w.heap.size w wr (ts.map writeP) (.slice VA ts.length vc)) := by
        have h := HO.out
        rw [HLEN.out] at h
        exact h
      clear HO hall hrun htot HOW HPA H4 HL
      go_wp2_with fail
      refine (offCall (ps := ts.map writeP) HPL.out HN.out HE.out (by simp; omega) ?hf (by omega) (by omega) hb0 (by omega)).mono ?_
      case hf =>
        intro p hp
        obtain ⟨t, ht, rfl⟩ := List.mem_map.1 hp
        exact ⟨HALL.out t ht, .inr (.inr (by simp [writeP]))⟩
      rintro e w2 ⟨MA, mc, CA, cc, css2, rfl, hran, hn⟩
      rw [HR.out] at hran ⊢
      have HN2 := hide (new_trans HN.out hn)
      simp only [List.length_map, callsOf_length] at hran ⊢
      have HRAN := hide hran
      clear hran hn HPL
      generalize wr.heap.size = HB0 at *
      have hneq : ((ts.length : Int) != (ts.length : Int)) = false := by simp
      go_wp2
      go_loopw [6, 63] (fun v i wr => ∃ j : Nat, j ≤ ts.length ∧ i = .int .i64 j ∧ v = .int .i64 (tot (ts.take j) : Nat) ∧ Hid (Ran HB0 wr (ts.map (fun t => ⟨(t.length : Nat), 0⟩)) (callsOf base ts) (.slice MA ts.length mc) (.slice CA ts.length cc) css2) ∧ Hid (New w wr)) (fun _ i _ => ts.length - (intOf i).toNat)
      case atStart => exact ⟨0, Nat.zero_le _, rfl, rfl, HRAN.out, HN2.out⟩
      case round =>
        clear HRAN HN2
        obtain ⟨j, hj, rfl, rfl, HRAN, HN2⟩ := hrel
        by_cases hlt3 : j < ts.length
        · have hkg : ts[j]? = some ts[j] := List.getElem?_eq_getElem hlt3
          obtain ⟨ad, A, c, rfl, hcell, hn, hsl⟩ := HT.out.at_ HN2.out hkg
          obtain ⟨g, mc', e1, hc1, hc2, hg, hm⟩ := HRAN.out.mrow (by simp; omega)
          simp only [List.length_map] at e1 hc1
          cases e1
          obtain ⟨x0, x1⟩ := hm j ⟨ts[j].length, 0⟩ (by rw [List.getElem?_map, hkg]; rfl)
          obtain ⟨g2, cc', e1, hc21, hc22, hg2, hm2⟩ := HRAN.out.crow (by rw [callsOf_length]; omega)
          simp only [callsOf_length] at e1 hc21
          cases e1
          obtain ⟨CB, d, z0, z1, hsA⟩ := hm2 j ⟨base + (tot (ts.take j) : Nat), ts[j]⟩ (by rw [callsOf_get, hkg]; rfl)
          have htj := tot_take ts j hlt3
          have htle := tot_take_le ts (j + 1)
          have htb := HTOT.out
          have htbig := HALL.out ts[j] (List.getElem_mem hlt3)
          have hi : (j : Int) < (ts.length : Int) := by omega
          have hi0 : (0 : Int) ≤ (j : Int) := by omega
          have HSA := hide hsA; have HSL := hide (hsl.new HN2.out)
          clear hm hm2 hkg hn hsl hsA
          generalize ts[j] = t at *
          have HTJ := hide htj
          generalize htt : tot (ts.take j) = T at *
          have s1 : IntKind.i64.wrap (base + (T : Int)) = base + (T : Int) := IntWalk.i64_in _ (by omega)
          have n1 : ((base + (T : Int)) != (base + (T : Int))) = false := by simp
          have n2 : ((t.length : Int) != (t.length : Int)) = false := by simp
          have hnotT : ∀ (x : Bool) (w : World), (Op.unary .not (.bool x)).run Tryd.prog w = .ok (.bool (!x)) w := fun _ _ => rfl
          have hTb : T + t.length ≤ 67108864 := by omega
          clear htt htj
          go_wp2_with fail
          go_quiet (first | (go_at_call 15; refine Calls.quiet_of (sameBytes_eq rfl (by exact HSA.out.drawn _) (by exact HSL.out.drawn _) (by omega))))
          rename Nat => q9
          go_wp2
          go_roundw
          case rel => exact ⟨j + 1, by omega, by go_num, by rw [HTJ.out]; go_num, HRAN.out.new (new_drN (new_refl _) _), new_drN HN2.out _⟩
          case measure => simp [intOf]; omega
        · go_wp2
          go_ret
          exact ⟨rfl, HN2.out⟩

theorem fnOffsetWrites_walk {w : World} {base : Int} {ts : List (List Int)} {TA : Option Addr} {tc : Nat} {E : Nat → Addr} (ht : Tx w TA ts) (hE : Env w.heap.size E w) :
    Calls Tryd.prog 13 #[.int .i64 base, .slice TA ts.length tc] w fun e w' => e = .returned (.bool true) ∧ New w w' := by
  by_cases c0 : ts.length ≤ 1024
  · by_cases c1 : 0 ≤ base
    · by_cases c2 : base ≤ 1099511627776
      · exact fnOffsetWrites_in ht hE c0 c1 c2
      · clear ht hE
        go_enter Tryd.func13, Tryd.ntmps13
        go_wp2
        go_ret
        exact ⟨rfl, new_refl _⟩
    · clear ht hE
      go_enter Tryd.func13, Tryd.ntmps13
      go_wp2
      go_ret
      exact ⟨rfl, new_refl _⟩
  · clear ht hE
    go_enter Tryd.func13, Tryd.ntmps13
    go_wp2
    go_ret
    exact ⟨rfl, new_refl _⟩

end Go.Proofs.YtnmdjhkeekhfbaaDoor
