/-
  laws.FnOuter returns true, whatever the data, the numbers and the sizes.
-/
import Derived.Test.YtpcndmemfjnfaaaDoorOuter
namespace Go.Proofs.YtpcndmemfjnfaaaDoor
open Go.RowKit
set_option linter.unusedVariables false

theorem fnOuter_in (A SA : Option Addr) (dn dc sn sc : Nat) (off n : Int) (xs : List Value) (zs : List Int) (eof : Value) (w : World)
    (hd : Sl w 1 A dn xs) (hA : A = none → dc = 0) (h1 : ∀ u ∈ xs, u.oneCell' = true) (hdn : dn ≤ 65536)
    (hs : Sl w 1 SA sn (zs.map (Value.int .i64))) (hsn : sn ≤ 1024)
    (ho0 : 0 ≤ off) (hn0 : 0 ≤ n) (ho : off ≤ 9223372036854775807) (hn : n ≤ 9223372036854775807)
    (hE : w.cell? ⟨0, 0, none⟩ = some eof) :
    Calls Tryd.prog 3 #[.slice A dn dc, .int .i64 off, .int .i64 n, .slice SA sn sc] w fun e w' => e = .returned (.bool true) ∧ New w w' := by
  have HD := hide hd; have H1 := hide h1; have HS := hide hs; have HA := hide hA
  clear hd h1 hs hA
  have hzl : zs.length = sn := by have := HS.out.1; simpa using this
  have HZL := hide hzl
  clear hzl
  go_enter Tryd.func3, Tryd.ntmps3
  go_wp2
  go_loop [31] (fun i => ∃ j : Nat, j ≤ sn ∧ i = .int .i64 j ∧ ∀ z ∈ zs.take j, z ≤ 65536) (fun i => sn - (intOf i).toNat)
  case atStart => exact ⟨0, Nat.zero_le _, rfl, by simp⟩
  case round =>
    obtain ⟨j, hj, rfl, hz⟩ := hrel
    have HZ := hide hz
    clear hz
    by_cases hlt : j < sn
    · obtain ⟨ad, rfl, hadb, hcell⟩ := HS.out.2 (by omega)
      have hjl : j < zs.length := by rw [HZL.out]; exact hlt
      have hcz : w.cell? (ad.add j) = some (.int .i64 zs[j]) := hcell j _ (by simp [hjl])
      clear hcell
      generalize hzz : zs[j] = z at hcz
      have HZZ := hide hzz
      clear hzz
      by_cases hbig : z ≤ 65536
      · go_wp2
        go_round
        case rel =>
          refine ⟨j + 1, by omega, by go_num, fun y hy => ?_⟩
          rw [List.take_succ_eq_append_getElem hjl, List.mem_append, List.mem_singleton, HZZ.out] at hy
          rcases hy with hy | rfl
          · exact HZ.out y hy
          · exact hbig
        case measure => simp [intOf]; omega
      · go_wp2
        go_ret
        exact ⟨rfl, new_refl _⟩
    · go_wp2_with fail
      refine (outerImpl A SA dn dc sn sc off n xs zs eof w HD.out HA.out H1.out hdn HS.out (fun z hz => HZ.out z (by rw [List.take_of_length_le (by rw [HZL.out]; omega)]; exact hz)) hsn ho0 hn0 ho hn hE).mono ?_
      rintro e w1 ⟨rfl, hN⟩
      go_wp2
      go_ret
      exact ⟨rfl, hN⟩

theorem fnOuter_walk (A SA : Option Addr) (dn dc sn sc : Nat) (off n : Int) (xs : List Value) (zs : List Int) (eof : Value) (w : World)
    (hd : Sl w 1 A dn xs) (hA : A = none → dc = 0) (h1 : ∀ u ∈ xs, u.oneCell' = true)
    (hs : Sl w 1 SA sn (zs.map (Value.int .i64)))
    (ho : off ≤ 9223372036854775807) (hn : n ≤ 9223372036854775807)
    (hE : w.cell? ⟨0, 0, none⟩ = some eof) :
    Calls Tryd.prog 3 #[.slice A dn dc, .int .i64 off, .int .i64 n, .slice SA sn sc] w fun e w' => e = .returned (.bool true) ∧ New w w' := by
  by_cases c1 : dn ≤ 65536
  · by_cases c2 : 0 ≤ off
    · by_cases c3 : 0 ≤ n
      · by_cases c4 : sn ≤ 1024
        · exact fnOuter_in A SA dn dc sn sc off n xs zs eof w hd hA h1 c1 hs c4 c2 c3 ho hn hE
        · have HD := hide hd; have H1 := hide h1; have HS := hide hs; have HA := hide hA
          clear hd h1 hs hA
          go_enter Tryd.func3, Tryd.ntmps3
          go_wp2
          go_ret
          exact ⟨rfl, new_refl _⟩
      · have HD := hide hd; have H1 := hide h1; have HS := hide hs; have HA := hide hA
        clear hd h1 hs hA
        go_enter Tryd.func3, Tryd.ntmps3
        go_wp2
        go_ret
        exact ⟨rfl, new_refl _⟩
    · have HD := hide hd; have H1 := hide h1; have HS := hide hs; have HA := hide hA
      clear hd h1 hs hA
      go_enter Tryd.func3, Tryd.ntmps3
      go_wp2
      go_ret
      exact ⟨rfl, new_refl _⟩
  · have HD := hide hd; have H1 := hide h1; have HS := hide hs; have HA := hide hA
    clear hd h1 hs hA
    go_enter Tryd.func3, Tryd.ntmps3
    go_wp2
    go_ret
    exact ⟨rfl, new_refl _⟩

end Go.Proofs.YtpcndmemfjnfaaaDoor
