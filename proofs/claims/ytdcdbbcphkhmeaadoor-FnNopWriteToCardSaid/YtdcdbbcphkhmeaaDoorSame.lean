/-
  What laws.sameBytes (and laws.sameInts) return for two slices that read the same: true.
-/
import Derived.Test.YtdcdbbcphkhmeaaDoorErrs
namespace Go.Proofs.YtdcdbbcphkhmeaaDoor
open Go.RowKit
set_option linter.unusedVariables false

theorem sameBytes_eq {w : World} {A A' : Option Addr} {n c c' : Nat} {xs : List Int} (hn : xs.length = n) (h : Sl w 1 A n (xs.map (Value.int .u8))) (h' : Sl w 1 A' n (xs.map (Value.int .u8))) (hm : n ≤ 1000000000000) :
    Calls Tryd.prog 10 #[.slice A n c, .slice A' n c'] w fun e w' => e = .returned (.bool true) ∧ ∃ m, w' = w.drewN m := by
  have H := hide h; have H' := hide h'; have HN := hide hn
  clear h h' hn
  have hneq : ((n : Int) != (n : Int)) = false := by simp
  go_enter Tryd.func10, Tryd.ntmps10
  go_wp2
  go_loopw [13] (fun i wr => ∃ k : Nat, k ≤ n ∧ i = .int .i64 k ∧ ∃ m, wr = w.drewN m) (fun i _ => n - (intOf i).toNat)
  case atStart => exact ⟨0, Nat.zero_le _, rfl, 0, rfl⟩
  case round =>
    obtain ⟨k, hk, rfl, m, rfl⟩ := hrel
    by_cases hlt : k < n
    · obtain ⟨ad, rfl, hadb, hcell⟩ := H.out.2 (by omega)
      obtain ⟨ad', rfl, hadb', hcell'⟩ := H'.out.2 (by omega)
      have hkx : k < xs.length := by rw [HN.out]; exact hlt
      have c1 : w.cell? (ad.add k) = some (.int .u8 xs[k]) := hcell k _ (by simp [hkx])
      have c2 : w.cell? (ad'.add k) = some (.int .u8 xs[k]) := hcell' k _ (by simp [hkx])
      have hi : (k : Int) < (n : Int) := by omega
      have hi0 : (0 : Int) ≤ (k : Int) := by omega
      have hne : (xs[k] != xs[k]) = false := by simp
      clear hcell hcell'
      generalize xs[k] = z at *
      go_wp2_with fail
      go_quiet (fail)
      rename Nat => q1
      go_wp2
      go_roundw
      case rel => exact ⟨k + 1, by omega, by go_num, m + q1, by simp⟩
      case measure => simp [intOf]; omega
    · go_wp2
      go_ret
      exact ⟨rfl, m, rfl⟩

end Go.Proofs.YtdcdbbcphkhmeaaDoor
