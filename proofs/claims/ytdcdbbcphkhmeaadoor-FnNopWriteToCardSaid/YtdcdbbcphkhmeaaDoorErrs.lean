/-
  The package's sentinel errors in memory, and impl.number: it returns the number of each of them. No condition beside 'the listed variables are as the program's text lays them'.
-/
import Derived.Test.YtdcdbbcphkhmeaaDoorProg
import Derived.Test.YtdcdbbcphkhmeaaDoorWords
import Derived.WalkLawsBesides
import Derived.Deep.QuietTactic
import Derived.BigQuiet
import Derived.LaidEql
import Derived.Deep.RegionHeld3
namespace Go.Proofs.YtdcdbbcphkhmeaaDoor
open Go.RowKit
set_option linter.unusedVariables false

/-- How many sentinels the program lists. -/
def nErrs : Nat := 4
theorem nErrs_ge : 4 ≤ nErrs := by decide

/-- The error value with the number code: nil for 0. -/
def errVal (E : Nat → Addr) : Nat → Value
  | 0 => .nilIface
  | n + 1 => .iface 78 (.pointer (some (E n)))

/-- The sentinels lie where the globals say, each in a block of its own below B. -/
structure Env (B : Nat) (E : Nat → Addr) (w : World) : Prop where
  cell : ∀ i, i < nErrs → w.cell? ⟨i, 0, none⟩ = some (errVal E (i + 1))
  blk : ∀ i, i < nErrs → ∃ c t, w.heap[(E i).block]? = some (.cells c t (0, 0))
  inj : ∀ i j, i < nErrs → j < nErrs → E i = E j → i = j
  lt : ∀ i, i < nErrs → i < B ∧ (E i).block < B

namespace Env
variable {B : Nat} {E : Nat → Addr} {w w' : World}
theorem below (h : Env B E w) (hb : Below B w w') : Env B E w' :=
  ⟨fun i hi => (hb.cell (p := ⟨i, 0, none⟩) (h.lt i hi).1).trans (h.cell i hi), fun i hi => by
    obtain ⟨c, t, e⟩ := h.blk i hi
    exact ⟨c, t, (hb.block _ (h.lt i hi).2).trans e⟩, h.inj, h.lt⟩
theorem turns {S : Nat → Prop} (h : Env B E w) (hb : Turns S w w') (hS : ∀ k, S k → B ≤ k) : Env B E w' := by
  have hB : ∀ k, k < B → ∀ o, w.heap[k]? = some o → w'.heap[k]? = w.heap[k]? := fun k hk o ho => hb.block k (Array.getElem?_eq_some_iff.1 ho).1 (fun hs => by have := hS k hs; omega)
  refine ⟨fun i hi => ?_, fun i hi => ?_, h.inj, h.lt⟩
  · have hc := h.cell i hi
    have hl := World.block_lt_of_cell? w _ hc
    exact (hb.cell (p := ⟨i, 0, none⟩) hl (fun hs => by have := hS _ hs; have := (h.lt i hi).1; simp at *; omega)).trans hc
  · obtain ⟨c, t, e⟩ := h.blk i hi
    exact ⟨c, t, (hB _ (h.lt i hi).2 _ e).trans e⟩
theorem drawn (h : Env B E w) (n : Nat) : Env B E (w.drewN n) := ⟨h.cell, h.blk, h.inj, h.lt⟩
theorem alloc (h : Env B E w) (o : Obj) : Env B E (w.alloc o) := h.turns ((Turns.refl (fun _ => False) w).alloc o) (fun _ hf => hf.elim)
end Env

theorem compErr : (Tryd.prog.info? 78).map (·.comparable) = some true := by kernel_rfl
theorem sizeErr : (Tryd.prog.info? 97).map (·.size) = some 1 := by kernel_rfl

theorem eql_same (w : World) (a : Addr) : (binOp .eql 66 (.iface 78 (.pointer (some a))) (.iface 78 (.pointer (some a)))).run Tryd.prog w = .ok (.bool true) w := by
  obtain ⟨i, hi, hcmp⟩ := Option.map_eq_some_iff.1 compErr
  obtain ⟨j, hj, _⟩ := Option.map_eq_some_iff.1 sizeErr
  exact run_eql_iface_ptr_same w a Tryd.underlying66 Tryd.underlying78 hi hcmp hj

theorem eql_other {B : Nat} {E : Nat → Addr} {w : World} (h : Env B E w) {n m : Nat} (hn : n < nErrs) (hm : m < nErrs) (hne : n ≠ m) :
    (binOp .eql 66 (.iface 78 (.pointer (some (E n)))) (.iface 78 (.pointer (some (E m))))).run Tryd.prog w = .ok (.bool false) w := by
  obtain ⟨i, hi, hcmp⟩ := Option.map_eq_some_iff.1 compErr
  obtain ⟨j, hj, hjs⟩ := Option.map_eq_some_iff.1 sizeErr
  obtain ⟨c, t, ha⟩ := h.blk n hn
  obtain ⟨c', t', hb⟩ := h.blk m hm
  exact run_eql_iface_ptr_other w Tryd.underlying66 Tryd.underlying78 hi hcmp hj (by rw [hjs]; decide) (fun e => hne (h.inj n m hn hm e)) ha hb

theorem number_nil (w : World) : Calls Tryd.prog 15 #[.nilIface] w fun e w' => e = .returned (.int .i64 0) ∧ w = w' := by
  go_enter Tryd.func15, Tryd.ntmps15
  go_wp2
  go_ret
  exact ⟨rfl, rfl⟩

theorem number_err {B : Nat} {E : Nat → Addr} {w : World} (h : Env B E w) (n : Nat) (hn : n < nErrs) :
    Calls Tryd.prog 15 #[.iface 78 (.pointer (some (E n)))] w fun e w' => e = .returned (.int .i64 (Nat.min (n + 1) 5 : Nat)) ∧ w = w' := by
  have k4 := nErrs_ge
  have c0 : w.cell? ⟨0, 0, none⟩ = some (.iface 78 (.pointer (some (E 0)))) := h.cell 0 (by omega)
  have c1 : w.cell? ⟨1, 0, none⟩ = some (.iface 78 (.pointer (some (E 1)))) := h.cell 1 (by omega)
  have c2 : w.cell? ⟨2, 0, none⟩ = some (.iface 78 (.pointer (some (E 2)))) := h.cell 2 (by omega)
  have c3 : w.cell? ⟨3, 0, none⟩ = some (.iface 78 (.pointer (some (E 3)))) := h.cell 3 (by omega)
  have same := eql_same w
  have H := hide h
  clear h
  match n, hn with
  | 0, _ =>
    go_enter Tryd.func15, Tryd.ntmps15
    go_wp2
    go_ret
    exact ⟨rfl, rfl⟩
  | 1, _ =>
    have d0 := eql_other H.out (n := 1) (m := 0) (by omega) (by omega) (by omega)
    go_enter Tryd.func15, Tryd.ntmps15
    go_wp2
    go_ret
    exact ⟨rfl, rfl⟩
  | 2, _ =>
    have d0 := eql_other H.out (n := 2) (m := 0) (by omega) (by omega) (by omega)
    have d1 := eql_other H.out (n := 2) (m := 1) (by omega) (by omega) (by omega)
    go_enter Tryd.func15, Tryd.ntmps15
    go_wp2
    go_ret
    exact ⟨rfl, rfl⟩
  | 3, _ =>
    have d0 := eql_other H.out (n := 3) (m := 0) (by omega) (by omega) (by omega)
    have d1 := eql_other H.out (n := 3) (m := 1) (by omega) (by omega) (by omega)
    have d2 := eql_other H.out (n := 3) (m := 2) (by omega) (by omega) (by omega)
    go_enter Tryd.func15, Tryd.ntmps15
    go_wp2
    go_ret
    exact ⟨rfl, rfl⟩
  | m + 4, hm =>
    have d0 := eql_other H.out (n := m + 4) (m := 0) hm (by omega) (by omega)
    have d1 := eql_other H.out (n := m + 4) (m := 1) hm (by omega) (by omega)
    have d2 := eql_other H.out (n := m + 4) (m := 2) hm (by omega) (by omega)
    have d3 := eql_other H.out (n := m + 4) (m := 3) hm (by omega) (by omega)
    have e5 : Nat.min (m + 4 + 1) 5 = 5 := Nat.min_eq_right (by omega)
    rw [e5]
    generalize E (m + 4) = a at *
    clear e5 hm hn H
    go_enter Tryd.func15, Tryd.ntmps15
    go_wp2
    go_ret
    exact ⟨rfl, rfl⟩

/-- impl.number returns an error's number. -/
theorem number {B : Nat} {E : Nat → Addr} {w : World} (h : Env B E w) (code : Nat) (hc : code ≤ nErrs) :
    Calls Tryd.prog 15 #[errVal E code] w fun e w' => e = .returned (.int .i64 (Nat.min code 5 : Nat)) ∧ w = w' := by
  cases code with
  | zero => exact number_nil w
  | succ n => exact number_err h n (by omega)

end Go.Proofs.YtdcdbbcphkhmeaaDoor
