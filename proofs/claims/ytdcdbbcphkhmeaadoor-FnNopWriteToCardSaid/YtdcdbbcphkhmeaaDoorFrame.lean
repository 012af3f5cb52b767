/-
  What every law's row needs beside its walk: the arguments read behind the call as before it; a slice argument opened; the listed sentinels. No condition.
-/
import Derived.Test.YtdcdbbcphkhmeaaDoorWords
import Derived.ProofKit
import Derived.OpenShut
import Derived.LaidMore
import Derived.LaidLaws
import Derived.Stop.Joined
namespace Go.Proofs.YtdcdbbcphkhmeaaDoor
open Go.ChangeShapes Go.WideShapes Go.ChangeAt Go.RowKit

section
variable {H : Type} {enc : TypeId × Value → H} {P : Program} {W W' : World}

/-- A call that leaves old memory alone leaves every argument's reading. -/
theorem trodAll_below (hl : laidOutB P = true) (hb : New W W') : ∀ {ts : List TypeId} {vs : List Value} {ds : List (DataW H)} {ps : List MemPlace},
    ts.all (fun t => P.readableRec t && decide (t < P.types.size)) = true → DataW.TrodAll enc P W 0 (fun _ => true) true ts vs ds ps → (∀ x ∈ ps, x.block < W.heap.size) →
    DataW.TrodAll enc P W' 0 (fun b => decide (b < W.heap.size)) true ts vs ds ps
  | [], vs, ds, ps, _, h, _ => by
    obtain ⟨rfl, rfl, rfl⟩ := trodAll_nil h
    exact trodAll_mk0
  | t :: ts, vs, ds, ps, hts, h, hlt => by
    obtain ⟨v, vs', d, ds', p, q, rfl, rfl, rfl, h0, r⟩ := trodAll_cons h
    simp only [List.all_cons, Bool.and_eq_true, decide_eq_true_eq] at hts
    exact trodAll_cons_mk (Below.trod hl hts.1.1 hts.1.2 h0 hb (fun x hx => hlt x (List.mem_append_left _ hx)))
      (trodAll_below hl hb hts.2 r (fun x hx => hlt x (List.mem_append_right _ hx)))

/-- A slice of integers that came in. -/
theorem open_sl {t e : TypeId} {k : IntKind} {v : Value} {d : DataW H} {p : List MemPlace} {base : Nat} {r : Reach} (ht : P.underlying t = some (.slice e)) (he : P.underlying e = some (.int k)) (hc : P.cellsOf e = 1)
    (hv : Value.okWide P W r base t v) (h : DataW.Trod enc P W 0 (fun _ => true) true t v d p) :
    ∃ (A : Option Addr) (n c : Nat) (zs : List Int), v = .slice A n c ∧ (A = none → c = 0) ∧ n ≤ c ∧ c ≤ 9223372036854775807 ∧ Sl W 1 A n (zs.map (Value.int k)) ∧ zs.length = n ∧ ∀ z ∈ zs, (Lit.int k z).wf = true := by
  obtain ⟨a0, n0, c0, rfl⟩ := okWide_slice ht hv
  obtain ⟨fuel, hf⟩ := h
  rcases open_ints ht he hc hf with ⟨hcs, _⟩ | ⟨a, len, cap, zs, hcs, _, hl, hm, hz, hx, hcell, hwf⟩
  · simp only [Value.cells, List.cons.injEq, and_true] at hcs
    cases hcs
    exact ⟨none, 0, 0, [], rfl, fun _ => rfl, Nat.le_refl _, by omega, Sl.none_ _ _ _, rfl, by simp⟩
  · simp only [Value.cells, List.cons.injEq, and_true] at hcs
    cases hcs
    simp only [if_true] at hz
    refine ⟨some a, n0, c0, zs.take n0, rfl, (fun e => by cases e), hl, by unfold maxLen at hm; omega, ⟨by simp; omega, fun hn => ⟨a, rfl, ?_, fun j u hu => ?_⟩⟩, by simp; omega, fun z hzm => hwf z (List.mem_of_mem_take hzm)⟩
    · have h0 := hcell 0 (by omega)
      have := World.block_lt_of_cell? W _ h0
      rwa [block_add] at this
    · rw [List.getElem?_map, List.getElem?_take] at hu
      by_cases hj : j < n0
      · rw [if_pos hj] at hu
        have hj2 : j < zs.length := by omega
        rw [hcell j hj2, ← hu]
        simp [hj2]
      · rw [if_neg hj] at hu
        cases hu

theorem ints_one (k : IntKind) (zs : List Int) : ∀ u ∈ zs.map (Value.int k), u.oneCell' = true := ints_oneCell k zs
theorem i64_bounds {z : Int} (h : (Lit.int .i64 z).wf = true) : -9223372036854775808 ≤ z ∧ z ≤ 9223372036854775807 := by
  simpa [Lit.wf, IntKind.min, IntKind.max, IntKind.signed, IntKind.bits] using h
theorem u8_bounds {z : Int} (h : (Lit.int .u8 z).wf = true) : 0 ≤ z ∧ z ≤ 255 := by
  simpa [Lit.wf, IntKind.min, IntKind.max, IntKind.signed, IntKind.bits] using h
end

end Go.Proofs.YtdcdbbcphkhmeaaDoor
