/-
  A slice of Booleans that came in, opened.
-/
import Derived.Test.YtdcdbbcphkhmeaaDoorNopClose
import Derived.Test.YtdcdbbcphkhmeaaDoorFrame
import Derived.Deep.Grids
namespace Go.Proofs.YtdcdbbcphkhmeaaDoor
open Go.ChangeShapes Go.WideShapes Go.ChangeAt Go.RowKit

theorem open_bls {H : Type} {enc : TypeId × Value → H} {P : Program} {W : World} {t e : TypeId} {v : Value} {d : DataW H} {p : List MemPlace} {base : Nat} {r : Reach} (ht : P.underlying t = some (.slice e)) (he : P.underlying e = some .bool) (hc : P.cellsOf e = 1)
    (hv : Value.okWide P W r base t v) (h : DataW.Trod enc P W 0 (fun _ => true) true t v d p) :
    ∃ (A : Option Addr) (c : Nat) (bs : List Bool), v = .slice A bs.length c ∧ Bl W A bs := by
  obtain ⟨a0, n0, c0, rfl⟩ := okWide_slice ht hv
  obtain ⟨fuel, hf⟩ := h
  rcases Go.Deep.open_bools ht he hc hf with ⟨hcs, _⟩ | ⟨a, len, cap, B, hcs, _, hl, hm, hx, hcell⟩
  · simp only [Value.cells, List.cons.injEq, and_true] at hcs
    cases hcs
    exact ⟨none, 0, [], rfl, fun h => by simp at h⟩
  · simp only [Value.cells, List.cons.injEq, and_true] at hcs
    cases hcs
    refine ⟨some a, c0, (List.range n0).map B, by simp, fun h0 => ⟨a, rfl, ?_, fun j b hb => ?_⟩⟩
    · simp at h0
      have h1 := hcell 0 (by omega)
      have := World.block_lt_of_cell? W _ h1
      rwa [block_add] at this
    · rw [List.getElem?_map] at hb
      by_cases hj : j < n0
      · rw [List.getElem?_range hj] at hb
        simp at hb
        subst hb
        exact hcell j (by omega)
      · rw [List.getElem?_eq_none (by simp; omega)] at hb
        cases hb

end Go.Proofs.YtdcdbbcphkhmeaaDoor
