/-
  A slice of byte slices that came in: opened, and read behind later memory. And a row of places that grows by one.
-/
import Derived.Test.YtnmdjhkeekhfbaaDoorOffBase
import Derived.Test.YtnmdjhkeekhfbaaDoorFrame
import Derived.Deep.Slices
import Derived.Deep.Grids
namespace Go.Proofs.YtnmdjhkeekhfbaaDoor
open Go.ChangeShapes Go.WideShapes Go.ChangeAt Go.RowKit
set_option linter.unusedVariables false

/-- The slice reads as these texts. -/
def Tx (w : World) (A : Option Addr) (ts : List (List Int)) : Prop :=
  0 < ts.length → ∃ ad, A = some ad ∧ ad.block < w.heap.size ∧ ∀ j t, ts[j]? = some t → ∃ B c, w.cell? (ad.add j) = some (.slice B t.length c) ∧ (B = none → c = 0) ∧ Sl w 1 B t.length (t.map (Value.int .u8))

theorem Tx.at_ {w wr : World} {A : Option Addr} {ts : List (List Int)} {k : Nat} {t : List Int} (h : Tx w A ts) (hn : New w wr) (hk : ts[k]? = some t) :
    ∃ ad B c, A = some ad ∧ wr.cell? (ad.add k) = some (.slice B t.length c) ∧ (B = none → c = 0) ∧ Sl w 1 B t.length (t.map (Value.int .u8)) := by
  have hl : k < ts.length := (List.getElem?_eq_some_iff.1 hk).1
  obtain ⟨ad, e, hb, hc⟩ := h (by omega)
  obtain ⟨B, c, h1, h2, h3⟩ := hc k t hk
  exact ⟨ad, B, c, e, (hn.cell (p := ad.add k) (by rw [block_add]; exact hb)).trans h1, h2, h3⟩

/-- The slice reads as these Booleans. -/
def Bl (w : World) (A : Option Addr) (bs : List Bool) : Prop := 0 < bs.length → ∃ ad, A = some ad ∧ ad.block < w.heap.size ∧ ∀ j b, bs[j]? = some b → w.cell? (ad.add j) = some (.bool b)

section
variable {H : Type} {enc : TypeId × Value → H} {P : Program} {W : World}

theorem open_texts {t e i : TypeId} {v : Value} {d : DataW H} {p : List MemPlace} {base : Nat} {r : Reach} (ht : P.underlying t = some (.slice e)) (he : P.underlying e = some (.slice i)) (hi : P.underlying i = some (.int .u8)) (hc : P.cellsOf e = 1) (hci : P.cellsOf i = 1)
    (hv : Value.okWide P W r base t v) (h : DataW.Trod enc P W 0 (fun _ => true) true t v d p) :
    ∃ (A : Option Addr) (c : Nat) (ts : List (List Int)), v = .slice A ts.length c ∧ Tx W A ts := by
  obtain ⟨a0, n0, c0, rfl⟩ := okWide_slice ht hv
  obtain ⟨fuel, hf⟩ := h
  rcases Go.Deep.open_slice1 ht hc hf with ⟨hcs, _⟩ | ⟨a, len, cap, m, n, V, D, Pl, hcs, _, hl, hm, hmm, _, hx⟩
  · simp only [Value.cells, List.cons.injEq, and_true] at hcs
    cases hcs
    exact ⟨none, 0, [], rfl, fun h => by simp at h⟩
  · simp only [Value.cells, List.cons.injEq, and_true] at hcs
    cases hcs
    simp only [if_true] at hmm
    subst hmm
    obtain ⟨T, hT⟩ := Go.Deep.choose_lt (α := List Int) (n := n0) (p := fun j t => ∃ B c, V j = .slice B t.length c ∧ (B = none → c = 0) ∧ Sl W 1 B t.length (t.map (Value.int .u8))) (fun j hj => by
      rcases open_ints he hi hci (hx j (by omega)).2 with ⟨hcs, _⟩ | ⟨a', len', cap', zs, hcs, _, hl', hm', hz, _, hcell, _⟩
      · simp only [List.cons.injEq, and_true] at hcs
        exact ⟨[], none, 0, hcs, fun _ => rfl, Sl.none_ _ _ _⟩
      · simp only [List.cons.injEq, and_true] at hcs
        simp only [if_true] at hz
        have e1 : (zs.take len').length = len' := by simp; omega
        refine ⟨zs.take len', some a', cap', by rw [e1]; exact hcs, (fun e => by cases e), by simp, fun hn => ⟨a', rfl, ?_, fun q u hu => ?_⟩⟩
        · rw [e1] at hn
          have h0 := hcell 0 (by omega)
          have := World.block_lt_of_cell? W _ h0
          rwa [block_add] at this
        · rw [List.getElem?_map, List.getElem?_take] at hu
          by_cases hq : q < len'
          · rw [if_pos hq] at hu
            have hq2 : q < zs.length := by omega
            rw [hcell q hq2, ← hu]
            simp [hq2]
          · rw [if_neg hq] at hu
            cases hu)
    refine ⟨some a, _, (List.range n0).map T, by simp; rfl, fun h0 => ⟨a, rfl, ?_, fun j t ht' => ?_⟩⟩
    · simp at h0
      have h1 := (hx 0 (by omega)).1
      have := World.block_lt_of_cell? W _ h1
      rwa [block_add] at this
    · rw [List.getElem?_map] at ht'
      by_cases hj : j < n0
      · rw [List.getElem?_range hj] at ht'
        simp at ht'
        subst ht'
        obtain ⟨B, c, e1, h2, h3⟩ := hT j hj
        exact ⟨B, c, by rw [← e1]; exact (hx j (by omega)).1, h2, h3⟩
      · rw [List.getElem?_eq_none (by simp; omega)] at ht'
        cases ht'

theorem open_bls {t e : TypeId} {v : Value} {d : DataW H} {p : List MemPlace} {base : Nat} {r : Reach} (ht : P.underlying t = some (.slice e)) (he : P.underlying e = some .bool) (hc : P.cellsOf e = 1)
    (hv : Value.okWide P W r base t v) (h : DataW.Trod enc P W 0 (fun _ => true) true t v d p) :
    ∃ (A : Option Addr) (c : Nat) (bs : List Bool), v = .slice A bs.length c ∧ Bl W A bs := by
  obtain ⟨a0, n0, c0, rfl⟩ := okWide_slice ht hv
  obtain ⟨fuel, hf⟩ := h
  rcases Go.Deep.open_bools ht he hc hf with ⟨hcs, _⟩ | ⟨a, len, cap, B, hcs, _, hl, hm, hx, hcell⟩
  · simp only [Value.cells, List.cons.injEq, and_true] at hcs
    cases hcs
    exact ⟨none, 0, [], rfl, fun h => by simp at h⟩
  · simp only [Value.cells, List.cons.injEq, and_true] at hcs
    cases hcs
    refine ⟨some a, c0, (List.range n0).map B, by simp, fun h0 => ⟨a, rfl, ?_, fun j b hb => ?_⟩⟩
    · simp at h0
      have h1 := hcell 0 (by omega)
      have := World.block_lt_of_cell? W _ h1
      rwa [block_add] at this
    · rw [List.getElem?_map] at hb
      by_cases hj : j < n0
      · rw [List.getElem?_range hj] at hb
        simp at hb
        subst hb
        exact hcell j (by omega)
      · rw [List.getElem?_eq_none (by simp; omega)] at hb
        cases hb
end

theorem infoPlace : (Tryd.prog.info? 28).map (fun i => (i.zero, i.size, i.bytes)) = some (some (.agg #[.int .i64 0, .slice none 0 0, .int .i64 0, .int .i64 0]), 4, 48) := by kernel_rfl

theorem Placed.nil {w wr : World} {g : Nat} (hg : At wr g 28 #[]) (hb : w.heap.size ≤ g) : Placed w.heap.size w wr [] (.slice (some ⟨g, 0, none⟩) 0 0) := ⟨[], lit_own _ _ hg hb, PlacesAt.nil _, by simp⟩

theorem Placed.slice {B : Nat} {w wr : World} {ps : List PlaceG} {sv : Value} (h : Placed B w wr ps sv) : ∃ A c css, sv = .slice A ps.length c ∧ wr.ownsRow B 28 4 sv ps.length css.flatten ∧ PlacesAt w ps css ∧ ∀ c ∈ css, c.length = 4 := by
  obtain ⟨css, h1, h2, h3⟩ := h
  obtain ⟨A, c, e, -, -⟩ := Sl.of_own h1
  exact ⟨A, c, css, e, h1, h2, h3⟩

/-- One place more. -/
theorem Placed.more {B : Nat} {w wr : World} {ps : List PlaceG} {p : PlaceG} {sv : Value} {css : List (List Value)} {cells : List Value} (hp : PlacesAt w ps css) (h4 : ∀ c ∈ css, c.length = 4) (hc : PlaceAt w p cells) (hown : wr.ownsRow B 28 4 sv (ps.length + 1) (css.flatten ++ cells)) : Placed B w wr (ps ++ [p]) sv := by
  refine ⟨css ++ [cells], ?_, hp.snoc hc, fun c hm => ?_⟩
  · rw [List.length_append, List.flatten_append]
    simpa using hown
  · rcases List.mem_append.1 hm with hm | hm
    · exact h4 c hm
    · rw [List.mem_singleton.1 hm]
      obtain ⟨A, c', e, _⟩ := hc
      rw [e]; rfl

end Go.Proofs.YtnmdjhkeekhfbaaDoor
