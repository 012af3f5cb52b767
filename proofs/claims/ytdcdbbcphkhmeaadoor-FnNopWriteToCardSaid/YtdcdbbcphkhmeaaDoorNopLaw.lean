/-
  Plain facts on the results of the steps, and the cells of a row of results.
-/
import Derived.Test.YtdcdbbcphkhmeaaDoorNopRun
import Derived.Test.YtdcdbbcphkhmeaaDoorSource
import Derived.Test.YtdcdbbcphkhmeaaDoorSame
import Derived.Test.YtdcdbbcphkhmeaaDoorSpec
namespace Go.Proofs.YtdcdbbcphkhmeaaDoor
open Go.RowKit
set_option linter.unusedVariables false

theorem Src.foldl_grows (s : Src) (l : List (Int × Int)) : ∀ r : List GotG × Nat × Nat,
    ∃ t, (l.foldl (fun r st => (r.1 ++ [(s.stepG r.2.1 r.2.2 st).1], (s.stepG r.2.1 r.2.2 st).2)) r).1 = r.1 ++ t := by
  induction l with
  | nil => intro r; exact ⟨[], by simp⟩
  | cons st l ih =>
    intro r
    obtain ⟨t, ht⟩ := ih (r.1 ++ [(s.stepG r.2.1 r.2.2 st).1], (s.stepG r.2.1 r.2.2 st).2)
    exact ⟨_, by rw [List.foldl_cons, ht, List.append_assoc]⟩

theorem Src.after_get (s : Src) (l : List (Int × Int)) (k : Nat) (h : k < l.length) : (s.after l).1[k]? = some (s.stepG (s.after (l.take k)).2.1 (s.after (l.take k)).2.2 l[k]).1 := by
  have e : l = (l.take k ++ [l[k]]) ++ l.drop (k + 1) := by rw [← List.take_succ_eq_append_getElem h, List.take_append_drop]
  have hp : ∃ t, (s.after l).1 = (s.after (l.take k ++ [l[k]])).1 ++ t := by
    obtain ⟨t, ht⟩ := s.foldl_grows (l.drop (k + 1)) (s.after (l.take k ++ [l[k]]))
    refine ⟨t, ?_⟩
    rw [← ht]
    conv => lhs; rw [e]
    rw [Src.after, List.foldl_append]
    rfl
  obtain ⟨t, ht⟩ := hp
  have hl := s.after_length (l.take k)
  rw [List.length_take] at hl
  rw [ht, s.after_snoc, List.getElem?_append_left (by simp; omega), List.getElem?_append_right (by omega)]
  rw [show k - (s.after (l.take k)).1.length = 0 by omega]
  rfl

theorem flatten4_get (css : List (List Value)) (h : ∀ c ∈ css, c.length = 4) (k i : Nat) (hi : i < 4) : css.flatten[k * 4 + i]? = (css[k]?).bind (·[i]?) := by
  induction css generalizing k with
  | nil => simp
  | cons c css ih =>
    have hc := h c (List.mem_cons_self ..)
    rw [List.flatten_cons]
    cases k with
    | zero => rw [List.getElem?_append_left (by omega)]; simp
    | succ k =>
      rw [List.getElem?_append_right (by omega)]
      rw [show (k + 1) * 4 + i - c.length = k * 4 + i by omega, ih (fun c hc => h c (List.mem_cons_of_mem _ hc)) k]
      simp

theorem Env.up {B B' : Nat} {E : Nat → Addr} {w : World} (h : Env B E w) (hB : B ≤ B') : Env B' E w :=
  ⟨h.cell, h.blk, h.inj, fun i hi => ⟨Nat.lt_of_lt_of_le (h.lt i hi).1 hB, Nat.lt_of_lt_of_le (h.lt i hi).2 hB⟩⟩

/-- The cells of the k-th result. -/
theorem got_cells {B k n : Nat} {w : World} {gs : List GotG} {css : List (List Value)} {og oc : Nat} {g : GotG} (hown : w.ownsRow B 37 4 (.slice (some ⟨og, 0, none⟩) n oc) n css.flatten)
    (hgs : GotsAt B w gs css) (hcl : ∀ c ∈ css, c.length = 4) (hk : gs[k]? = some g) :
    ∃ A c, w.cell? ⟨og, k * 4, none⟩ = some (.slice A g.data.length c) ∧ w.cell? ⟨og, k * 4 + 1, none⟩ = some (.int .i64 (g.n : Nat)) ∧ w.cell? ⟨og, k * 4 + 2, none⟩ = some (.int .i64 (g.code : Nat)) ∧
      w.cell? ⟨og, k * 4 + 3, none⟩ = some (.bool g.has) ∧ Sl w 1 A g.data.length (g.data.map (Value.int .u8)) ∧ (A = none → c = 0) ∧ (∀ ad, A = some ad → B ≤ ad.block ∧ ∃ cs, At w ad.block 5 cs) := by
  have hkl : k < gs.length := (List.getElem?_eq_some_iff.1 hk).1
  have hkc : k < css.length := by rw [hgs.1]; exact hkl
  obtain ⟨A, c, e, h1, h2, h3⟩ := hgs.2 k g _ hk (List.getElem?_eq_getElem hkc)
  have hcell : ∀ i u, i < 4 → css[k][i]? = some u → w.cell? ⟨og, k * 4 + i, none⟩ = some u := fun i u hi hu => by
    have := hown.cells (g := og) rfl (k * 4 + i) u (by rw [flatten4_get css hcl k i hi, List.getElem?_eq_getElem hkc]; exact hu)
    rwa [add0] at this
  rw [e] at hcell
  exact ⟨A, c, hcell 0 _ (by omega) rfl, hcell 1 _ (by omega) rfl, hcell 2 _ (by omega) rfl, hcell 3 _ (by omega) rfl, h1, h2, h3⟩

end Go.Proofs.YtdcdbbcphkhmeaaDoor
