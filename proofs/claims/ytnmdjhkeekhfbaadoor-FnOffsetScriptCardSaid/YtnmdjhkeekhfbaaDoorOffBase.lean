/-
  What the laws of the OffsetWriter rest on: rows of places handed in, rows of results handed out, and impl.OffsetWriter called from a law.
-/
import Derived.Test.YtnmdjhkeekhfbaaDoorOffRun
import Derived.Test.YtnmdjhkeekhfbaaDoorSame
namespace Go.Proofs.YtnmdjhkeekhfbaaDoor
open Go.RowKit
set_option linter.unusedVariables false

theorem Env.up {B B' : Nat} {E : Nat → Addr} {w : World} (h : Env B E w) (hB : B ≤ B') : Env B' E w :=
  ⟨h.cell, h.blk, h.inj, fun i hi => ⟨Nat.lt_of_lt_of_le (h.lt i hi).1 hB, Nat.lt_of_lt_of_le (h.lt i hi).2 hB⟩⟩

theorem runG_len (base limit : Int) (l : List PlaceG) : (runG base limit l).1.length = l.length := by
  suffices H : ∀ n, n ≤ l.length → (runG base limit (l.take n)).1.length = n by
    have := H l.length (Nat.le_refl _)
    rwa [List.take_length] at this
  intro n hn
  induction n with
  | zero => simp [runG]
  | succ n ih => rw [List.take_succ_eq_append_getElem hn, runG_snoc]; simp [ih (by omega)]

theorem PlaceAt.new {w w' : World} {p : PlaceG} {cells : List Value} (h : PlaceAt w p cells) (hn : New w w') : PlaceAt w' p cells := by
  obtain ⟨A, c, e, h1, h2⟩ := h
  exact ⟨A, c, e, h1.new hn, h2⟩
theorem PlacesAt.new {w w' : World} {ps : List PlaceG} {css : List (List Value)} (h : PlacesAt w ps css) (hn : New w w') : PlacesAt w' ps css :=
  ⟨h.1, fun i p cells h1 h2 => (h.2 i p cells h1 h2).new hn⟩
theorem PlacesAt.nil (w : World) : PlacesAt w [] [] := ⟨rfl, fun i p cells h => by simp at h⟩
theorem PlacesAt.snoc {w : World} {gs : List PlaceG} {css : List (List Value)} {g : PlaceG} {cells : List Value} (h : PlacesAt w gs css) (hg : PlaceAt w g cells) : PlacesAt w (gs ++ [g]) (css ++ [cells]) := by
  refine ⟨by simp [h.1], fun i g' cells' h1 h2 => ?_⟩
  by_cases hi : i < gs.length
  · rw [List.getElem?_append_left hi] at h1
    rw [List.getElem?_append_left (by rw [h.1]; exact hi)] at h2
    exact h.2 i g' cells' h1 h2
  · rw [List.getElem?_append_right (by omega)] at h1
    rw [List.getElem?_append_right (by rw [h.1]; omega), h.1] at h2
    have hz : i - gs.length = 0 := by
      have := (List.getElem?_eq_some_iff.1 h1).1
      simp at this
      omega
    rw [hz] at h1 h2
    simp at h1 h2
    subst h1
    subst h2
    exact hg

/-- A row of places of the law's own; their bytes lie in w. -/
def Placed (B : Nat) (w wr : World) (ps : List PlaceG) (sv : Value) : Prop :=
  ∃ css, wr.ownsRow B 28 4 sv ps.length css.flatten ∧ PlacesAt w ps css ∧ ∀ c ∈ css, c.length = 4

theorem Placed.new {B : Nat} {w wr wr' : World} {ps : List PlaceG} {sv : Value} (h : Placed B w wr ps sv) (hn : New wr wr') : Placed B w wr' ps sv := by
  obtain ⟨css, h1, h2, h3⟩ := h
  exact ⟨css, own_new h1 hn, h2, h3⟩

theorem Placed.lit {w wr : World} (ps : List PlaceG) (css : List (List Value)) (n : Nat) (hn : ps.length = n) (hm : n ≤ 1000) (h : PlacesAt w ps css) (h4 : ∀ c ∈ css, c.length = 4) (hB : w.heap.size ≤ wr.heap.size) :
    Placed w.heap.size w (wr.alloc (.cells css.flatten.toArray 28)) ps (.slice (some ⟨wr.heap.size, 0, none⟩) n n) := by
  subst hn
  have hl : css.flatten.length = css.length * 4 := by
    clear h hm
    induction css with
    | nil => rfl
    | cons c css ih => rw [List.flatten_cons, List.length_append, ih (fun c hc => h4 c (List.mem_cons_of_mem _ hc)), h4 c (List.mem_cons_self ..), List.length_cons]; omega
  refine ⟨css, ?_, h, h4⟩
  have := World.ownsRow_lit (base := w.heap.size) (e := 28) (size := 4) wr css.flatten.toArray ps.length hB (by unfold maxLen; omega) (by simp only [List.size_toArray]; rw [hl, h.1])
  simpa using this

theorem Placed.lit' {w wr : World} (H : Nat) (ps : List PlaceG) (css : List (List Value)) (n : Nat) (hn : ps.length = n) (hm : n ≤ 1000) (h : PlacesAt w ps css) (h4 : ∀ c ∈ css, c.length = 4) (hB : w.heap.size ≤ wr.heap.size) (hH : wr.heap.size = H) :
    Placed w.heap.size w (wr.alloc (.cells css.flatten.toArray 28)) ps (.slice (some ⟨H, 0, none⟩) n n) := hH ▸ Placed.lit ps css n hn hm h h4 hB

/-- What impl.OffsetWriter has handed out. -/
structure Ran (B : Nat) (w : World) (ms : List MovedG) (cs : List CallG) (mv cv : Value) (css : List (List Value)) : Prop where
  moved : w.ownsRow B 38 2 mv ms.length (movedCells ms)
  calls : w.ownsRow B 34 2 cv cs.length css.flatten
  each : CallsAt B w cs css
  two : ∀ c ∈ css, c.length = 2

theorem Ran.new {B : Nat} {w w' : World} {ms : List MovedG} {cs : List CallG} {mv cv : Value} {css : List (List Value)} (h : Ran B w ms cs mv cv css) (hn : New w w') : Ran B w' ms cs mv cv css :=
  ⟨own_new h.moved hn, own_new h.calls hn, h.each.turns (Turns.of_new hn (fun _ => False)) (fun _ _ _ h => h), h.two⟩

theorem movedCells_get (l : List MovedG) (k : Nat) (r : MovedG) (h : l[k]? = some r) : (movedCells l)[k * 2]? = some (.int .i64 r.n) ∧ (movedCells l)[k * 2 + 1]? = some (.int .i64 (r.code : Nat)) := by
  induction l generalizing k with
  | nil => simp at h
  | cons x l ih =>
    have e : movedCells (x :: l) = [.int .i64 x.n, .int .i64 (x.code : Nat)] ++ movedCells l := by simp [movedCells]
    rw [e]
    cases k with
    | zero => simp at h; subst h; simp
    | succ k =>
      have := ih k (by simpa using h)
      rw [List.getElem?_append_right (by simp; omega), List.getElem?_append_right (by simp; omega)]
      rw [show (k + 1) * 2 - [Value.int .i64 x.n, Value.int .i64 (x.code : Nat)].length = k * 2 by simp; omega, show (k + 1) * 2 + 1 - [Value.int .i64 x.n, Value.int .i64 (x.code : Nat)].length = k * 2 + 1 by simp; omega]
      exact this

theorem flatten2_get (css : List (List Value)) (h : ∀ c ∈ css, c.length = 2) (k i : Nat) (hi : i < 2) : css.flatten[k * 2 + i]? = (css[k]?).bind (·[i]?) := by
  induction css generalizing k with
  | nil => simp
  | cons c css ih =>
    have hc := h c (List.mem_cons_self ..)
    rw [List.flatten_cons]
    cases k with
    | zero => rw [List.getElem?_append_left (by omega)]; simp
    | succ k =>
      rw [List.getElem?_append_right (by omega)]
      rw [show (k + 1) * 2 + i - c.length = k * 2 + i by omega, ih (fun c hc => h c (List.mem_cons_of_mem _ hc)) k]
      simp

/-- The row of results, opened. -/
theorem Ran.mrow {B : Nat} {w : World} {ms : List MovedG} {cs : List CallG} {mv cv : Value} {css : List (List Value)} (h : Ran B w ms cs mv cv css) (h0 : 0 < ms.length) :
    ∃ g c, mv = .slice (some ⟨g, 0, none⟩) ms.length c ∧ ms.length ≤ c ∧ c ≤ 9223372036854775807 ∧ g < w.heap.size ∧ ∀ k r, ms[k]? = some r → w.cell? ⟨g, k * 2, none⟩ = some (.int .i64 r.n) ∧ w.cell? ⟨g, k * 2 + 1, none⟩ = some (.int .i64 (r.code : Nat)) := by
  have hm := h.moved
  rcases h.moved.2 with ⟨_, e⟩ | ⟨g, cap, cur, rfl, _, hg, hnc, hcm, _⟩
  · omega
  · unfold maxLen at hcm
    refine ⟨g, cap, rfl, hnc, by omega, (Array.getElem?_eq_some_iff.1 hg).1, fun k r hk => ?_⟩
    obtain ⟨x, y⟩ := movedCells_get ms k r hk
    exact ⟨add0 g (k * 2) ▸ hm.cells (g := g) rfl _ _ x, add0 g (k * 2 + 1) ▸ hm.cells (g := g) rfl _ _ y⟩

/-- The row of calls, opened. -/
theorem Ran.crow {B : Nat} {w : World} {ms : List MovedG} {cs : List CallG} {mv cv : Value} {css : List (List Value)} (h : Ran B w ms cs mv cv css) (h0 : 0 < cs.length) :
    ∃ g c, cv = .slice (some ⟨g, 0, none⟩) cs.length c ∧ cs.length ≤ c ∧ c ≤ 9223372036854775807 ∧ g < w.heap.size ∧ ∀ k r, cs[k]? = some r → ∃ A d, w.cell? ⟨g, k * 2, none⟩ = some (.int .i64 r.off) ∧ w.cell? ⟨g, k * 2 + 1, none⟩ = some (.slice A r.data.length d) ∧ Sl w 1 A r.data.length (r.data.map (Value.int .u8)) := by
  have hm := h.calls
  rcases h.calls.2 with ⟨_, e⟩ | ⟨g, cap, cur, rfl, _, hg, hnc, hcm, _⟩
  · omega
  · unfold maxLen at hcm
    refine ⟨g, cap, rfl, hnc, by omega, (Array.getElem?_eq_some_iff.1 hg).1, fun k r hk => ?_⟩
    have hkl : k < cs.length := (List.getElem?_eq_some_iff.1 hk).1
    have hkc : k < css.length := by rw [h.each.1]; exact hkl
    obtain ⟨A, d, e, h1, h2, h3⟩ := h.each.2 k r _ hk (List.getElem?_eq_getElem hkc)
    have hcell : ∀ i u, i < 2 → css[k][i]? = some u → w.cell? ⟨g, k * 2 + i, none⟩ = some u := fun i u hi hu => by
      have := hm.cells (g := g) rfl (k * 2 + i) u (by rw [flatten2_get css h.two k i hi, List.getElem?_eq_getElem hkc]; exact hu)
      rwa [add0] at this
    rw [e] at hcell
    exact ⟨A, d, hcell 0 _ (by omega) rfl, hcell 1 _ (by omega) rfl, h1⟩

/-- impl.OffsetWriter, called from a law. -/
theorem offCall {w wr : World} {base limit : Int} {ps : List PlaceG} {sv : Value} {E : Nat → Addr} (hp : Placed w.heap.size w wr ps sv) (hN : New w wr) (hE : Env w.heap.size E w) (hl : ps.length ≤ 2000)
    (hf : ∀ p ∈ ps, Fits p) (hl1 : -9007199254740992 ≤ limit) (hl2 : limit ≤ 9007199254740992) (hb0 : 0 ≤ base) (hb2 : base ≤ 2199023255552) :
    Calls Tryd.prog 14 #[.int .i64 base, .int .i64 limit, sv] wr fun e w' => ∃ MA mc CA cc css, e = .returned (.tuple #[.slice MA (runG base limit ps).1.length mc, .slice CA (runG base limit ps).2.2.length cc]) ∧
      Ran wr.heap.size w' (runG base limit ps).1 (runG base limit ps).2.2 (.slice MA (runG base limit ps).1.length mc) (.slice CA (runG base limit ps).2.2.length cc) css ∧ New wr w' := by
  obtain ⟨css, h1, h2, h3⟩ := hp
  refine (offRun h1 (h2.new hN) h3 hl hf hl1 hl2 hb0 hb2 ((hE.below hN).up hN.size)).mono ?_
  rintro e w' ⟨v, cv, ccs, rfl, hm, hc, hca, h2c, hn⟩
  rw [← runG_len base limit ps] at hm
  obtain ⟨MA, mc, rfl, -, -⟩ := Sl.of_own hm
  obtain ⟨CA, cc, rfl, -, -⟩ := Sl.of_own hc
  exact ⟨MA, mc, CA, cc, ccs, rfl, ⟨hm, hc, hca, h2c⟩, hn⟩

theorem PlaceAt.write {w : World} {A : Option Addr} {c : Nat} {bs : List Int} (k off wh : Int) (h : Sl w 1 A bs.length (bs.map (Value.int .u8))) (hn : A = none → c = 0) : PlaceAt w ⟨k, bs, off, wh⟩ [.int .i64 k, .slice A bs.length c, .int .i64 off, .int .i64 wh] := ⟨A, c, rfl, h, hn⟩
theorem PlaceAt.seek (w : World) (k off wh : Int) : PlaceAt w ⟨k, [], off, wh⟩ [.int .i64 k, .slice none 0 0, .int .i64 off, .int .i64 wh] := ⟨none, 0, rfl, Sl.none_ _ _ _, fun _ => rfl⟩

end Go.Proofs.YtnmdjhkeekhfbaaDoor
