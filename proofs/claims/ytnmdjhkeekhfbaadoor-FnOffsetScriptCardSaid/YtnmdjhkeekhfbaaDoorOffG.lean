/-
  Plain Lean, no program in sight: what the calls of an OffsetWriter over a limited memory return and make.
-/
import Derived.Test.YtnmdjhkeekhfbaaDoorWords
namespace Go.Proofs.YtnmdjhkeekhfbaaDoor
set_option linter.unusedVariables false

/-- One call: Write (0), WriteAt (1) or Seek. -/
structure PlaceG where
  kind : Int
  data : List Int
  off : Int
  whence : Int
/-- What a call returns. -/
structure MovedG where
  n : Int
  code : Nat
/-- A call of the underlying writer. -/
structure CallG where
  off : Int
  data : List Int

/-- What the underlying writer returns. -/
def underG (limit off : Int) (size : Nat) : MovedG := if limit - (size : Int) < off then ⟨imax (limit - off) 0, 3⟩ else ⟨size, 0⟩
/-- A seek to t. -/
def seekG (base cur t : Int) : MovedG × Int × List CallG := if t < base then (⟨0, 5⟩, cur, []) else (⟨t - base, 0⟩, t, [])
/-- One call: what it returns, where the writer then stands, what it calls. -/
def moveG (base limit cur : Int) (p : PlaceG) : MovedG × Int × List CallG :=
  if p.kind = 0 then (underG limit cur p.data.length, cur + (underG limit cur p.data.length).n, [⟨cur, p.data⟩])
  else if p.kind = 1 then (if p.off < 0 then (⟨0, 5⟩, cur, []) else (underG limit (p.off + base) p.data.length, cur, [⟨p.off + base, p.data⟩]))
  else if p.whence = 0 then seekG base cur (p.off + base)
  else if p.whence = 1 then seekG base cur (p.off + cur)
  else (⟨0, 5⟩, cur, [])
/-- All the calls, one behind the other. -/
def runG (base limit : Int) (l : List PlaceG) : List MovedG × Int × List CallG :=
  l.foldl (fun r p => (r.1 ++ [(moveG base limit r.2.1 p).1], (moveG base limit r.2.1 p).2.1, r.2.2 ++ (moveG base limit r.2.1 p).2.2)) ([], base, [])
theorem runG_snoc (base limit : Int) (l : List PlaceG) (p : PlaceG) : runG base limit (l ++ [p]) =
    ((runG base limit l).1 ++ [(moveG base limit (runG base limit l).2.1 p).1], (moveG base limit (runG base limit l).2.1 p).2.1, (runG base limit l).2.2 ++ (moveG base limit (runG base limit l).2.1 p).2.2) := by
  simp [runG, List.foldl_append]

/-- A place whose numbers are small, where they are reckoned with. -/
def Fits (p : PlaceG) : Prop := p.data.length ≤ 65536 ∧ ((p.kind = 1 ∧ p.off < 0) ∨ (p.kind ≠ 0 ∧ p.kind ≠ 1 ∧ p.whence ≠ 0 ∧ p.whence ≠ 1) ∨ (-2199023255552 ≤ p.off ∧ p.off ≤ 2199023255552))

theorem underG_n (limit off : Int) (size : Nat) : 0 ≤ (underG limit off size).n ∧ (underG limit off size).n ≤ size ∧ (underG limit off size).code ≤ 3 := by
  unfold underG imax
  split
  · split
    · exact ⟨by simp, by simp, by simp⟩
    · refine ⟨?_, ?_, by simp⟩ <;> simp only <;> omega
  · exact ⟨by simp, by simp, by simp⟩

theorem moveG_stays (base limit cur : Int) (p : PlaceG) (hb : 0 ≤ base ∧ base ≤ 2199023255552) (h : base ≤ cur) (hf : Fits p) :
    base ≤ (moveG base limit cur p).2.1 ∧ (moveG base limit cur p).2.1 ≤ cur + 2199023255552 ∧ (moveG base limit cur p).1.code ≤ 5 ∧ (moveG base limit cur p).2.2.length ≤ 1 := by
  unfold moveG
  have hu := underG_n limit cur p.data.length
  have hu2 := underG_n limit (p.off + base) p.data.length
  obtain ⟨hf1, hf2⟩ := hf
  split
  · refine ⟨?_, ?_, ?_, by simp⟩ <;> simp only <;> omega
  · split
    · split
      · exact ⟨h, by simp only; omega, by simp, by simp⟩
      · exact ⟨h, by simp only; omega, by simp only; omega, by simp⟩
    · split
      · unfold seekG
        split
        · exact ⟨h, by simp only; omega, by simp, by simp⟩
        · refine ⟨?_, ?_, by simp, by simp⟩ <;> simp only <;> omega
      · split
        · unfold seekG
          split
          · exact ⟨h, by simp only; omega, by simp, by simp⟩
          · refine ⟨?_, ?_, by simp, by simp⟩ <;> simp only <;> omega
        · exact ⟨h, by simp only; omega, by simp, by simp⟩

theorem runG_stays (base limit : Int) (l : List PlaceG) (hb : 0 ≤ base ∧ base ≤ 2199023255552) (hf : ∀ p ∈ l, Fits p) (k : Nat) (hk : k ≤ l.length) :
    base ≤ (runG base limit (l.take k)).2.1 ∧ (runG base limit (l.take k)).2.1 ≤ base + k * 2199023255552 ∧ (runG base limit (l.take k)).1.length = k ∧ (runG base limit (l.take k)).2.2.length ≤ k := by
  induction k with
  | zero => exact ⟨by simp [runG], by simp [runG], by simp [runG], by simp [runG]⟩
  | succ k ih =>
    obtain ⟨h1, h2, h3, h4⟩ := ih (by omega)
    rw [List.take_succ_eq_append_getElem hk, runG_snoc]
    obtain ⟨g1, g2, g3, g4⟩ := moveG_stays base limit (runG base limit (l.take k)).2.1 l[k] hb h1 (hf _ (List.getElem_mem hk))
    refine ⟨g1, ?_, by simp [h3], ?_⟩
    · simp only; omega
    · simp only [List.length_append]; omega

theorem runG_get (base limit : Int) (l : List PlaceG) (k : Nat) (h : k < l.length) : (runG base limit l).1[k]? = some (moveG base limit (runG base limit (l.take k)).2.1 l[k]).1 := by
  suffices H : ∀ n, k < n → n ≤ l.length → (runG base limit (l.take n)).1[k]? = some (moveG base limit (runG base limit (l.take k)).2.1 l[k]).1 by
    have := H l.length h (Nat.le_refl _)
    rwa [List.take_length] at this
  have hlen : ∀ n, n ≤ l.length → (runG base limit (l.take n)).1.length = n := by
    intro n hn
    induction n with
    | zero => simp [runG]
    | succ n ih => rw [List.take_succ_eq_append_getElem hn, runG_snoc]; simp [ih (by omega)]
  intro n hkn hn
  induction n with
  | zero => omega
  | succ n ih =>
    rw [List.take_succ_eq_append_getElem hn, runG_snoc]
    have hl := hlen n (by omega)
    rcases Nat.lt_or_ge k n with h1 | h1
    · simp only
      rw [List.getElem?_append_left (by omega)]
      exact ih h1 (by omega)
    · obtain rfl : k = n := by omega
      simp only
      rw [List.getElem?_append_right (by omega), hl]
      simp

end Go.Proofs.YtnmdjhkeekhfbaaDoor
