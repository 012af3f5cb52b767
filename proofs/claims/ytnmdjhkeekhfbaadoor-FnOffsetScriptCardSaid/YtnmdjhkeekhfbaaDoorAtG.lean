/-
  Plain Lean, no program in sight: writes at offsets; writes and writes at offsets mixed; another base.
-/
import Derived.Test.YtnmdjhkeekhfbaaDoorWritesG
namespace Go.Proofs.YtnmdjhkeekhfbaaDoor
set_option linter.unusedVariables false

/-- Writes at offsets. -/
def atP (l : List (List Int × Int)) : List PlaceG := l.map fun x => ⟨1, x.1, x.2, 0⟩

theorem at_run (base limit : Int) (l : List (List Int × Int)) (h : ∀ x ∈ l, 0 ≤ x.2) :
    runG base limit (atP l) = (l.map (fun x => underG limit (x.2 + base) x.1.length), base, l.map (fun x => ⟨x.2 + base, x.1⟩)) := by
  suffices H : ∀ n, n ≤ l.length → runG base limit (atP (l.take n)) = ((l.take n).map (fun x => underG limit (x.2 + base) x.1.length), base, (l.take n).map (fun x => ⟨x.2 + base, x.1⟩)) by
    have := H l.length (Nat.le_refl _)
    rwa [List.take_length] at this
  intro n hn
  induction n with
  | zero => simp [runG, atP]
  | succ n ih =>
    have e : atP (l.take (n + 1)) = atP (l.take n) ++ [⟨1, l[n].1, l[n].2, 0⟩] := by unfold atP; rw [List.take_succ_eq_append_getElem hn, List.map_append]; rfl
    have h0 := h l[n] (List.getElem_mem hn)
    have hneg : ¬ l[n].2 < 0 := by omega
    rw [e, runG_snoc, ih (by omega), List.take_succ_eq_append_getElem hn, List.map_append, List.map_append]
    simp [moveG, hneg]

/-- A write, or a write at an offset. -/
def bothP (x : Bool × List Int × Int) : PlaceG := if x.1 then ⟨1, x.2.1, x.2.2, 0⟩ else ⟨0, x.2.1, 0, 0⟩
/-- The texts of the writes alone. -/
def someT (l : List (Bool × List Int × Int)) : List (List Int) := (l.filter (fun x => !x.1)).map (·.2.1)
/-- The calls of both. -/
def bothC (base cur : Int) : List (Bool × List Int × Int) → List CallG
  | [] => []
  | x :: l => (if x.1 then ⟨x.2.2 + base, x.2.1⟩ else ⟨cur, x.2.1⟩) :: bothC base (if x.1 then cur else cur + x.2.1.length) l

theorem someT_append (a b : List (Bool × List Int × Int)) : someT (a ++ b) = someT a ++ someT b := by simp [someT]
theorem someT_take (l : List (Bool × List Int × Int)) (k : Nat) (h : k < l.length) : someT (l.take (k + 1)) = someT (l.take k) ++ (if l[k].1 then [] else [l[k].2.1]) := by
  rw [List.take_succ_eq_append_getElem h, someT_append]
  congr 1
  cases hk : l[k].1 <;> simp [someT, hk]
theorem someT_len (l : List (Bool × List Int × Int)) : (someT l).length ≤ l.length := by
  simp only [someT, List.length_map]; exact List.length_filter_le ..
theorem someT_mem (l : List (Bool × List Int × Int)) (t : List Int) (h : t ∈ someT l) : ∃ x ∈ l, x.2.1 = t := by
  simp only [someT, List.mem_map, List.mem_filter] at h
  obtain ⟨x, ⟨hx, _⟩, e⟩ := h
  exact ⟨x, hx, e⟩
theorem someT_split (l : List (Bool × List Int × Int)) (k : Nat) : someT l = someT (l.take k) ++ someT (l.drop k) := by
  rw [← someT_append, List.take_append_drop]
theorem someT_at (l : List (Bool × List Int × Int)) (k : Nat) (h : k < l.length) (hf : l[k].1 = false) :
    (someT l)[(someT (l.take k)).length]? = some l[k].2.1 ∧ (someT l).take (someT (l.take k)).length = someT (l.take k) := by
  have e := someT_split l k
  have e2 : someT (l.drop k) = l[k].2.1 :: someT (l.drop (k + 1)) := by
    rw [List.drop_eq_getElem_cons h]
    unfold someT
    rw [List.filter_cons_of_pos (by simp [hf])]
    rfl
  rw [e2] at e
  rw [e]
  exact ⟨by simp, by simp⟩

theorem someT_cons (x : Bool × List Int × Int) (l : List (Bool × List Int × Int)) : someT (x :: l) = (if x.1 then [] else [x.2.1]) ++ someT l := by
  cases hx : x.1 <;> simp [someT, hx]

theorem bothC_len (base cur : Int) (l : List (Bool × List Int × Int)) : (bothC base cur l).length = l.length := by
  induction l generalizing cur with
  | nil => rfl
  | cons x l ih => simp [bothC, ih]

theorem bothC_get (base cur : Int) (l : List (Bool × List Int × Int)) (k : Nat) : (bothC base cur l)[k]? = (l[k]?).map fun x => if x.1 then ⟨x.2.2 + base, x.2.1⟩ else ⟨cur + (tot (someT (l.take k)) : Nat), x.2.1⟩ := by
  induction l generalizing cur k with
  | nil => simp [bothC]
  | cons x l ih =>
    cases k with
    | zero => simp [bothC, someT, tot]
    | succ k =>
      simp only [bothC, List.getElem?_cons_succ, ih, List.take_succ_cons, someT_cons, tot_append]
      congr 1
      funext y
      congr 2
      cases hx : x.1 <;> simp [tot] <;> omega

theorem both_fold (base limit : Int) (l : List (Bool × List Int × Int)) (ms : List MovedG) (cur : Int) (cs : List CallG) (h : cur + (tot (someT l) : Nat) ≤ limit) (h0 : ∀ x ∈ l, 0 ≤ x.2.2) :
    ((l.map bothP).foldl (fun r p => (r.1 ++ [(moveG base limit r.2.1 p).1], (moveG base limit r.2.1 p).2.1, r.2.2 ++ (moveG base limit r.2.1 p).2.2)) (ms, cur, cs)).2 =
      (cur + (tot (someT l) : Nat), cs ++ bothC base cur l) := by
  induction l generalizing ms cur cs with
  | nil => simp [someT, tot, bothC]
  | cons x l ih =>
    have hx0 := h0 x (List.mem_cons_self ..)
    have hl0 : ∀ x ∈ l, 0 ≤ x.2.2 := fun y hy => h0 y (List.mem_cons_of_mem _ hy)
    rw [someT_cons, tot_append] at h ⊢
    simp only [List.map_cons, List.foldl_cons, bothC]
    cases hx : x.1
    · rw [hx] at h
      have e1 : tot (if false = true then [] else [x.2.1]) = x.2.1.length := by simp [tot]
      rw [e1] at h ⊢
      have hu : underG limit cur x.2.1.length = ⟨x.2.1.length, 0⟩ := by unfold underG; rw [if_neg (by omega)]
      have hm : moveG base limit cur (bothP x) = (⟨x.2.1.length, 0⟩, cur + x.2.1.length, [⟨cur, x.2.1⟩]) := by simp [moveG, bothP, hx, hu]
      simp only [hm]
      rw [ih _ _ _ (by omega) hl0]
      simp
      omega
    · rw [hx] at h
      have e1 : tot (if true = true then [] else [x.2.1]) = 0 := by simp [tot]
      rw [e1] at h ⊢
      have hneg : ¬ x.2.2 < 0 := by omega
      have hm : moveG base limit cur (bothP x) = (underG limit (x.2.2 + base) x.2.1.length, cur, [⟨x.2.2 + base, x.2.1⟩]) := by simp [moveG, bothP, hx, hneg]
      simp only [hm]
      rw [ih _ _ _ (by omega) hl0]
      simp

theorem both_run (base limit : Int) (l : List (Bool × List Int × Int)) (h : base + (tot (someT l) : Nat) ≤ limit) (h0 : ∀ x ∈ l, 0 ≤ x.2.2) :
    (runG base limit (l.map bothP)).2 = (base + (tot (someT l) : Nat), bothC base base l) := by
  unfold runG
  rw [both_fold base limit l [] base [] h h0]
  simp

/-- Another base, and the limit with it: the same results, and the calls moved. -/
theorem moveG_shift (base limit cur d : Int) (p : PlaceG) : moveG (base + d) (limit + d) (cur + d) p = ((moveG base limit cur p).1, (moveG base limit cur p).2.1 + d, (moveG base limit cur p).2.2.map (fun c => ⟨c.off + d, c.data⟩)) := by
  have hu : ∀ off n, underG (limit + d) (off + d) n = underG limit off n := fun off n => by
    unfold underG
    rw [show limit + d - (off + d) = limit - off by omega]
    by_cases h : limit - (n : Int) < off
    · rw [if_pos h, if_pos (by omega)]
    · rw [if_neg h, if_neg (by omega)]
  have hs : ∀ t, seekG (base + d) (cur + d) (t + d) = ((seekG base cur t).1, (seekG base cur t).2.1 + d, (seekG base cur t).2.2.map (fun c => ⟨c.off + d, c.data⟩)) := fun t => by
    unfold seekG
    by_cases h : t < base
    · rw [if_pos h, if_pos (by omega)]; simp
    · rw [if_neg h, if_neg (by omega)]; simp; omega
  unfold moveG
  split
  · rw [hu]; simp; omega
  · split
    · split
      · simp
      · rw [← Int.add_assoc, hu]; simp
    · split
      · rw [← Int.add_assoc, hs]
      · split
        · rw [← Int.add_assoc, hs]
        · simp

theorem runG_shift (base limit d : Int) (l : List PlaceG) : runG (base + d) (limit + d) l = ((runG base limit l).1, (runG base limit l).2.1 + d, (runG base limit l).2.2.map (fun c => ⟨c.off + d, c.data⟩)) := by
  suffices H : ∀ n, n ≤ l.length → runG (base + d) (limit + d) (l.take n) = ((runG base limit (l.take n)).1, (runG base limit (l.take n)).2.1 + d, (runG base limit (l.take n)).2.2.map (fun c => ⟨c.off + d, c.data⟩)) by
    have := H l.length (Nat.le_refl _)
    rwa [List.take_length] at this
  intro n hn
  induction n with
  | zero => simp [runG]
  | succ n ih =>
    rw [List.take_succ_eq_append_getElem hn, runG_snoc, runG_snoc, ih (by omega)]
    simp only [moveG_shift, List.map_append]

/-- A place of the script. -/
def scriptP (x : Int × List Int × Int) : PlaceG := if x.1 = 0 ∨ x.1 = 1 then ⟨x.1, x.2.1, x.2.2, 0⟩ else ⟨2, x.2.1, x.2.2, IntKind.i64.wrap (x.1 - 2)⟩

/-- What the reference says of one call, where at is relative to the base: the same. -/
theorem moveG_write (base limit at_ : Int) (p : PlaceG) (h : p.kind = 0) : moveG base limit (base + at_) p = (underG limit (base + at_) p.data.length, base + at_ + (underG limit (base + at_) p.data.length).n, [⟨base + at_, p.data⟩]) := by
  simp [moveG, h]

end Go.Proofs.YtnmdjhkeekhfbaaDoor
