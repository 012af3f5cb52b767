/-
  Plain Lean, no program in sight: writes one behind the other.
-/
import Derived.Test.YtnmdjhkeekhfbaaDoorTexts
namespace Go.Proofs.YtnmdjhkeekhfbaaDoor
set_option linter.unusedVariables false

/-- A write of these bytes. -/
def writeP (t : List Int) : PlaceG := ⟨0, t, 0, 0⟩
/-- How many bytes there are in all. -/
def tot (ts : List (List Int)) : Nat := (ts.map List.length).sum
/-- The calls of the underlying writer. -/
def callsOf (b : Int) : List (List Int) → List CallG
  | [] => []
  | t :: ts => ⟨b, t⟩ :: callsOf (b + t.length) ts

theorem callsOf_length (b : Int) (ts : List (List Int)) : (callsOf b ts).length = ts.length := by
  induction ts generalizing b with
  | nil => rfl
  | cons t ts ih => simp [callsOf, ih]
theorem tot_cons (t : List Int) (ts : List (List Int)) : tot (t :: ts) = t.length + tot ts := by simp [tot]
theorem tot_append (a b : List (List Int)) : tot (a ++ b) = tot a + tot b := by simp [tot]
theorem callsOf_get (b : Int) (ts : List (List Int)) (k : Nat) : (callsOf b ts)[k]? = (ts[k]?).map fun t => ⟨b + (tot (ts.take k) : Nat), t⟩ := by
  induction ts generalizing b k with
  | nil => simp [callsOf]
  | cons t ts ih =>
    cases k with
    | zero => simp [callsOf, tot]
    | succ k =>
      simp only [callsOf, List.getElem?_cons_succ, ih, List.take_succ_cons, tot_cons]
      congr 1
      funext t'
      congr 1
      omega
theorem callsOf_snoc (b : Int) (ts : List (List Int)) (t : List Int) : callsOf b (ts ++ [t]) = callsOf b ts ++ [⟨b + (tot ts : Nat), t⟩] := by
  induction ts generalizing b with
  | nil => simp [callsOf, tot]
  | cons x ts ih =>
    simp only [List.cons_append, callsOf, ih, tot_cons]
    congr 4
    omega
theorem take_writes (ts : List (List Int)) (k : Nat) (h : k < ts.length) : (ts.take (k + 1)).map writeP = (ts.take k).map writeP ++ [⟨0, ts[k], 0, 0⟩] := by
  rw [List.take_succ_eq_append_getElem h, List.map_append]; rfl
theorem tot_take (ts : List (List Int)) (k : Nat) (h : k < ts.length) : tot (ts.take (k + 1)) = tot (ts.take k) + ts[k].length := by
  rw [List.take_succ_eq_append_getElem h, tot_append]; simp [tot]
theorem tot_take_le (ts : List (List Int)) (k : Nat) : tot (ts.take k) ≤ tot ts := by
  have := tot_append (ts.take k) (ts.drop k)
  rw [List.take_append_drop] at this
  omega
theorem tot_le (ts : List (List Int)) (h : ∀ t ∈ ts, t.length ≤ 65536) : tot ts ≤ ts.length * 65536 := by
  induction ts with
  | nil => simp [tot]
  | cons t ts ih =>
    have := ih (fun t ht => h t (List.mem_cons_of_mem _ ht))
    have := h t (List.mem_cons_self ..)
    rw [tot_cons, List.length_cons]
    omega

theorem writes_fold (base limit : Int) (ts : List (List Int)) (ms : List MovedG) (cur : Int) (cs : List CallG) (h : cur + (tot ts : Nat) ≤ limit) :
    (ts.map writeP).foldl (fun r p => (r.1 ++ [(moveG base limit r.2.1 p).1], (moveG base limit r.2.1 p).2.1, r.2.2 ++ (moveG base limit r.2.1 p).2.2)) (ms, cur, cs) =
      (ms ++ ts.map (fun t => ⟨(t.length : Nat), 0⟩), cur + (tot ts : Nat), cs ++ callsOf cur ts) := by
  induction ts generalizing ms cur cs with
  | nil => simp [tot, callsOf]
  | cons t ts ih =>
    rw [tot_cons] at h
    have hu : underG limit cur t.length = ⟨t.length, 0⟩ := by unfold underG; rw [if_neg (by omega)]
    have hm : moveG base limit cur (writeP t) = (⟨t.length, 0⟩, cur + t.length, [⟨cur, t⟩]) := by simp [moveG, writeP, hu]
    simp only [List.map_cons, List.foldl_cons, hm]
    rw [ih _ _ _ (by omega), tot_cons]
    simp only [callsOf, List.append_assoc, List.singleton_append, Prod.mk.injEq, true_and, and_true]
    omega
theorem writes_run (base limit : Int) (ts : List (List Int)) (h : base + (tot ts : Nat) ≤ limit) : runG base limit (ts.map writeP) = (ts.map (fun t => ⟨(t.length : Nat), 0⟩), base + (tot ts : Nat), callsOf base ts) := by
  unfold runG
  rw [writes_fold base limit ts [] base [] h]
  simp

end Go.Proofs.YtnmdjhkeekhfbaaDoor
