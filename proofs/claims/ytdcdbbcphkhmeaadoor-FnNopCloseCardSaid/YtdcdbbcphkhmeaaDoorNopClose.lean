/-
  laws.FnNopClose returns true, whatever the arguments.
-/
import Derived.Test.YtdcdbbcphkhmeaaDoorNopRest
namespace Go.Proofs.YtdcdbbcphkhmeaaDoor
open Go.RowKit
set_option linter.unusedVariables false
set_option maxRecDepth 100000

/-- A close, then each read, with two closes behind it where asked. -/
def mixSteps (zs : List Int) (bs : List Bool) : Nat → List (Int × Int)
  | 0 => [(1, 0)]
  | k + 1 => (mixSteps zs bs k ++ [(0, zs.getD k 0)]) ++ (if bs.getD k false then [(1, 0), (1, 0)] else [])
/-- The reads among some steps. -/
def readsOf (l : List (Int × Int)) : List (Int × Int) := l.filter fun st => st.1 == 0
theorem readsOf_append (a b : List (Int × Int)) : readsOf (a ++ b) = readsOf a ++ readsOf b := by simp [readsOf]
theorem mixSteps_length_le (zs : List Int) (bs : List Bool) (k : Nat) : (mixSteps zs bs k).length ≤ 3 * k + 1 := by
  induction k with
  | zero => simp [mixSteps]
  | succ k ih =>
    rw [mixSteps, List.length_append, List.length_append]
    split <;> simp <;> omega
theorem mixSteps_reads (zs : List Int) (bs : List Bool) (k : Nat) (h : k ≤ zs.length) : readsOf (mixSteps zs bs k) = readSteps (zs.take k) := by
  induction k with
  | zero => simp [mixSteps, readsOf, readSteps]
  | succ k ih =>
    have hk : k < zs.length := h
    have e : zs.getD k 0 = zs[k] := by simp [hk]
    have e2 : readSteps (zs.take (k + 1)) = readSteps (zs.take k) ++ [(0, zs[k])] := by rw [List.take_succ_eq_append_getElem hk]; unfold readSteps; rw [List.map_append]; rfl
    have e3 : readsOf [((0 : Int), zs[k])] = [(0, zs[k])] := rfl
    have e4 : readsOf [((1 : Int), (0 : Int)), (1, 0)] = [] := rfl
    rw [mixSteps, readsOf_append, readsOf_append, ih (by omega), e, e2, e3]
    split
    · rw [e4, List.append_nil]
    · exact List.append_nil _
theorem mixSteps_mem (zs : List Int) (bs : List Bool) (k : Nat) (h : k ≤ zs.length) : ∀ st ∈ mixSteps zs bs k, st = (1, 0) ∨ (st.1 = 0 ∧ st.2 ∈ zs) := by
  induction k with
  | zero => simp [mixSteps]
  | succ k ih =>
    have hk : k < zs.length := h
    intro st hst
    rw [mixSteps, List.mem_append, List.mem_append] at hst
    rcases hst with (hst | hst) | hst
    · exact ih (by omega) st hst
    · rw [List.mem_singleton] at hst
      subst hst
      refine .inr ⟨rfl, ?_⟩
      have e : zs.getD k 0 = zs[k] := by simp [hk]
      show zs.getD k 0 ∈ zs
      rw [e]
      exact List.getElem_mem hk
    · split at hst
      · simp at hst; exact .inl hst
      · simp at hst

/-- A close changes nothing: the state hangs on the reads alone. -/
theorem Src.after_reads (s : Src) (l : List (Int × Int)) : (s.after l).2 = (s.after (readsOf l)).2 := by
  suffices H : ∀ n ≤ l.length, (s.after (l.take n)).2 = (s.after (readsOf (l.take n))).2 by
    have := H l.length (Nat.le_refl _)
    rwa [List.take_length] at this
  intro n hn
  induction n with
  | zero => rfl
  | succ n ih0 =>
    have ih := ih0 (by omega)
    rw [List.take_succ_eq_append_getElem hn]
    generalize l[n] = st at *
    generalize l.take n = l' at *
    rw [readsOf_append, s.after_snoc]
    by_cases h : st.1 = 0
    · have e : readsOf [st] = [st] := by simp [readsOf, h]
      rw [e, s.after_snoc, ih]
    · have e : readsOf [st] = [] := by simp [readsOf, h]
      rw [e, List.append_nil, ← ih]
      unfold Src.stepG
      rw [if_neg h]

theorem Src.close_get (s : Src) (l : List (Int × Int)) (j : Nat) (h : j < l.length) (h1 : l[j] = (1, 0)) : (s.after l).1[j]? = some ⟨[], 0, 0, true⟩ := by
  rw [s.after_get l j h, h1]
  rfl
theorem readsOf_get (l : List (Int × Int)) (j : Nat) (h : j < l.length) (h1 : l[j].1 = 0) : ∃ hr : (readsOf (l.take j)).length < (readsOf l).length, (readsOf l)[(readsOf (l.take j)).length] = l[j] ∧ (readsOf l).take (readsOf (l.take j)).length = readsOf (l.take j) := by
  have e : l = l.take j ++ (l[j] :: l.drop (j + 1)) := by
    rw [← List.drop_eq_getElem_cons h, List.take_append_drop]
  have e2 : readsOf l = readsOf (l.take j) ++ (l[j] :: readsOf (l.drop (j + 1))) := by
    have e3 : readsOf (l[j] :: l.drop (j + 1)) = l[j] :: readsOf (l.drop (j + 1)) := by
      generalize l.drop (j + 1) = d
      unfold readsOf
      rw [List.filter_cons_of_pos (by simp [h1])]
    rw [← e3, ← readsOf_append, ← e]
  refine ⟨by rw [e2]; simp, ?_, ?_⟩
  · have : (readsOf l)[(readsOf (l.take j)).length]? = some l[j] := by rw [e2]; simp
    exact (List.getElem?_eq_some_iff.1 this).2
  · rw [e2]; simp
/-- A read's result is that of the plain run's read. -/
theorem Src.read_get (s : Src) (l : List (Int × Int)) (j : Nat) (h : j < l.length) (h1 : l[j].1 = 0) : (readsOf (l.take j)).length < (readsOf l).length ∧ ∃ g, (s.after l).1[j]? = some g ∧ (s.after (readsOf l)).1[(readsOf (l.take j)).length]? = some g := by
  obtain ⟨hr, e1, e2⟩ := readsOf_get l j h h1
  refine ⟨hr, _, s.after_get l j h, ?_⟩
  rw [s.after_get _ _ hr, e1, e2, s.after_reads (l.take j)]
theorem readsOf_take_read (l : List (Int × Int)) (j : Nat) (h : j < l.length) (h1 : l[j].1 = 0) : (readsOf (l.take (j + 1))).length = (readsOf (l.take j)).length + 1 := by
  rw [List.take_succ_eq_append_getElem h, readsOf_append]
  have e : readsOf [l[j]] = [l[j]] := by simp [readsOf, h1]
  rw [e]; simp
theorem readsOf_take_close (l : List (Int × Int)) (j : Nat) (h : j < l.length) (h1 : l[j] = (1, 0)) : (readsOf (l.take (j + 1))).length = (readsOf (l.take j)).length := by
  rw [List.take_succ_eq_append_getElem h, readsOf_append, h1]
  have e : readsOf [((1 : Int), (0 : Int))] = [] := by simp [readsOf]
  rw [e]; simp
theorem stepCells_append (a b : List (Int × Int)) : stepCells (a ++ b) = stepCells a ++ stepCells b := by simp [stepCells]

/-- A row of Booleans that came in. -/
def Bl (w : World) (A : Option Addr) (bs : List Bool) : Prop := 0 < bs.length → ∃ ad, A = some ad ∧ ad.block < w.heap.size ∧ ∀ j b, bs[j]? = some b → w.cell? (ad.add j) = some (.bool b)

theorem wpList_append_few' {P : Program} {w : World} {ops : Array Oper} {rest : List Oper} {o : Oper} {a : Act} {Q : Exit → Act → World → Prop} (hgd : o.guard = none) (s x : Operand) (t : TypeId)
    (ho : o.op = .call { callee := .builtin .append, args := #[s, x], argTypes := #[t, t] })
    (base : Nat) (e : TypeId) (z : Value) (size bytes : Nat) (ht : P.underlying t = some (.slice e)) (hinfo : (P.info? e).map (fun i => (i.zero, i.size, i.bytes)) = some (some z, size, bytes)) (hzs : z.cells.size = size) (hsz : 0 < size)
    (v : Value) (n : Nat) (xs : List Value) (hs : a.eval s = v) (hown : w.ownsRow base e size v n xs)
    (m : Nat) (news : List Value) (H : Nat) (hx : a.eval x = .slice (some ⟨H, 0, none⟩) m m) (hl : news.length = m * size) (h1 : ∀ u ∈ news, u.oneCell' = true)
    (h63 : n + m ≤ maxLen) (hbytes : (n + m) * bytes ≤ 140737488355328) (hbase : base ≤ w.heap.size) (hH : w.heap.size = H)
    (h : ∀ v' w', w'.ownsRow base e size v' (n + m) (xs ++ news) → Turns (fun k => v.ownBlock = some k) w w' → Near w v v' → wpList P ops Q rest (a.put o.dst v') w') : wpList P ops Q (o :: rest) a (w.alloc (.cells news.toArray e)) := by
  subst hH
  refine wpList_append_sl hgd s x t ho base e z size bytes ht hinfo hzs hsz v n xs hs (hown.alloc _) _ m m news hx (fun e => by cases e) (Sl.few w e news size m hl) h1 h63 hbytes (by simp; omega) ?_
  intro v' w' h2 h3 h4
  refine h v' w' h2 (Turns.trans (Turns.of_new (new_alloc w _) _) h3 (fun _ _ hi => hi)) ?_
  rcases h4 with h4 | h4
  · exact .inl h4
  · exact .inr ⟨_, h4, by simp⟩

/-- Both rows of steps behind k sizes. -/
structure MRel (w : World) (zs : List Int) (bs : List Bool) (k : Nat) (v v2 : Value) (wr : World) : Prop where
  own1 : wr.ownsRow w.heap.size 26 2 v (mixSteps zs bs k).length (stepCells (mixSteps zs bs k))
  own2 : wr.ownsRow w.heap.size 26 2 v2 k (stepCells (readSteps (zs.take k)))
  ap : ∀ g, v.ownBlock = some g → v2.ownBlock ≠ some g
  new_ : New w wr

/-- Both rows behind one read more, ahead of the closes. -/
structure MMid (w : World) (zs : List Int) (bs : List Bool) (k : Nat) (z : Int) (v v2 : Value) (wr : World) : Prop where
  own1 : wr.ownsRow w.heap.size 26 2 v ((mixSteps zs bs k).length + 1) (stepCells (mixSteps zs bs k) ++ [.int .i64 0, .int .i64 z])
  own2 : wr.ownsRow w.heap.size 26 2 v2 (k + 1) (stepCells (readSteps (zs.take (k + 1))))
  ap : ∀ g, v.ownBlock = some g → v2.ownBlock ≠ some g
  new_ : New w wr

theorem MRel.mid {w wr w1 w2 : World} {zs : List Int} {bs : List Bool} {k : Nat} {v v2 v' v2' : Value} (hlt : k < zs.length) (h : MRel w zs bs k v v2 wr)
    (ho1 : w1.ownsRow w.heap.size 26 2 v' ((mixSteps zs bs k).length + 1) (stepCells (mixSteps zs bs k) ++ [.int .i64 0, .int .i64 zs[k]])) (ht1 : Turns (fun k => v.ownBlock = some k) wr w1) (hn1 : Near wr v v')
    (ho2 : w2.ownsRow w.heap.size 26 2 v2' (k + 1) (stepCells (readSteps (zs.take k)) ++ [.int .i64 0, .int .i64 zs[k]])) (ht2 : Turns (fun k => v2.ownBlock = some k) w1 w2) (hn2 : Near w1 v2 v2') :
    MMid w zs bs k zs[k] v' v2' w2 := by
  have key : ∀ g, v2.ownBlock = some g → v'.ownBlock ≠ some g := fun g hg => Near.ne hn1 (h.own2.lt g hg).2 (fun e => h.ap g e hg)
  have e2 : readSteps (zs.take (k + 1)) = readSteps (zs.take k) ++ [(0, zs[k])] := by rw [List.take_succ_eq_append_getElem hlt]; unfold readSteps; rw [List.map_append]; rfl
  refine ⟨own_turns ho1 ht2 (fun g hg e => key g e hg), by rw [e2, stepCells_snoc]; exact ho2, fun g hg e => ?_, new_turns (new_turns h.new_ ht1 (fun g hg => (h.own1.lt g hg).1)) ht2 (fun g hg => (h.own2.lt g hg).1)⟩
  exact Near.ne hn2 (ho1.lt g hg).2 (fun e' => key g e' hg) e

theorem MMid.quiet {w wr : World} {zs : List Int} {bs : List Bool} {k : Nat} {v v2 : Value} (hlt : k < zs.length) (h : MMid w zs bs k zs[k] v v2 wr) (hb : bs.getD k false = false) : MRel w zs bs (k + 1) v v2 wr := by
  have e : mixSteps zs bs (k + 1) = mixSteps zs bs k ++ [(0, zs[k])] := by
    have e0 : zs.getD k 0 = zs[k] := by simp [hlt]
    rw [mixSteps, hb, e0]; simp
  refine ⟨?_, h.own2, h.ap, h.new_⟩
  rw [e, stepCells_snoc, List.length_append]
  exact h.own1
theorem MMid.closes {w wr w1 : World} {zs : List Int} {bs : List Bool} {k : Nat} {v v2 v' : Value} (hlt : k < zs.length) (h : MMid w zs bs k zs[k] v v2 wr) (hb : bs.getD k false = true)
    (ho : w1.ownsRow w.heap.size 26 2 v' ((mixSteps zs bs k).length + 1 + 2) ((stepCells (mixSteps zs bs k) ++ [.int .i64 0, .int .i64 zs[k]]) ++ [.int .i64 1, .int .i64 0, .int .i64 1, .int .i64 0])) (ht : Turns (fun k => v.ownBlock = some k) wr w1) (hn : Near wr v v') : MRel w zs bs (k + 1) v' v2 w1 := by
  have e : mixSteps zs bs (k + 1) = (mixSteps zs bs k ++ [(0, zs[k])]) ++ [(1, 0), (1, 0)] := by
    have e0 : zs.getD k 0 = zs[k] := by simp [hlt]
    rw [mixSteps, hb, e0]; simp
  refine ⟨?_, own_turns h.own2 ht (fun g hg e => h.ap g e hg), fun g hg e => Near.ne hn (h.own2.lt g e).2 (fun e' => h.ap g e' e) hg, new_turns h.new_ ht (fun g hg => (h.own1.lt g hg).1)⟩
  have e3 : stepCells [((1 : Int), (0 : Int)), (1, 0)] = [.int .i64 1, .int .i64 0, .int .i64 1, .int .i64 0] := rfl
  have e4 : stepCells [((0 : Int), zs[k])] = [.int .i64 0, .int .i64 zs[k]] := rfl
  have e5 : (mixSteps zs bs (k + 1)).length = (mixSteps zs bs k).length + 1 + 2 := by rw [e]; simp
  rw [e5, e, stepCells_append, stepCells_append, e3, e4]
  exact ho

end Go.Proofs.YtdcdbbcphkhmeaaDoor
