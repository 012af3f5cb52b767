/-
  What impl.NopCloser does for steps that read or close: what each step returns, one behind the other.
-/
import Derived.Test.YtdcdbbcphkhmeaaDoorNop
namespace Go.Proofs.YtdcdbbcphkhmeaaDoor
open Go.RowKit
set_option linter.unusedVariables false
set_option maxRecDepth 100000

/-- What one step returns. -/
structure GotG where
  data : List Int
  n : Nat
  code : Nat
  has : Bool

/-- A step that reads (0) or closes: what it returns, and where the source then stands. -/
def Src.stepG (s : Src) (at_ pc : Nat) (st : Int × Int) : GotG × Nat × Nat :=
  if st.1 = 0 then (⟨(s.read at_ pc st.2.toNat).bytes, (s.read at_ pc st.2.toNat).bytes.length, (s.read at_ pc st.2.toNat).code, true⟩, (s.read at_ pc st.2.toNat).at_, (s.read at_ pc st.2.toNat).pc)
  else (⟨[], 0, 0, true⟩, at_, pc)

def Src.after (s : Src) (l : List (Int × Int)) : List GotG × Nat × Nat :=
  l.foldl (fun r st => (r.1 ++ [(s.stepG r.2.1 r.2.2 st).1], (s.stepG r.2.1 r.2.2 st).2)) ([], 0, 0)

theorem Src.after_snoc (s : Src) (l : List (Int × Int)) (st : Int × Int) : s.after (l ++ [st]) = ((s.after l).1 ++ [(s.stepG (s.after l).2.1 (s.after l).2.2 st).1], (s.stepG (s.after l).2.1 (s.after l).2.2 st).2) := by
  simp [Src.after, List.foldl_append]

theorem Src.stepG_le (s : Src) (at_ pc : Nat) (st : Int × Int) (h : at_ ≤ s.data.length) : (s.stepG at_ pc st).2.1 ≤ s.data.length := by
  unfold Src.stepG
  split
  · exact s.read_le _ _ _ h
  · exact h

theorem Src.foldl_length (s : Src) (l : List (Int × Int)) : ∀ r : List GotG × Nat × Nat,
    (l.foldl (fun r st => (r.1 ++ [(s.stepG r.2.1 r.2.2 st).1], (s.stepG r.2.1 r.2.2 st).2)) r).1.length = r.1.length + l.length := by
  induction l with
  | nil => intro r; rfl
  | cons st l ih => intro r; rw [List.foldl_cons, ih]; simp; omega
theorem Src.after_length (s : Src) (l : List (Int × Int)) : (s.after l).1.length = l.length := by
  rw [Src.after, s.foldl_length]
  simp

/-- The four cells of a result, and the bytes that its slice reads as. -/
def GotAt (B : Nat) (w : World) (g : GotG) (cells : List Value) : Prop :=
  ∃ A c, cells = [.slice A g.data.length c, .int .i64 (g.n : Nat), .int .i64 (g.code : Nat), .bool g.has] ∧ Sl w 1 A g.data.length (g.data.map (Value.int .u8)) ∧ (A = none → c = 0) ∧ (∀ ad, A = some ad → B ≤ ad.block ∧ ∃ cs, At w ad.block 5 cs)

theorem GotAt.turns {B : Nat} {w w' : World} {g : GotG} {cells : List Value} {S : Nat → Prop} (h : GotAt B w g cells) (ht : Turns S w w') (hS : ∀ k cs, At w k 5 cs → ¬ S k) : GotAt B w' g cells := by
  obtain ⟨A, c, e, hsl, hn, hb⟩ := h
  refine ⟨A, c, e, hsl.turns ht (fun ad e _ => ?_), hn, fun ad e => ?_⟩
  · obtain ⟨_, cs, hc⟩ := hb ad e
    exact hS _ _ hc
  · obtain ⟨hB, cs, hc⟩ := hb ad e
    exact ⟨hB, cs, hc.turns ht (hS _ _ hc)⟩

/-- The row of the results. -/
def GotsAt (B : Nat) (w : World) (gs : List GotG) (css : List (List Value)) : Prop := css.length = gs.length ∧ ∀ (i : Nat) (g : GotG) (cells : List Value), gs[i]? = some g → css[i]? = some cells → GotAt B w g cells

theorem GotsAt.turns {B : Nat} {w w' : World} {gs : List GotG} {css : List (List Value)} {S : Nat → Prop} (h : GotsAt B w gs css) (ht : Turns S w w') (hS : ∀ k cs, At w k 5 cs → ¬ S k) : GotsAt B w' gs css :=
  ⟨h.1, fun i g cells h1 h2 => (h.2 i g cells h1 h2).turns ht hS⟩

theorem GotsAt.snoc {B : Nat} {w : World} {gs : List GotG} {css : List (List Value)} {g : GotG} {cells : List Value} (h : GotsAt B w gs css) (hg : GotAt B w g cells) : GotsAt B w (gs ++ [g]) (css ++ [cells]) := by
  refine ⟨by simp [h.1], fun i g' cells' h1 h2 => ?_⟩
  by_cases hi : i < gs.length
  · rw [List.getElem?_append_left hi] at h1
    rw [List.getElem?_append_left (by rw [h.1]; exact hi)] at h2
    exact h.2 i g' cells' h1 h2
  · rw [List.getElem?_append_right (by omega)] at h1
    rw [List.getElem?_append_right (by rw [h.1]; omega), h.1] at h2
    have hz : i - gs.length = 0 := by
      have := (List.getElem?_eq_some_iff.1 h1).1
      simp at this
      omega
    rw [hz] at h1 h2
    simp at h1 h2
    subst h1
    subst h2
    exact hg

theorem infoGot : (Tryd.prog.info? 37).map (fun i => (i.zero, i.size, i.bytes)) = some (some (.agg #[.slice none 0 0, .int .i64 0, .int .i64 0, .bool false]), 4, 48) := by kernel_rfl

/-- The cells of the steps. -/
def stepCells (l : List (Int × Int)) : List Value := l.flatMap fun st => [.int .i64 st.1, .int .i64 st.2]

theorem stepCells_get (l : List (Int × Int)) (k : Nat) (h : k < l.length) : (stepCells l)[k * 2]? = some (.int .i64 l[k].1) ∧ (stepCells l)[k * 2 + 1]? = some (.int .i64 l[k].2) := by
  induction l generalizing k with
  | nil => simp at h
  | cons st l ih =>
    cases k with
    | zero => simp [stepCells]
    | succ k =>
      have e : stepCells (st :: l) = [.int .i64 st.1, .int .i64 st.2] ++ stepCells l := rfl
      have := ih k (by simpa using h)
      rw [e]
      rw [List.getElem?_append_right (by simp; omega), List.getElem?_append_right (by simp; omega)]
      simp only [List.length_cons, List.length_nil, List.getElem_cons_succ]
      exact ⟨by rw [show (k + 1) * 2 - (0 + 1 + 1) = k * 2 by omega]; exact this.1, by rw [show (k + 1) * 2 + 1 - (0 + 1 + 1) = k * 2 + 1 by omega]; exact this.2⟩

def ClosePost (w : World) (e : Ending) (w' : World) : Prop :=
  ∃ A c, e = .returned (.agg #[.slice A 0 c, .int .i64 0, .int .i64 0, .bool true]) ∧ (A = none → c = 0) ∧ (∀ ad, A = some ad → w.heap.size ≤ ad.block ∧ ∃ cs, At w' ad.block 5 cs) ∧ New w w'

theorem step_close {rb : Nat} {road : Value} {w : World} {z : Int} {direct : Bool} :
    Calls Tryd.prog 13 #[closer direct rb road, .agg #[.int .i64 1, .int .i64 z]] w (ClosePost w) := by
  cases direct
  case false =>
    unfold closer handOn
    have hme := meth_close_plain
    have hcf := callClose1
    go_enter Tryd.func13, Tryd.ntmps13
    go_wp2_with fail
    refine (close_plain _ _).mono ?_
    rintro e w1 ⟨rfl, hN1⟩
    go_wp2_with fail
    refine (number_nil _).mono ?_
    rintro e w2 ⟨rfl, rfl⟩
    have hg1 : At w1 (w.heap.size + 1) 37 #[.slice none 0 0, .int .i64 0, .int .i64 0, .bool false] := At.new ((At.made' (by simp) _ _).laid _) hN1
    have hl1 : At w1 (w.heap.size + 2) 5 #[] := At.new (At.made' (by simp) _ _) hN1
    have hN : New w w1 := new_trans (new_al (new_al (new_alloc _ _) _) _) hN1
    have g0 := hg1.get 0
    have g1 := hg1.get 1
    have g2 := hg1.get 2
    have g3 := hg1.get 3
    have z0 := hg1.soft 0
    have z1 := hg1.soft 1
    have z2 := hg1.soft 2
    have z3 := hg1.soft 3
    have HG1 := hide hg1; have HN := hide hN; have HL1 := hide hl1
    clear hg1 hN hN1 hme hcf hl1
    go_wp2
    have hA3 := ((((Sole.start HG1.out).put 0 (.slice (some ⟨w.heap.size + 2, 0, none⟩) 0 0)).put 1 (.int .i64 0)).put 2 (.int .i64 0)).put 3 (.bool true)
    generalize (((w1.setCell ⟨w.heap.size + 1, 0, none⟩ (.slice (some ⟨w.heap.size + 2, 0, none⟩) 0 0)).setCell ⟨w.heap.size + 1, 1, none⟩ (.int .i64 0)).setCell ⟨w.heap.size + 1, 2, none⟩ (.int .i64 0)).setCell ⟨w.heap.size + 1, 3, none⟩ (.bool true) = w3 at *
    have r0 : w3.cell? ⟨w.heap.size + 1, 0, none⟩ = some (.slice (some ⟨w.heap.size + 2, 0, none⟩) 0 0) := hA3.at_.get 0
    have r1 : w3.cell? ⟨w.heap.size + 1, 1, none⟩ = some (.int .i64 0) := hA3.at_.get 1
    have r2 : w3.cell? ⟨w.heap.size + 1, 2, none⟩ = some (.int .i64 0) := hA3.at_.get 2
    have r3 : w3.cell? ⟨w.heap.size + 1, 3, none⟩ = some (.bool true) := hA3.at_.get 3
    refine bodyPost_ret (v := .agg #[.slice (some ⟨w.heap.size + 2, 0, none⟩) 0 0, .int .i64 0, .int .i64 0, .bool true]) (by simp [results, Tryd.results13, go_sem, r0, r1, r2, r3]) rfl ?_
    exact ⟨_, _, rfl, (fun e => by cases e), (fun ad e => by cases e; exact ⟨by simp, _, hA3.turns.at_ HL1.out (by simp)⟩), new_turns HN.out hA3.turns (fun k e => by omega)⟩
  case true =>
    unfold closer handOn
    have hme := meth_close_direct
    have hcf := callClose2
    go_enter Tryd.func13, Tryd.ntmps13
    go_wp2_with fail
    refine (close_direct _ _).mono ?_
    rintro e w1 ⟨rfl, hN1⟩
    go_wp2_with fail
    refine (number_nil _).mono ?_
    rintro e w2 ⟨rfl, rfl⟩
    have hg1 : At w1 (w.heap.size + 1) 37 #[.slice none 0 0, .int .i64 0, .int .i64 0, .bool false] := At.new ((At.made' (by simp) _ _).laid _) hN1
    have hl1 : At w1 (w.heap.size + 2) 5 #[] := At.new (At.made' (by simp) _ _) hN1
    have hN : New w w1 := new_trans (new_al (new_al (new_alloc _ _) _) _) hN1
    have g0 := hg1.get 0
    have g1 := hg1.get 1
    have g2 := hg1.get 2
    have g3 := hg1.get 3
    have z0 := hg1.soft 0
    have z1 := hg1.soft 1
    have z2 := hg1.soft 2
    have z3 := hg1.soft 3
    have HG1 := hide hg1; have HN := hide hN; have HL1 := hide hl1
    clear hg1 hN hN1 hme hcf hl1
    go_wp2
    have hA3 := ((((Sole.start HG1.out).put 0 (.slice (some ⟨w.heap.size + 2, 0, none⟩) 0 0)).put 1 (.int .i64 0)).put 2 (.int .i64 0)).put 3 (.bool true)
    generalize (((w1.setCell ⟨w.heap.size + 1, 0, none⟩ (.slice (some ⟨w.heap.size + 2, 0, none⟩) 0 0)).setCell ⟨w.heap.size + 1, 1, none⟩ (.int .i64 0)).setCell ⟨w.heap.size + 1, 2, none⟩ (.int .i64 0)).setCell ⟨w.heap.size + 1, 3, none⟩ (.bool true) = w3 at *
    have r0 : w3.cell? ⟨w.heap.size + 1, 0, none⟩ = some (.slice (some ⟨w.heap.size + 2, 0, none⟩) 0 0) := hA3.at_.get 0
    have r1 : w3.cell? ⟨w.heap.size + 1, 1, none⟩ = some (.int .i64 0) := hA3.at_.get 1
    have r2 : w3.cell? ⟨w.heap.size + 1, 2, none⟩ = some (.int .i64 0) := hA3.at_.get 2
    have r3 : w3.cell? ⟨w.heap.size + 1, 3, none⟩ = some (.bool true) := hA3.at_.get 3
    refine bodyPost_ret (v := .agg #[.slice (some ⟨w.heap.size + 2, 0, none⟩) 0 0, .int .i64 0, .int .i64 0, .bool true]) (by simp [results, Tryd.results13, go_sem, r0, r1, r2, r3]) rfl ?_
    exact ⟨_, _, rfl, (fun e => by cases e), (fun ad e => by cases e; exact ⟨by simp, _, hA3.turns.at_ HL1.out (by simp)⟩), new_turns HN.out hA3.turns (fun k e => by omega)⟩

/-- The state of the loop behind k steps. -/
def NopInv (B : Nat) (s : Src) (steps : List (Int × Int)) (rb : Nat) (dv pv : Value) (E : Nat → Addr) (w : World) (k : Nat) (v : Value) (wr : World) : Prop :=
  ∃ av asked css, Rd B wr rb s dv pv av (s.after (steps.take k)).2.1 (s.after (steps.take k)).2.2 asked ∧ asked.length ≤ k ∧ (s.after (steps.take k)).2.1 ≤ s.data.length ∧
    wr.ownsRow B 37 4 v k css.flatten ∧ GotsAt B wr (s.after (steps.take k)).1 css ∧ (∀ c ∈ css, c.length = 4) ∧ Env B E wr ∧ Below B w wr

/-- One step's result is appended. -/
theorem nop_more {B rb k : Nat} {s : Src} {steps : List (Int × Int)} {dv pv av av' v v' : Value} {E : Nat → Addr} {w wr w1 w2 : World} {asked asked' : List Int} {css : List (List Value)} {cells : List Value} {st : Int × Int}
    (hst : steps[k]? = some st) (hR : Rd B wr rb s dv pv av (s.after (steps.take k)).2.1 (s.after (steps.take k)).2.2 asked)
    (hle : (s.after (steps.take k)).2.1 ≤ s.data.length)
    (hown : wr.ownsRow B 37 4 v k css.flatten) (hgs : GotsAt B wr (s.after (steps.take k)).1 css) (hcl : ∀ c ∈ css, c.length = 4) (hE : Env B E wr) (hb : Below B w wr)
    (ht1 : Turns (fun k => k = rb ∨ av.ownBlock = some k) wr w1)
    (hR1 : Rd B w1 rb s dv pv av' (s.stepG (s.after (steps.take k)).2.1 (s.after (steps.take k)).2.2 st).2.1 (s.stepG (s.after (steps.take k)).2.1 (s.after (steps.take k)).2.2 st).2.2 asked') (ha' : asked'.length ≤ k + 1)
    (hg1 : GotAt B w1 (s.stepG (s.after (steps.take k)).2.1 (s.after (steps.take k)).2.2 st).1 cells)
    (hown2 : w2.ownsRow B 37 4 v' (k + 1) (css.flatten ++ cells)) (ht2 : Turns (fun k => v.ownBlock = some k) w1 w2) : NopInv B s steps rb dv pv E w (k + 1) v' w2 := by
  have hk : k < steps.length := (List.getElem?_eq_some_iff.1 hst).1
  have e : steps.take (k + 1) = steps.take k ++ [st] := by rw [List.take_add_one, hst]; rfl
  have hsz := ht1.size
  have hown1 : w1.ownsRow B 37 4 v k css.flatten := own_turns hown ht1 (fun g hg h => by
    rcases h with h | h
    · subst h; exact own_ne hown hR.blk (by decide) hg
    · rcases hown.2 with ⟨rfl, _⟩ | ⟨g', cap, cur, rfl, _, hh, _⟩
      · simp [Value.ownBlock] at hg
      · have e2 : g' = g := by simpa [Value.ownBlock] using hg
        subst e2
        exact own_ne hR.notes (t := 37) (cs := cur) hh (by decide) h)
  have hBw : ∀ k, (k = rb ∨ av.ownBlock = some k) → B ≤ k := fun k hk => by
    rcases hk with rfl | hk
    · exact hR.base
    · exact (hR.notes.lt k hk).1
  have hv1 : ∀ {w : World} {n : Nat} {xs : List Value}, w.ownsRow B 37 4 v n xs → ∀ k cs (t : TypeId), 37 ≠ t → At w k t cs → v.ownBlock ≠ some k := fun h k cs t hne hc => own_ne h hc hne
  have hle2 := s.stepG_le (s.after (steps.take k)).2.1 (s.after (steps.take k)).2.2 st hle
  have hBB : B ≤ wr.heap.size := by have := hR.base; have := hR.blk.size_lt; omega
  have hE1 := hE.turns ht1 hBw
  refine ⟨av', asked', css ++ [cells], ?_, ha', ?_, ?_, ?_, ?_, hE1.turns ht2 (fun k hk => (hown1.lt k hk).1), ?_⟩
  · rw [e, s.after_snoc]
    refine hR1.turns ht2 (hv1 hown1 rb _ _ (by decide) hR1.blk) (fun g hg h => ?_) (fun g hg h => ?_) (fun g hg h => ?_)
    · rcases hR1.data.2 with ⟨rfl, _⟩ | ⟨g', cap, cur, rfl, _, hh, _⟩
      · simp [Value.ownBlock] at hg
      · have e2 : g' = g := by simpa [Value.ownBlock] using hg
        subst e2
        exact hv1 hown1 g' cur 5 (by decide) hh h
    · rcases hR1.pieces.2 with ⟨rfl, _⟩ | ⟨g', cap, cur, rfl, _, hh, _⟩
      · simp [Value.ownBlock] at hg
      · have e2 : g' = g := by simpa [Value.ownBlock] using hg
        subst e2
        exact hv1 hown1 g' cur 3 (by decide) hh h
    · rcases hR1.notes.2 with ⟨rfl, _⟩ | ⟨g', cap, cur, rfl, _, hh, _⟩
      · simp [Value.ownBlock] at hg
      · have e2 : g' = g := by simpa [Value.ownBlock] using hg
        subst e2
        exact hv1 hown1 g' cur 3 (by decide) hh h
  · rw [e, s.after_snoc]; exact hle2
  · rw [List.flatten_append]; simpa using hown2
  · rw [e, s.after_snoc]
    refine GotsAt.turns (GotsAt.snoc (hgs.turns ht1 (fun k cs hc h => ?_)) hg1) ht2 (fun k cs hc => hv1 hown1 k cs 5 (by decide) hc)
    rcases h with h | h
    · subst h; exact hc.apart hR.blk (by decide) rfl
    · exact own_ne hR.notes hc (by decide) h
  · intro c hc
    rcases List.mem_append.1 hc with hc | hc
    · exact hcl c hc
    · rw [List.mem_singleton.1 hc]
      obtain ⟨A, c', e3, _⟩ := hg1
      rw [e3]; rfl
  · refine (hb.trans (ht1.below hBB (fun i hi h => by have := hBw i h; omega))).trans (ht2.below (by omega) (fun i hi h => by have := (hown1.lt i h).1; omega))

theorem Rd.mono {B B' rb at_ pc : Nat} {w : World} {s : Src} {dv pv av : Value} {asked : List Int} (h : Rd B w rb s dv pv av at_ pc asked) (hB : B' ≤ B) : Rd B' w rb s dv pv av at_ pc asked :=
  ⟨h.blk, own_mono h.data hB, own_mono h.pieces hB, own_mono h.notes hB, h.apart, Nat.le_trans hB h.base⟩

def StepAll (B rb : Nat) (s : Src) (dv pv av : Value) (at_ pc : Nat) (asked : List Int) (st : Int × Int) (w : World) (e : Ending) (w' : World) : Prop :=
  ∃ A c av' asked', e = .returned (.agg #[.slice A (s.stepG at_ pc st).1.data.length c, .int .i64 ((s.stepG at_ pc st).1.n : Nat), .int .i64 ((s.stepG at_ pc st).1.code : Nat), .bool (s.stepG at_ pc st).1.has]) ∧
    GotAt B w' (s.stepG at_ pc st).1 [.slice A (s.stepG at_ pc st).1.data.length c, .int .i64 ((s.stepG at_ pc st).1.n : Nat), .int .i64 ((s.stepG at_ pc st).1.code : Nat), .bool (s.stepG at_ pc st).1.has] ∧
    Rd B w' rb s dv pv av' (s.stepG at_ pc st).2.1 (s.stepG at_ pc st).2.2 asked' ∧ asked'.length ≤ asked.length + 1 ∧ Turns (fun k => k = rb ∨ av.ownBlock = some k) w w'

theorem step_any {B rb at_ pc : Nat} {w : World} {s : Src} {dv pv av road : Value} {asked : List Int} {E : Nat → Addr} {st : Int × Int} {direct : Bool} (h : Rd B w rb s dv pv av at_ pc asked) (hE : Env B E w)
    (ha : asked.length ≤ 900000000) (hle : at_ ≤ s.data.length) (hd : s.data.length ≤ 1000000000) (hpp : s.pieces.length ≤ 1000000000) (hk : st.1 = 0 ∨ st.1 = 1) (hz : st.2 ≤ 65536) (hBw : B ≤ w.heap.size) :
    Calls Tryd.prog 13 #[closer direct rb road, .agg #[.int .i64 st.1, .int .i64 st.2]] w (StepAll B rb s dv pv av at_ pc asked st w) := by
  obtain ⟨x, z⟩ := st
  rcases hk with rfl | rfl
  · refine (step_read h hE ha hle hd hpp hz hBw).mono ?_
    rintro e w' ⟨A, c, av', rfl, hsl, hAc, hA, hR, hn, ht⟩
    have es : s.stepG at_ pc (0, z) = (⟨(s.read at_ pc z.toNat).bytes, (s.read at_ pc z.toNat).bytes.length, (s.read at_ pc z.toNat).code, true⟩, (s.read at_ pc z.toNat).at_, (s.read at_ pc z.toNat).pc) := rfl
    unfold StepAll
    rw [es]
    refine ⟨A, c, av', _, rfl, ⟨A, c, rfl, hsl, hAc, fun ad e => ⟨Nat.le_trans hBw (hA ad e).1, (hA ad e).2⟩⟩, hR, by simp, ht⟩
  · refine (step_close).mono ?_
    rintro e w' ⟨A, c, rfl, hAc, hA, hN⟩
    have es : s.stepG at_ pc (1, z) = (⟨[], 0, 0, true⟩, at_, pc) := rfl
    unfold StepAll
    rw [es]
    exact ⟨A, c, av, asked, rfl, ⟨A, c, rfl, Sl.none_ _ _ _, hAc, fun ad e => ⟨Nat.le_trans hBw (hA ad e).1, (hA ad e).2⟩⟩, h.turns (Turns.of_new hN (fun _ => False)) (fun h => h) (fun _ _ h => h) (fun _ _ h => h) (fun _ _ h => h), by simp, Turns.of_new hN _⟩

def NopPost (s : Src) (steps : List (Int × Int)) (w : World) (e : Ending) (w' : World) : Prop :=
  ∃ v css, e = .returned v ∧ w'.ownsRow w.heap.size 37 4 v steps.length css.flatten ∧ GotsAt w.heap.size w' (s.after steps).1 css ∧ (∀ c ∈ css, c.length = 4) ∧ New w w'

set_option maxHeartbeats 1000000 in
theorem nopCloser_any {w : World} {s : Src} {steps : List (Int × Int)} {DA PA : Option Addr} {dc pc B0 : Nat} {sv : Value} {E : Nat → Addr} (hd : Sl w 1 DA s.data.length (s.data.map (Value.int .u8))) (hDn : DA = none → dc = 0)
    (hp : Sl w 1 PA s.pieces.length (s.pieces.map (Value.int .i64))) (hPn : PA = none → pc = 0) (hdl : s.data.length ≤ 1000000000) (hpl : s.pieces.length ≤ 1000000000)
    (hs : w.ownsRow B0 26 2 sv steps.length (stepCells steps)) (hsl : steps.length ≤ 1000000) (hk : ∀ st ∈ steps, (st.1 = 0 ∨ st.1 = 1) ∧ st.2 ≤ 65536) (hE : Env w.heap.size E w) :
    Calls Tryd.prog 7 #[.agg #[.slice DA s.data.length dc, .slice PA s.pieces.length pc, .bool s.together, .bool s.broken, .bool s.direct], sv] w (NopPost s steps w) := by
  obtain ⟨SA, sc, rfl, -, -⟩ := Sl.of_own hs
  have HD := hide hd; have HP := hide hp; have HDN := hide hDn; have HPN := hide hPn; have HS := hide hs; have HK := hide hk; have HE := hide hE
  clear hd hp hDn hPn hs hk hE
  go_enter Tryd.func7, Tryd.ntmps7
  go_wp2_with fail
  have hB : w.heap.size ≤ w.heap.size := Nat.le_refl _
  refine (open_any (by exact (HD.out.laid _).laid _) HDN.out (by exact (HP.out.laid _).laid _) HPN.out hdl hpl).mono ?_
  rintro e w1 ⟨rb, dv, pv, rfl, hRd, hN1⟩
  have hN : New w w1 := new_trans (new_al (new_alloc _ _) _) hN1
  have hR0 : Rd w.heap.size w1 rb s dv pv (.slice none 0 0) 0 0 [] := hRd.mono (by simp; omega)
  have HR0 := hide hR0; have HN := hide hN
  clear hRd hN1 hR0 hN
  go_wp2_with fail
  refine (nop_any _ _ _ _).mono ?_
  rintro e w2 ⟨rfl, rfl⟩
  go_wp2_with fail
  have hI0 : NopInv w.heap.size s steps rb dv pv E w 0 (.slice (some ⟨w1.heap.size, 0, none⟩) 0 0) (w1.alloc (.cells #[] 37)) := by
    have hlw := HN.out.size
    refine ⟨.slice none 0 0, [], [], ?_, Nat.le_refl _, Nat.zero_le _, lit_own _ _ (At.made _ _ _) hlw, ⟨rfl, by simp [Src.after]⟩, by simp, (HE.out.below HN.out).alloc _, HN.out.alloc hlw _⟩
    exact HR0.out.turns (Turns.of_new (new_alloc w1 _) (fun _ => False)) (fun h => h) (fun _ _ h => h) (fun _ _ h => h) (fun _ _ h => h)
  have HI0 := hide hI0
  clear hI0
  go_loopw [9, 10] (fun v i wr => ∃ k : Nat, k ≤ steps.length ∧ i = .int .i64 k ∧ Hid (NopInv w.heap.size s steps rb dv pv E w k v wr)) (fun _ i _ => steps.length - (intOf i).toNat)
  case atStart => exact ⟨0, Nat.zero_le _, rfl, HI0.out⟩
  case round =>
    obtain ⟨k, hk, rfl, hinv⟩ := hrel
    by_cases hlt : k < steps.length
    · rcases HS.out.2 with ⟨_, h0⟩ | ⟨g, scap, scur, hsv, _, hsg, hsc1, hsm, _⟩
      · omega
      cases hsv
      have hgs0 : g < w.heap.size := (Array.getElem?_eq_some_iff.1 hsg).1
      have hcell : ∀ j u, (stepCells steps)[j]? = some u → w.cell? ⟨g, j, none⟩ = some u := fun j u hu => add0 g j ▸ HS.out.cells (g := g) rfl j u hu
      clear hsg
      unfold maxLen at hsm
      obtain ⟨st, hst⟩ : ∃ st, steps[k]? = some st := ⟨steps[k], List.getElem?_eq_getElem hlt⟩
      have hsc := stepCells_get steps k hlt
      have hst2 : steps[k] = st := (List.getElem?_eq_some_iff.1 hst).2
      rw [hst2] at hsc
      obtain ⟨hk01, hz⟩ := HK.out st (List.mem_of_getElem? hst)
      obtain ⟨av, asked, css, hR, ha, hle, hown, hgs, hcl, hE, hb⟩ := hinv.out
      have q0 : wr.cell? ⟨g, k * 2, none⟩ = some (.int .i64 st.1) := (hb.cell (p := ⟨g, k * 2, none⟩) hgs0).trans (hcell _ _ hsc.1)
      have q1 : wr.cell? ⟨g, k * 2 + 1, none⟩ = some (.int .i64 st.2) := (hb.cell (p := ⟨g, k * 2 + 1, none⟩) hgs0).trans (hcell _ _ hsc.2)
      obtain ⟨x, z⟩ := st
      have HST := hide hst; have HR := hide hR; have HOWN := hide hown; have HGS := hide hgs; have HCL := hide hcl; have HEN := hide hE; have HB := hide hb
      obtain ⟨VA, vc, rfl, -, -⟩ := Sl.of_own hown
      clear hst hst2 hsc hR hown hgs hcl hE hb hcell hinv
      go_wp2_with fail
      have hBw : w.heap.size ≤ wr.heap.size := HB.out.size
      refine (step_any (st := (x, z)) HR.out HEN.out (by omega) hle hdl hpl hk01 hz hBw).mono ?_
      rintro e w3 ⟨A, c, av', asked', rfl, hg3, hR3, ha3, ht3⟩
      have hown3 := own_turns HOWN.out ht3 (fun g hg h => by
        rcases h with h | h
        · subst h; exact own_ne HOWN.out HR.out.blk (by decide) hg
        · rcases HOWN.out.2 with ⟨e1, _⟩ | ⟨g', cap, cur, e1, _, hh, _⟩
          · rw [e1] at hg; simp [Value.ownBlock] at hg
          · rw [e1] at hg
            have e2 : g' = g := by simpa [Value.ownBlock] using hg
            subst e2
            exact own_ne HR.out.notes (t := 37) (cs := cur) hh (by decide) h)
      have HOWN3 := hide hown3; have HG3 := hide hg3; have HR3 := hide hR3; have HT3 := hide ht3
      have hB3 : w.heap.size ≤ w3.heap.size := Nat.le_trans hBw ht3.size
      clear hown3 hg3 hR3 ht3 q0 q1
      go_wp2_with (at_builtin; (with_reducible refine wpList_append_one rfl (.tmp 25) (.tmp 32) 27 rfl w.heap.size 37 _ 4 48 Tryd.underlying27 infoGot rfl (by decide) _ _ _ rfl HOWN3.out _ _ rfl rfl ?c1 ?c2 ?c3 hB3 rfl ?_))
      case c1 => intro u hu; simp at hu; rcases hu with rfl | rfl | rfl | rfl <;> rfl
      case c2 => unfold maxLen; omega
      case c3 => omega
      intro v4 w4 hown4 ht4 hn4
      have hI := nop_more HST.out HR.out hle HOWN.out HGS.out HCL.out HEN.out HB.out HT3.out HR3.out (by omega) HG3.out hown4 ht4
      have HI := hide hI
      clear hI hown4 ht4 hn4
      go_wp2
      go_roundw
      case rel => exact ⟨k + 1, by omega, by go_num, HI.out⟩
      case measure => simp [intOf]; omega
    · obtain ⟨av, asked, css, hR, ha, hle, hown, hgs, hcl, hE, hb⟩ := hinv.out
      obtain rfl : k = steps.length := by omega
      rw [List.take_length] at hgs
      have HOWN := hide hown; have HGS := hide hgs; have HCL := hide hcl; have HB := hide hb
      clear hinv hR hown hgs hcl hE hb
      go_wp2
      go_ret
      exact ⟨_, css, rfl, HOWN.out, HGS.out, HCL.out, HB.out⟩

end Go.Proofs.YtdcdbbcphkhmeaaDoor
