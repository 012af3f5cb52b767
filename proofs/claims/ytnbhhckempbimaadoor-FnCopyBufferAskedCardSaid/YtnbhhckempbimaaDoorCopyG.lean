/-
  Plain Lean, no program in sight: what a copy of a source to a sink in pieces reads, writes and returns.
-/
import Derived.Test.YtnbhhckempbimaaDoorGhost
namespace Go.Proofs.YtnbhhckempbimaaDoor

/-- Where the source stands behind k reads into 'size' bytes. -/
def Src.pos (s : Src) (size : Nat) : Nat → Nat × Nat
  | 0 => (0, 0)
  | k + 1 => ((s.read (s.pos size k).1 (s.pos size k).2 size).at_, (s.read (s.pos size k).1 (s.pos size k).2 size).pc)
/-- What the k-th read hands out. -/
def Src.piece (s : Src) (size k : Nat) : Got1 := s.read (s.pos size k).1 (s.pos size k).2 size
theorem Src.pos_succ (s : Src) (size k : Nat) : s.pos size (k + 1) = ((s.piece size k).at_, (s.piece size k).pc) := rfl
/-- The copy ends behind the k-th read. -/
def Src.stops (s : Src) (room : Int) (size k : Nat) : Prop := room.toNat < (s.piece size k).at_ ∨ (s.piece size k).code ≠ 0
/-- The lengths of the writes of the first k rounds. -/
def Src.lens (s : Src) (size : Nat) : Nat → List Int
  | 0 => []
  | k + 1 => s.lens size k ++ (if (s.piece size k).bytes.length = 0 then [] else [((s.piece size k).bytes.length : Int)])
/-- The bytes that are copied, and the error's number. -/
def Src.most (s : Src) (room : Int) : Nat := Nat.min room.toNat s.data.length
def Src.copyCode (s : Src) (room : Int) (quiet : Bool) : Nat := if s.data.length ≤ room.toNat then (if s.broken then 2 else 0) else (if quiet then 4 else 3)

theorem Src.pos_le (s : Src) (size k : Nat) : (s.pos size k).1 ≤ s.data.length := by
  induction k with
  | zero => exact Nat.zero_le _
  | succ k ih => exact s.read_le _ _ _ ih

/-- A read into at least one byte: the bytes are those behind where it stood, and a read without bytes has an error. -/
theorem Src.read_facts (s : Src) (a p size : Nat) (h0 : 0 < size) (ha : a ≤ s.data.length) :
    (s.read a p size).bytes = (s.data.drop a).take ((s.read a p size).at_ - a) ∧ (s.read a p size).at_ = a + (s.read a p size).bytes.length ∧
    ((s.read a p size).bytes.length = 0 → (s.read a p size).code = s.endCode ∧ a = s.data.length) ∧
    ((s.read a p size).code ≠ 0 → (s.read a p size).at_ = s.data.length ∧ (s.read a p size).code = s.endCode) := by
  unfold Src.read
  rw [if_neg (by omega)]
  split
  · rename_i h
    refine ⟨by simp, by simp, fun _ => ⟨rfl, h⟩, fun _ => ⟨h, rfl⟩⟩
  · rename_i h
    have hl := s.read_length a p size
    have hp := s.amount_pos a p size h0 (by omega)
    refine ⟨?_, ?_, ?_, ?_⟩
    · show (s.data.drop a).take (s.amount a p size) = (s.data.drop a).take (a + s.amount a p size - a)
      rw [show a + s.amount a p size - a = s.amount a p size by omega]
    · show a + s.amount a p size = a + ((s.data.drop a).take (s.amount a p size)).length
      rw [hl]
    · intro h2
      have h2' : ((s.data.drop a).take (s.amount a p size)).length = 0 := h2
      omega
    · intro h2
      have h2' : (if a + s.amount a p size = s.data.length ∧ s.together = true then s.endCode else 0) ≠ 0 := h2
      show a + s.amount a p size = s.data.length ∧ (if a + s.amount a p size = s.data.length ∧ s.together = true then s.endCode else 0) = s.endCode
      by_cases hc : a + s.amount a p size = s.data.length ∧ s.together = true
      · rw [if_pos hc]; exact ⟨hc.1, rfl⟩
      · rw [if_neg hc] at h2'; exact absurd rfl h2'

/-- Ahead of the end all that was read had room. -/
theorem Src.pos_room (s : Src) (room : Int) (size k : Nat) (h : ∀ j, j < k → ¬ s.stops room size j) : (s.pos size k).1 ≤ room.toNat := by
  cases k with
  | zero => exact Nat.zero_le _
  | succ k =>
    have := h k (Nat.lt_succ_self k)
    unfold Src.stops at this
    rw [s.pos_succ]
    show (s.piece size k).at_ ≤ room.toNat
    omega

/-- A round that does not end the copy hands out at least one byte. -/
theorem Src.go_on (s : Src) (room : Int) (size k : Nat) (h0 : 0 < size) (h : ¬ s.stops room size k) :
    (s.pos size k).1 < (s.pos size (k + 1)).1 ∧ (s.piece size k).code = 0 ∧ (s.pos size k).1 + (s.piece size k).bytes.length ≤ room.toNat ∧ 0 < (s.piece size k).bytes.length := by
  obtain ⟨f1, f2, f3, f4⟩ := s.read_facts (s.pos size k).1 (s.pos size k).2 size h0 (s.pos_le size k)
  unfold Src.stops at h
  have hc : (s.piece size k).code = 0 := by omega
  have e := s.endCode_pos
  have hb : 0 < (s.piece size k).bytes.length := by
    rcases Nat.eq_zero_or_pos (s.piece size k).bytes.length with h1 | h1
    · have := (f3 h1).1
      have hc' : (s.read (s.pos size k).1 (s.pos size k).2 size).code = 0 := hc
      omega
    · exact h1
  have h2 : (s.piece size k).at_ = (s.pos size k).1 + (s.piece size k).bytes.length := f2
  rw [s.pos_succ]
  refine ⟨?_, hc, ?_, hb⟩
  · show (s.pos size k).1 < (s.piece size k).at_
    omega
  · omega

/-- The first round that ends the copy is one alone. -/
theorem Src.stop_one (s : Src) (room : Int) (size k k' : Nat) (h : ∀ j, j < k → ¬ s.stops room size j) (hk : s.stops room size k) (h' : ∀ j, j < k' → ¬ s.stops room size j) (hk' : s.stops room size k') : k = k' := by
  rcases Nat.lt_trichotomy k k' with h1 | h1 | h1
  · exact absurd hk (h' k h1)
  · exact h1
  · exact absurd hk' (h k' h1)

theorem Src.pos_ge (s : Src) (room : Int) (size k : Nat) (h0 : 0 < size) (h : ∀ j, j < k → ¬ s.stops room size j) : k ≤ (s.pos size k).1 := by
  induction k with
  | zero => exact Nat.zero_le _
  | succ k ih =>
    have h1 := ih (fun j hj => h j (by omega))
    have h2 := (s.go_on room size k h0 (h k (Nat.lt_succ_self k))).1
    omega

/-- What is got behind k rounds, and behind the next. -/
theorem Src.take_more (s : Src) (size k : Nat) (h0 : 0 < size) : s.data.take (s.pos size k).1 ++ (s.piece size k).bytes = s.data.take (s.pos size (k + 1)).1 := by
  obtain ⟨f1, f2, _, _⟩ := s.read_facts (s.pos size k).1 (s.pos size k).2 size h0 (s.pos_le size k)
  have e1 : (s.piece size k).bytes = (s.data.drop (s.pos size k).1).take ((s.piece size k).at_ - (s.pos size k).1) := f1
  have e2 : (s.piece size k).at_ = (s.pos size k).1 + (s.piece size k).bytes.length := f2
  rw [s.pos_succ, e1]
  show _ = s.data.take (s.piece size k).at_
  rw [← List.take_add]
  congr 1
  omega

/-- The round that ends it because there is no room: how much is taken, what is got, the error. -/
theorem Src.short (s : Src) (room : Int) (size k : Nat) (h0 : 0 < size) (h : ∀ j, j < k → ¬ s.stops room size j) (hs : room.toNat < (s.pos size k).1 + (s.piece size k).bytes.length) :
    s.stops room size k ∧ (s.pos size k).1 + (room.toNat - (s.pos size k).1) = s.most room ∧ s.data.take (s.pos size k).1 ++ (s.piece size k).bytes.take (room.toNat - (s.pos size k).1) = s.data.take (s.most room) ∧
      (∀ quiet, s.copyCode room quiet = if quiet = true then 4 else 3) ∧ 0 < (s.piece size k).bytes.length := by
  obtain ⟨f1, f2, f3, f4⟩ := s.read_facts (s.pos size k).1 (s.pos size k).2 size h0 (s.pos_le size k)
  have hr := s.pos_room room size k h
  have e1 : (s.piece size k).bytes = (s.data.drop (s.pos size k).1).take ((s.piece size k).at_ - (s.pos size k).1) := f1
  have e2 : (s.piece size k).at_ = (s.pos size k).1 + (s.piece size k).bytes.length := f2
  have hle : (s.piece size k).at_ ≤ s.data.length := s.read_le _ _ _ (s.pos_le size k)
  have hm : s.most room = room.toNat := Nat.min_eq_left (by omega)
  refine ⟨.inl (by omega), by omega, ?_, fun quiet => ?_, by omega⟩
  · rw [hm, e1, List.take_take]
    have e3 : Nat.min (room.toNat - (s.pos size k).1) ((s.piece size k).at_ - (s.pos size k).1) = room.toNat - (s.pos size k).1 := Nat.min_eq_left (by omega)
    rw [show min (room.toNat - (s.pos size k).1) ((s.piece size k).at_ - (s.pos size k).1) = room.toNat - (s.pos size k).1 from e3, ← List.take_add]
    congr 1
    omega
  · unfold Src.copyCode
    rw [if_neg (by omega)]

/-- The round that ends it with the source's end. -/
theorem Src.ends (s : Src) (room : Int) (size k : Nat) (h0 : 0 < size) (hs : (s.pos size k).1 + (s.piece size k).bytes.length ≤ room.toNat) (hc : (s.piece size k).code ≠ 0) :
    s.stops room size k ∧ (s.pos size k).1 + (s.piece size k).bytes.length = s.most room ∧ s.data.take (s.pos size (k + 1)).1 = s.data.take (s.most room) ∧ (s.piece size k).code = s.endCode ∧ (∀ quiet, s.copyCode room quiet = if s.broken = true then 2 else 0) := by
  obtain ⟨f1, f2, f3, f4⟩ := s.read_facts (s.pos size k).1 (s.pos size k).2 size h0 (s.pos_le size k)
  obtain ⟨g1, g2⟩ := f4 hc
  have e2 : (s.piece size k).at_ = (s.pos size k).1 + (s.piece size k).bytes.length := f2
  have e3 : (s.piece size k).at_ = s.data.length := g1
  have hm : s.most room = s.data.length := Nat.min_eq_right (by omega)
  refine ⟨.inr hc, by omega, ?_, g2, fun quiet => ?_⟩
  · rw [s.pos_succ, hm]
    show s.data.take (s.piece size k).at_ = _
    rw [e3]
  · unfold Src.copyCode
    rw [if_pos (by omega)]

theorem Src.lens_length (s : Src) (size k : Nat) : (s.lens size k).length ≤ k := by
  induction k with
  | zero => exact Nat.le_refl _
  | succ k ih =>
    rw [Src.lens, List.length_append]
    split
    · simp; omega
    · simp; omega

end Go.Proofs.YtnbhhckempbimaaDoor
