/-
  Plain Lean, no program in sight: what one Read of a source hands out.
-/
import Derived.Laws.CopyOwn
namespace Go.Proofs.YtdcdbbcphkhmeaaDoor

/-- A source: its bytes, the lengths of its pieces, its three marks. -/
structure Src where
  data : List Int
  pieces : List Int
  together : Bool
  broken : Bool
  direct : Bool

/-- The number of the error behind the data. -/
def Src.endCode (s : Src) : Nat := if s.broken then 2 else 1

/-- How many bytes a read into 'size' bytes hands out ahead of the data's end. -/
def Src.amount (s : Src) (at_ pc size : Nat) : Nat :=
  if h : pc < s.pieces.length then Nat.min (Nat.min size (s.data.length - at_)) (Nat.max s.pieces[pc].toNat 1)
  else Nat.min size (s.data.length - at_)

/-- What a read hands out: the bytes, the error's number, and where the source then stands. -/
structure Got1 where
  bytes : List Int
  code : Nat
  at_ : Nat
  pc : Nat

def Src.read (s : Src) (at_ pc size : Nat) : Got1 :=
  if size = 0 then ⟨[], 0, at_, pc⟩
  else if at_ = s.data.length then ⟨[], s.endCode, at_, pc⟩
  else ⟨(s.data.drop at_).take (s.amount at_ pc size), if at_ + s.amount at_ pc size = s.data.length ∧ s.together = true then s.endCode else 0,
    at_ + s.amount at_ pc size, if pc < s.pieces.length then pc + 1 else pc⟩

theorem Src.amount_le (s : Src) (at_ pc size : Nat) : s.amount at_ pc size ≤ size ∧ s.amount at_ pc size ≤ s.data.length - at_ := by
  unfold Src.amount
  split
  · simp only [Nat.min_def]; split <;> split <;> omega
  · simp only [Nat.min_def]; split <;> omega

theorem Src.amount_pos (s : Src) (at_ pc size : Nat) (h0 : 0 < size) (h1 : at_ < s.data.length) : 0 < s.amount at_ pc size := by
  unfold Src.amount
  split
  · simp only [Nat.min_def, Nat.max_def]; repeat' split
    all_goals omega
  · simp only [Nat.min_def]; split <;> omega

theorem Src.read_length (s : Src) (at_ pc size : Nat) : ((s.data.drop at_).take (s.amount at_ pc size)).length = s.amount at_ pc size := by
  have := s.amount_le at_ pc size
  simp only [List.length_take, List.length_drop]
  omega

theorem Src.endCode_le (s : Src) : s.endCode ≤ 2 := by unfold Src.endCode; split <;> omega
theorem Src.endCode_pos (s : Src) : 0 < s.endCode := by unfold Src.endCode; split <;> omega

theorem Src.read_le (s : Src) (at_ pc size : Nat) (h : at_ ≤ s.data.length) : (s.read at_ pc size).at_ ≤ s.data.length := by
  have h2 := s.amount_le at_ pc size
  unfold Src.read
  split
  · exact h
  · split
    · exact h
    · show at_ + s.amount at_ pc size ≤ s.data.length
      omega

theorem Src.read_bytes_le (s : Src) (at_ pc size : Nat) : (s.read at_ pc size).bytes.length ≤ size := by
  have h2 := s.amount_le at_ pc size
  unfold Src.read
  split
  · simp
  · split
    · simp
    · show ((s.data.drop at_).take (s.amount at_ pc size)).length ≤ size
      simp only [List.length_take]
      omega

theorem Src.read_pc (s : Src) (at_ pc size : Nat) (h : pc ≤ s.pieces.length) : (s.read at_ pc size).pc ≤ s.pieces.length := by
  unfold Src.read
  split
  · exact h
  · split
    · exact h
    · show (if pc < s.pieces.length then pc + 1 else pc) ≤ s.pieces.length
      split <;> omega

theorem Src.read_code (s : Src) (at_ pc size : Nat) : (s.read at_ pc size).code ≤ 2 := by
  have h := s.endCode_le
  unfold Src.read
  split
  · exact Nat.zero_le _
  · split
    · exact h
    · show (if at_ + s.amount at_ pc size = s.data.length ∧ s.together = true then s.endCode else 0) ≤ 2
      split <;> omega

end Go.Proofs.YtdcdbbcphkhmeaaDoor
