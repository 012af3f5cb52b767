/-
  Words for memory, over any program: a block known whole ('At'), a slice value that reads as a list ('Sl'), what a callee leaves of old memory ('Below' of the library). Plain lemmas; no condition.
-/
import Derived.WalkKit
import Derived.ProofKit
import Derived.Below
import Derived.Lib.Hide
import Derived.Laws.OwnMore
import Derived.Deep.Draws
import Derived.Laws.Rows
import Derived.Laws.CopyOwn
import Derived.Maps.AppendAt
import Derived.OwnWalk
namespace Go.Proofs.Ytpcndmemfjnfaaa
open Go.RowKit

/-- Block g holds just these cells, of element type t, none of them frozen. -/
def At (w : World) (g : Nat) (t : TypeId) (cs : Array Value) : Prop := w.heap[g]? = some (.cells cs t (0, 0))

namespace At
variable {w w' : World} {g : Nat} {t : TypeId} {cs : Array Value}
theorem size_lt (h : At w g t cs) : g < w.heap.size := (Array.getElem?_eq_some_iff.1 h).1
theorem get (h : At w g t cs) (i : Nat) : w.cell? ⟨g, i, none⟩ = cs[i]? := cell_of_row w g i cs t (0, 0) h
theorem get! (h : At w g t cs) {i : Nat} {v : Value} (hv : cs[i]? = some v) : w.cell? ⟨g, i, none⟩ = some v := (h.get i).trans hv
theorem soft (h : At w g t cs) (i : Nat) : w.frozen? ⟨g, i, none⟩ = false := by
  have h' : w.heap[g]? = some (.cells cs t (0, 0)) := h
  simp [World.frozen?, h']
theorem made (w : World) (t : TypeId) (cs : Array Value) : At (w.alloc (.cells cs t)) w.heap.size t cs := heap_alloc_new w _
theorem made' {w : World} {g : Nat} (hg : g = w.heap.size) (t : TypeId) (cs : Array Value) : At (w.alloc (.cells cs t)) g t cs := hg ▸ At.made w t cs
theorem drawn (h : At w g t cs) (n : Nat) : At (w.drewN n) g t cs := h
theorem drew (h : At w g t cs) : At w.drew g t cs := h
theorem laid (h : At w g t cs) (o : Obj) : At (w.alloc o) g t cs := (Below.heap_alloc w o g h.size_lt).trans h
theorem put (h : At w g t cs) (i : Nat) (u : Value) : At (w.setCell ⟨g, i, none⟩ u) g t (cs.setIfInBounds i u) := by
  have h' : w.heap[g]? = some (.cells cs t (0, 0)) := h
  show (w.setCell ⟨g, i, none⟩ u).heap[g]? = _
  simp [World.setCell, Array.getElem?_modify, h']
theorem away (h : At w g t cs) {p : Addr} (hp : p.block ≠ g) (u : Value) : At (w.setCell p u) g t cs := (Below.heap_setCell w p u g (Ne.symm hp)).trans h
theorem below {B : Nat} (h : At w g t cs) (hb : Below B w w') (hg : g < B) : At w' g t cs := (hb.block g hg).trans h
theorem grown {row : Option Nat} (h : At w g t cs) (hb : w.grownBy w' row) (hg : row ≠ some g) : At w' g t cs := (hb.block g h.size_lt (Ne.symm hg)).trans h
theorem apart {g' : Nat} {t' : TypeId} {cs' : Array Value} (h : At w g t cs) (h' : At w g' t' cs') (hne : t ≠ t') : g ≠ g' := by
  intro e
  subst e
  have e2 := (Option.some.inj (h.symm.trans h'))
  cases e2
  exact hne rfl
theorem same {cs' : Array Value} {t' : TypeId} (h : At w g t cs) (h' : At w g t' cs') : cs = cs' := by
  have e2 := (Option.some.inj (h.symm.trans h'))
  cases e2
  rfl
end At

/-- What a call leaves where it only makes memory: 'Below' at the heap's own size. -/
abbrev New (w w' : World) : Prop := Below w.heap.size w w'
theorem new_refl (w : World) : New w w := Below.refl _ _
theorem new_alloc (w : World) (o : Obj) : New w (w.alloc o) := (Below.refl _ _).alloc (Nat.le_refl _) o
theorem below_drawn {B : Nat} {a w : World} (h : Below B a w) (n : Nat) : Below B a (w.drewN n) := ⟨h.os, h.tape, h.output, h.size, h.block⟩
theorem below_then {B : Nat} {a b c : World} (h : Below B a b) (k : New b c) (hB : B ≤ b.heap.size) : Below B a c := h.trans (k.mono hB)
theorem new_trans {a b c : World} (h : New a b) (k : New b c) : New a c := below_then h k h.size

end Go.Proofs.Ytpcndmemfjnfaaa
