/-
  Words for memory, over any program: a block known whole ('At'), a slice value that reads as a list ('Sl'), what a callee leaves of old memory ('Below' of the library). Plain lemmas; no condition.
-/
import Derived.WalkKit
import Derived.ProofKit
import Derived.Below
import Derived.Lib.Hide
import Derived.Laws.OwnMore
import Derived.Laws.MakeOwn
import Derived.Deep.Draws
import Derived.Laws.Rows
import Derived.Laws.CopyOwn
import Derived.Maps.AppendAt
import Derived.OwnWalk
import Derived.ArgAppend
import Derived.RegionTactic
namespace Go.Proofs.YtdcdbbcphkhmeaaDoor
open Go.RowKit

/-- A fact kept from the walk's simp. -/
theorem hide {p : Prop} (h : p) : Hid p := h

/-- Go's min and max of two integers, kept closed in a walk. -/
def imin (x y : Int) : Int := if y < x then y else x
def imax (x y : Int) : Int := if y > x then y else x
theorem run_imin {P : Program} (w : World) (ts : Array TypeId) (t : TypeId) (k k' : IntKind) (x y : Int) : (Builtin.min_ ts t #[.int k x, .int k' y]).run P w = .ok (.int k (imin x y)) w := run_min_int2 w ts t k k' x y
theorem run_imax {P : Program} (w : World) (ts : Array TypeId) (t : TypeId) (k k' : IntKind) (x y : Int) : (Builtin.max_ ts t #[.int k x, .int k' y]).run P w = .ok (.int k (imax x y)) w := run_max_int2 w ts t k k' x y
theorem imin_nat (a b : Nat) : imin a b = (Nat.min a b : Nat) := by unfold imin; simp only [Nat.min_def]; split <;> split <;> omega
theorem imax_toNat (z : Int) (b : Nat) : imax z b = (Nat.max z.toNat b : Nat) := by unfold imax; simp only [Nat.max_def]; split <;> split <;> omega

/-- Block g holds just these cells, of element type t, none of them frozen. -/
def At (w : World) (g : Nat) (t : TypeId) (cs : Array Value) : Prop := w.heap[g]? = some (.cells cs t (0, 0))

namespace At
variable {w w' : World} {g : Nat} {t : TypeId} {cs : Array Value}
theorem size_lt (h : At w g t cs) : g < w.heap.size := (Array.getElem?_eq_some_iff.1 h).1
theorem get (h : At w g t cs) (i : Nat) : w.cell? ⟨g, i, none⟩ = cs[i]? := cell_of_row w g i cs t (0, 0) h
theorem get! (h : At w g t cs) {i : Nat} {v : Value} (hv : cs[i]? = some v) : w.cell? ⟨g, i, none⟩ = some v := (h.get i).trans hv
theorem soft (h : At w g t cs) (i : Nat) : w.frozen? ⟨g, i, none⟩ = false := by
  have h' : w.heap[g]? = some (.cells cs t (0, 0)) := h
  simp [World.frozen?, h']
theorem made (w : World) (t : TypeId) (cs : Array Value) : At (w.alloc (.cells cs t)) w.heap.size t cs := heap_alloc_new w _
theorem made' {w : World} {g : Nat} (hg : g = w.heap.size) (t : TypeId) (cs : Array Value) : At (w.alloc (.cells cs t)) g t cs := hg ▸ At.made w t cs
theorem drawn (h : At w g t cs) (n : Nat) : At (w.drewN n) g t cs := h
theorem drew (h : At w g t cs) : At w.drew g t cs := h
theorem laid (h : At w g t cs) (o : Obj) : At (w.alloc o) g t cs := (Below.heap_alloc w o g h.size_lt).trans h
theorem put (h : At w g t cs) (i : Nat) (u : Value) : At (w.setCell ⟨g, i, none⟩ u) g t (cs.setIfInBounds i u) := by
  have h' : w.heap[g]? = some (.cells cs t (0, 0)) := h
  show (w.setCell ⟨g, i, none⟩ u).heap[g]? = _
  simp [World.setCell, Array.getElem?_modify, h']
theorem away (h : At w g t cs) {p : Addr} (hp : p.block ≠ g) (u : Value) : At (w.setCell p u) g t cs := (Below.heap_setCell w p u g (Ne.symm hp)).trans h
theorem below {B : Nat} (h : At w g t cs) (hb : Below B w w') (hg : g < B) : At w' g t cs := (hb.block g hg).trans h
theorem grown {row : Option Nat} (h : At w g t cs) (hb : w.grownBy w' row) (hg : row ≠ some g) : At w' g t cs := (hb.block g h.size_lt (Ne.symm hg)).trans h
theorem apart {g' : Nat} {t' : TypeId} {cs' : Array Value} (h : At w g t cs) (h' : At w g' t' cs') (hne : t ≠ t') : g ≠ g' := by
  intro e
  subst e
  have e2 := (Option.some.inj (h.symm.trans h'))
  cases e2
  exact hne rfl
theorem same {cs' : Array Value} {t' : TypeId} (h : At w g t cs) (h' : At w g t' cs') : cs = cs' := by
  have e2 := (Option.some.inj (h.symm.trans h'))
  cases e2
  rfl
end At

/-- What a call leaves where it only makes memory: 'Below' at the heap's own size. -/
abbrev New (w w' : World) : Prop := Below w.heap.size w w'
theorem new_refl (w : World) : New w w := Below.refl _ _
theorem new_alloc (w : World) (o : Obj) : New w (w.alloc o) := (Below.refl _ _).alloc (Nat.le_refl _) o
theorem below_drawn {B : Nat} {a w : World} (h : Below B a w) (n : Nat) : Below B a (w.drewN n) := ⟨h.os, h.tape, h.output, h.size, h.block⟩
theorem below_then {B : Nat} {a b c : World} (h : Below B a b) (k : New b c) (hB : B ≤ b.heap.size) : Below B a c := h.trans (k.mono hB)
theorem new_trans {a b c : World} (h : New a b) (k : New b c) : New a c := below_then h k h.size

theorem new_al {a w : World} (h : New a w) (o : Obj) : New a (w.alloc o) := new_trans h (new_alloc w o)
theorem new_dr {a w : World} (h : New a w) : New a w.drew := h.drew
theorem new_drN {a w : World} (h : New a w) (n : Nat) : New a (w.drewN n) := below_drawn h n

/-- From w to w' only blocks of S have turned, and new ones have come. -/
structure Turns (S : Nat → Prop) (w w' : World) : Prop where
  os : w'.os = w.os
  tape : w'.tape = w.tape
  output : w'.output = w.output
  size : w.heap.size ≤ w'.heap.size
  block : ∀ k, k < w.heap.size → ¬ S k → w'.heap[k]? = w.heap[k]?

namespace Turns
variable {S T : Nat → Prop} {a b c w w' : World}
theorem refl (S : Nat → Prop) (w : World) : Turns S w w := ⟨rfl, rfl, rfl, Nat.le_refl _, fun _ _ _ => rfl⟩
theorem trans (h : Turns S a b) (k : Turns T b c) (hT : ∀ i, i < a.heap.size → T i → S i) : Turns S a c :=
  ⟨k.os.trans h.os, k.tape.trans h.tape, k.output.trans h.output, Nat.le_trans h.size k.size,
    fun i hi hs => (k.block i (Nat.lt_of_lt_of_le hi h.size) (fun ht => hs (hT i hi ht))).trans (h.block i hi hs)⟩
theorem mono (h : Turns S a b) (hS : ∀ i, i < a.heap.size → S i → T i) : Turns T a b := ⟨h.os, h.tape, h.output, h.size, fun i hi ht => h.block i hi (fun hs => ht (hS i hi hs))⟩
theorem alloc (h : Turns S a w) (o : Obj) : Turns S a (w.alloc o) :=
  ⟨h.os, h.tape, h.output, Nat.le_trans h.size (by simp), fun i hi hs => (Below.heap_alloc w o i (Nat.lt_of_lt_of_le hi h.size)).trans (h.block i hi hs)⟩
theorem drew (h : Turns S a w) : Turns S a w.drew := ⟨h.os, h.tape, h.output, h.size, h.block⟩
theorem drawn (h : Turns S a w) (n : Nat) : Turns S a (w.drewN n) := ⟨h.os, h.tape, h.output, h.size, h.block⟩
theorem undrawn {n : Nat} (h : Turns S (w.drewN n) w') : Turns S w w' := ⟨h.os, h.tape, h.output, h.size, h.block⟩
theorem undrew (h : Turns S w.drew w') : Turns S w w' := ⟨h.os, h.tape, h.output, h.size, h.block⟩
theorem setCell (h : Turns S a w) {p : Addr} (hp : p.block < a.heap.size → S p.block) (u : Value) : Turns S a (w.setCell p u) :=
  ⟨h.os, h.tape, h.output, by simpa [World.setCell] using h.size, fun i hi hs => (Below.heap_setCell w p u i (fun e => hs (e ▸ hp (e ▸ hi)))).trans (h.block i hi hs)⟩
theorem setRow (h : Turns S a w) {g : Nat} (hg : g < a.heap.size → S g) (cs : Array Value) : Turns S a (w.setRow g cs) :=
  ⟨h.os, h.tape, h.output, by simpa [World.setRow] using h.size, fun i hi hs => (setRow_other w g i cs (fun e => hs (e ▸ hg (e ▸ hi)))).trans (h.block i hi hs)⟩
theorem grown {row : Option Nat} (h : Turns S a w) (hg : w.grownBy w' row) (hr : ∀ k, row = some k → k < a.heap.size → S k) : Turns S a w' :=
  ⟨hg.os.trans h.os, hg.tape.trans h.tape, hg.output.trans h.output, Nat.le_trans h.size hg.size,
    fun i hi hs => (hg.block i (Nat.lt_of_lt_of_le hi h.size) (fun e => hs (hr i e.symm hi))).trans (h.block i hi hs)⟩
theorem below (h : Turns S a b) {B : Nat} (hB : B ≤ a.heap.size) (hS : ∀ i, i < B → ¬ S i) : Below B a b := ⟨h.os, h.tape, h.output, h.size, fun i hi => h.block i (Nat.lt_of_lt_of_le hi hB) (hS i hi)⟩
theorem of_below {B : Nat} (h : Below B a b) : Turns (fun k => B ≤ k) a b := ⟨h.os, h.tape, h.output, h.size, fun i _ hi => h.block i (by omega)⟩
theorem of_new (h : New a b) (S : Nat → Prop) : Turns S a b := ⟨h.os, h.tape, h.output, h.size, fun i hi _ => h.block i hi⟩
theorem cell (h : Turns S a b) {p : Addr} (hp : p.block < a.heap.size) (hs : ¬ S p.block) : b.cell? p = a.cell? p := World.cell?_of_block (w := a) (h.block p.block hp hs)
end Turns

theorem new_turns {S : Nat → Prop} {a w w' : World} (h : New a w) (ht : Turns S w w') (hS : ∀ k, S k → a.heap.size ≤ k) : New a w' :=
  h.trans (ht.below h.size (fun i hi hs => by have := hS i hs; omega))

theorem At.new {w w' : World} {g : Nat} {t : TypeId} {cs : Array Value} (h : At w g t cs) (hn : New w w') : At w' g t cs := h.below hn h.size_lt
theorem At.turns {S : Nat → Prop} {w w' : World} {g : Nat} {t : TypeId} {cs : Array Value} (h : At w g t cs) (k : Turns S w w') (hg : ¬ S g) : At w' g t cs := (k.block g h.size_lt hg).trans h

/-- Block g is known whole, and from w0 to w nothing else has turned. -/
structure Sole (w0 w : World) (g : Nat) (t : TypeId) (cs : Array Value) : Prop where
  at_ : At w g t cs
  turns : Turns (· = g) w0 w
theorem Sole.start {w : World} {g : Nat} {t : TypeId} {cs : Array Value} (h : At w g t cs) : Sole w w g t cs := ⟨h, Turns.refl _ _⟩
theorem Sole.put {w0 w : World} {g : Nat} {t : TypeId} {cs : Array Value} (h : Sole w0 w g t cs) (i : Nat) (u : Value) : Sole w0 (w.setCell ⟨g, i, none⟩ u) g t (cs.setIfInBounds i u) :=
  ⟨h.at_.put i u, Turns.setCell (S := (· = g)) h.turns (fun _ => rfl) u⟩

theorem Turns.at_ {S : Nat → Prop} {w w' : World} (k : Turns S w w') {g : Nat} {t : TypeId} {cs : Array Value} (h : At w g t cs) (hg : ¬ S g) : At w' g t cs := h.turns k hg

/-- The slice '.slice A n c' reads as the cells xs ('size' cells an element); only where it has an element is there an address. -/
def Sl (w : World) (size : Nat) (A : Option Addr) (n : Nat) (xs : List Value) : Prop :=
  xs.length = n * size ∧ (0 < n → ∃ ad, A = some ad ∧ ad.block < w.heap.size ∧ ∀ j u, xs[j]? = some u → w.cell? (ad.add j) = some u)

theorem block_add (a : Addr) (n : Nat) : (a.add n).block = a.block := by
  unfold Addr.add
  split <;> rfl

namespace Sl
variable {w w' : World} {size n : Nat} {A : Option Addr} {xs : List Value}
theorem keep (h : Sl w size A n xs) (hw : w.heap.size ≤ w'.heap.size) (hk : ∀ ad, A = some ad → 0 < n → w'.heap[ad.block]? = w.heap[ad.block]?) : Sl w' size A n xs := by
  refine ⟨h.1, fun hn => ?_⟩
  obtain ⟨ad, e, hb, hc⟩ := h.2 hn
  exact ⟨ad, e, Nat.lt_of_lt_of_le hb hw, fun j u hu => (World.cell?_of_block (a := ad.add j) (by rw [block_add]; exact hk ad e hn)).trans (hc j u hu)⟩
theorem below {B : Nat} (h : Sl w size A n xs) (hb : Below B w w') (hB : ∀ ad, A = some ad → 0 < n → ad.block < B) : Sl w' size A n xs := h.keep hb.size fun ad e hn => hb.block _ (hB ad e hn)
theorem turns {S : Nat → Prop} (h : Sl w size A n xs) (ht : Turns S w w') (hS : ∀ ad, A = some ad → 0 < n → ¬ S ad.block) : Sl w' size A n xs := h.keep ht.size fun ad e hn => by
  obtain ⟨ad', e', hb, _⟩ := h.2 hn
  have e2 : ad' = ad := Option.some.inj (e'.symm.trans e)
  subst e2
  exact ht.block _ hb (hS ad' e hn)
theorem drawn (h : Sl w size A n xs) (k : Nat) : Sl (w.drewN k) size A n xs := h
theorem laid (h : Sl w size A n xs) (o : Obj) : Sl (w.alloc o) size A n xs := h.turns ((Turns.refl (fun _ => False) w).alloc o) (fun _ _ _ hf => hf)
theorem new (h : Sl w size A n xs) (hn : New w w') : Sl w' size A n xs := h.turns (Turns.of_new hn (fun _ => False)) (fun _ _ _ hf => hf)
theorem none_ (w : World) (size : Nat) (A : Option Addr) : Sl w size A 0 [] := ⟨by simp, fun h => absurd h (Nat.lt_irrefl 0)⟩
theorem of_own {base : Nat} {e : TypeId} {v : Value} (h : w.ownsRow base e size v n xs) : ∃ A c, v = .slice A n c ∧ (A = none → c = 0) ∧ Sl w size A n xs := by
  obtain ⟨hl, hv⟩ := h
  rcases hv with ⟨rfl, rfl⟩ | ⟨g, cap, cur, rfl, hbg, hg, hnc, hcm, hcs, htake⟩
  · have e : xs = [] := List.eq_nil_of_length_eq_zero (by simpa using hl)
    subst e
    exact ⟨none, 0, rfl, fun _ => rfl, none_ _ _ _⟩
  · refine ⟨_, _, rfl, (fun e => by cases e), hl, fun _ => ⟨⟨g, 0, none⟩, rfl, (Array.getElem?_eq_some_iff.1 hg).1, fun j u hu => ?_⟩⟩
    have hadd : (⟨g, 0, none⟩ : Addr).add j = ⟨g, j, none⟩ := by unfold Addr.add; split <;> simp_all
    rw [hadd, cell_of_row w g j cur e (0, 0) hg]
    rw [← htake, List.getElem?_take] at hu
    split at hu
    · simpa using hu
    · cases hu
end Sl

theorem own_turns {S : Nat → Prop} {w w' : World} {base : Nat} {e : TypeId} {size : Nat} {v : Value} {n : Nat} {xs : List Value} (h : w.ownsRow base e size v n xs) (ht : Turns S w w')
    (hS : ∀ g, v.ownBlock = some g → ¬ S g) : w'.ownsRow base e size v n xs := by
  refine ⟨h.1, ?_⟩
  rcases h.2 with h2 | ⟨g, cap, cur, rfl, hb, hg, r⟩
  · exact .inl h2
  · exact .inr ⟨g, cap, cur, rfl, hb, (ht.block g (Array.getElem?_eq_some_iff.1 hg).1 (hS g rfl)).trans hg, r⟩
theorem own_mono {w : World} {base base' : Nat} {e : TypeId} {size : Nat} {v : Value} {n : Nat} {xs : List Value} (h : w.ownsRow base e size v n xs) (hb : base' ≤ base) : w.ownsRow base' e size v n xs := by
  refine ⟨h.1, ?_⟩
  rcases h.2 with h2 | ⟨g, cap, cur, hv, hg, r⟩
  · exact .inl h2
  · exact .inr ⟨g, cap, cur, hv, Nat.le_trans hb hg, r⟩
theorem own_new {w w' : World} {base : Nat} {e : TypeId} {size : Nat} {v : Value} {n : Nat} {xs : List Value} (h : w.ownsRow base e size v n xs) (ht : New w w') : w'.ownsRow base e size v n xs :=
  own_turns h (Turns.of_new ht (fun _ => False)) (fun _ _ hf => hf)
/-- An owned row does not lie in a block of another element type. -/
theorem own_ne {w : World} {base : Nat} {e : TypeId} {size : Nat} {v : Value} {n : Nat} {xs : List Value} (h : w.ownsRow base e size v n xs) {g : Nat} {t : TypeId} {cs : Array Value} (hg : At w g t cs) (hne : e ≠ t) :
    v.ownBlock ≠ some g := by
  intro he
  rcases h.2 with ⟨rfl, _⟩ | ⟨g', cap, cur, rfl, _, hh, _⟩
  · simp [Value.ownBlock] at he
  · have e2 : g' = g := by simpa [Value.ownBlock] using he
    subst e2
    exact At.apart (t := e) hh hg hne rfl

/-- An empty literal owns nothing, in whatever later world. -/
theorem lit_own {w : World} {base g : Nat} (e : TypeId) (size : Nat) (hg : At w g e #[]) (hb : base ≤ g) : w.ownsRow base e size (.slice (some ⟨g, 0, none⟩) 0 0) 0 [] :=
  ⟨by simp, .inr ⟨g, 0, #[], rfl, hb, hg, Nat.le_refl _, Nat.zero_le _, by simp, by simp⟩⟩

section
variable {P : Program} {w : World}
/-- 'append' onto a row of the call's own, the source nil, empty or not. -/
theorem wp_append_sl {o : Oper} {a : Act} {K : Act → World → Prop} {Q : Exit → Act → World → Prop} (s x : Operand) (t : TypeId)
    (ho : o.op = .call { callee := .builtin .append, args := #[s, x], argTypes := #[t, t] })
    (base : Nat) (e : TypeId) (z : Value) (size bytes : Nat) (ht : P.underlying t = some (.slice e)) (hinfo : (P.info? e).map (fun i => (i.zero, i.size, i.bytes)) = some (some z, size, bytes)) (hzs : z.cells.size = size) (hsz : 0 < size)
    (v : Value) (n : Nat) (xs : List Value) (hs : a.eval s = v) (hown : w.ownsRow base e size v n xs)
    (A : Option Addr) (m c : Nat) (news : List Value) (hx : a.eval x = .slice A m c) (hc : A = none → c = 0) (hr : Sl w size A m news) (h1 : ∀ u ∈ news, u.oneCell' = true)
    (h63 : n + m ≤ maxLen) (hbytes : (n + m) * bytes ≤ 140737488355328) (hbase : base ≤ w.heap.size)
    (h : ∀ v' w', w'.ownsRow base e size v' (n + m) (xs ++ news) → Turns (fun k => v.ownBlock = some k) w w' → (v'.ownBlock = v.ownBlock ∨ v'.ownBlock = some w.heap.size) → K (a.put o.dst v') w') : o.wp P a w K Q := by
  obtain ⟨i, hi, hz, h2, h3⟩ := info_parts hinfo
  have done : ∀ v' w', (Builtin.append_ #[t, t] o.type #[v, .slice A m c]).run P w = .ok v' w' → K (a.put o.dst v') w' → o.wp P a w K Q := fun v' w' hrun hK => by
    unfold Oper.wp execOp
    simp only [ho, resolve, invoke, builtin, Sem.run_bind, Sem.run_pure, Result.andThen_ok, List.map_toArray, List.map_cons, List.map_nil, hs, hx, hrun]
    exact hK
  cases A with
  | none =>
    have hm : m = 0 := Nat.eq_zero_of_not_pos fun hp => by
      obtain ⟨_, e, _⟩ := hr.2 hp
      cases e
    subst hm
    have hn : news = [] := List.eq_nil_of_length_eq_zero (by simpa using hr.1)
    subst hn
    obtain rfl := hc rfl
    exact done v w (run_append_owned_none (P := P) (w := w) base t o.type e i size ht hi v n xs hown) (h v w (by simpa using hown) (Turns.refl _ _) (.inl rfl))
  | some ad =>
    have hcells : ∀ j u, news[j]? = some u → w.cell? (ad.add j) = some u := fun j u hu => by
      have hp : 0 < m := Nat.pos_of_ne_zero fun h0 => by
        subst h0
        have hn : news = [] := List.eq_nil_of_length_eq_zero (by simpa using hr.1)
        subst hn
        simp at hu
      obtain ⟨ad', e, _, hcell⟩ := hr.2 hp
      cases e
      exact hcell j u hu
    obtain ⟨v', w', hrun, k2, k3, _, k5⟩ := run_append_own_at (P := P) w base t o.type e i z size bytes ht hi hz h2 h3 hzs hsz v n xs hown ad m c news hr.1 hcells h1 h63 hbytes hbase
    exact done v' w' hrun (h v' w' k2 ((Turns.refl _ _).grown k3 (fun k hk _ => hk)) k5)

theorem wpList_append_sl {ops : Array Oper} {rest : List Oper} {o : Oper} {a : Act} {Q : Exit → Act → World → Prop} (hgd : o.guard = none) (s x : Operand) (t : TypeId)
    (ho : o.op = .call { callee := .builtin .append, args := #[s, x], argTypes := #[t, t] })
    (base : Nat) (e : TypeId) (z : Value) (size bytes : Nat) (ht : P.underlying t = some (.slice e)) (hinfo : (P.info? e).map (fun i => (i.zero, i.size, i.bytes)) = some (some z, size, bytes)) (hzs : z.cells.size = size) (hsz : 0 < size)
    (v : Value) (n : Nat) (xs : List Value) (hs : a.eval s = v) (hown : w.ownsRow base e size v n xs)
    (A : Option Addr) (m c : Nat) (news : List Value) (hx : a.eval x = .slice A m c) (hc : A = none → c = 0) (hr : Sl w size A m news) (h1 : ∀ u ∈ news, u.oneCell' = true)
    (h63 : n + m ≤ maxLen) (hbytes : (n + m) * bytes ≤ 140737488355328) (hbase : base ≤ w.heap.size)
    (h : ∀ v' w', w'.ownsRow base e size v' (n + m) (xs ++ news) → Turns (fun k => v.ownBlock = some k) w w' → (v'.ownBlock = v.ownBlock ∨ v'.ownBlock = some w.heap.size) → wpList P ops Q rest (a.put o.dst v') w') : wpList P ops Q (o :: rest) a w :=
  wpList_plain hgd fun _ hK => wp_append_sl s x t ho base e z size bytes ht hinfo hzs hsz v n xs hs hown A m c news hx hc hr h1 h63 hbytes hbase fun v' w' h2 h3 h4 => hK _ _ (h v' w' h2 h3 h4)

theorem step_append_sl {ops : Array Oper} {o : Oper} {a : Act} {K : Act → World → Prop} {Q : Exit → Act → World → Prop} {E : Prop} (hgd : o.guard = none) (s x : Operand) (t : TypeId)
    (ho : o.op = .call { callee := .builtin .append, args := #[s, x], argTypes := #[t, t] })
    (base : Nat) (e : TypeId) (z : Value) (size bytes : Nat) (ht : P.underlying t = some (.slice e)) (hinfo : (P.info? e).map (fun i => (i.zero, i.size, i.bytes)) = some (some z, size, bytes)) (hzs : z.cells.size = size) (hsz : 0 < size)
    (v : Value) (n : Nat) (xs : List Value) (hs : a.eval s = v) (hown : w.ownsRow base e size v n xs)
    (A : Option Addr) (m c : Nat) (news : List Value) (hx : a.eval x = .slice A m c) (hc : A = none → c = 0) (hr : Sl w size A m news) (h1 : ∀ u ∈ news, u.oneCell' = true)
    (h63 : n + m ≤ maxLen) (hbytes : (n + m) * bytes ≤ 140737488355328) (hbase : base ≤ w.heap.size)
    (h : ∀ v' w', w'.ownsRow base e size v' (n + m) (xs ++ news) → Turns (fun k => v.ownBlock = some k) w w' → (v'.ownBlock = v.ownBlock ∨ v'.ownBlock = some w.heap.size) → K (a.put o.dst v') w') :
    if Region.wanted o (yielded ops a.tmps) = true then Oper.wp P o a w K Q else E := by
  have hw : Region.wanted o (yielded ops a.tmps) = true := by simp [Region.wanted, hgd]
  rw [if_pos hw]
  exact wp_append_sl s x t ho base e z size bytes ht hinfo hzs hsz v n xs hs hown A m c news hx hc hr h1 h63 hbytes hbase h
end

section
variable {P : Program} {w : World}
/-- 'append' onto an empty literal, wherever it was laid: nothing that was there turns. -/
theorem wp_append_lit {o : Oper} {a : Act} {K : Act → World → Prop} {Q : Exit → Act → World → Prop} (s x : Operand) (t : TypeId)
    (ho : o.op = .call { callee := .builtin .append, args := #[s, x], argTypes := #[t, t] })
    (base : Nat) (e : TypeId) (z : Value) (size bytes : Nat) (ht : P.underlying t = some (.slice e)) (hinfo : (P.info? e).map (fun i => (i.zero, i.size, i.bytes)) = some (some z, size, bytes)) (hzs : z.cells.size = size) (hsz : 0 < size)
    (g : Nat) (hs : a.eval s = .slice (some ⟨g, 0, none⟩) 0 0) (hg : At w g e #[]) (hb : base ≤ g)
    (A : Option Addr) (m c : Nat) (news : List Value) (hx : a.eval x = .slice A m c) (hc : A = none → c = 0) (hr : Sl w size A m news) (h1 : ∀ u ∈ news, u.oneCell' = true)
    (h63 : m ≤ maxLen) (hbytes : m * bytes ≤ 140737488355328)
    (h : ∀ v' w', w'.ownsRow base e size v' m news → New w w' → K (a.put o.dst v') w') : o.wp P a w K Q := by
  obtain ⟨i, hi, hz, h2, h3⟩ := info_parts hinfo
  have hlt := hg.size_lt
  have done : ∀ v' w', (Builtin.append_ #[t, t] o.type #[.slice (some ⟨g, 0, none⟩) 0 0, .slice A m c]).run P w = .ok v' w' → K (a.put o.dst v') w' → o.wp P a w K Q := fun v' w' hrun hK => by
    unfold Oper.wp execOp
    simp only [ho, resolve, invoke, builtin, Sem.run_bind, Sem.run_pure, Result.andThen_ok, List.map_toArray, List.map_cons, List.map_nil, hs, hx, hrun]
    exact hK
  rcases Nat.eq_zero_or_pos m with h0 | h0
  · subst h0
    have hn : news = [] := List.eq_nil_of_length_eq_zero (by simpa using hr.1)
    subst hn
    have hown := lit_own (base := base) e size hg hb
    cases A with
    | none =>
      obtain rfl := hc rfl
      exact done _ w (run_append_owned_none (P := P) (w := w) base t o.type e i size ht hi _ 0 [] hown) (h _ w hown (new_refl w))
    | some ad =>
      have hrun := run_append_room_cells (P := P) w t o.type e i ht hi g 0 0 0 ad 0 c [] (by simp) (by simp) (by simp) (Nat.le_refl _) (by simp) (by simp)
      exact done _ _ hrun (h _ _ hown (new_refl w))
  · obtain ⟨ad, rfl, hab, hcell⟩ := hr.2 h0
    obtain ⟨v', w', hrun, k2, k3⟩ := run_append_arg_grows (P := P) w t o.type e i z size bytes ht hi hz h2 h3 hzs hsz ⟨g, 0, none⟩ 0 0 [] (by simp) (by simp) ad m c news hr.1 hcell (by omega) (by simpa using h63) (by simpa using hbytes)
    exact done v' w' hrun (h v' w' (own_mono (by simpa using k2) (by omega)) ⟨k3.os, k3.tape, k3.output, k3.size, fun k hk => k3.block k hk (by simp)⟩)

theorem step_append_lit {ops : Array Oper} {o : Oper} {a : Act} {K : Act → World → Prop} {Q : Exit → Act → World → Prop} {E : Prop} (hgd : o.guard = none) (s x : Operand) (t : TypeId)
    (ho : o.op = .call { callee := .builtin .append, args := #[s, x], argTypes := #[t, t] })
    (base : Nat) (e : TypeId) (z : Value) (size bytes : Nat) (ht : P.underlying t = some (.slice e)) (hinfo : (P.info? e).map (fun i => (i.zero, i.size, i.bytes)) = some (some z, size, bytes)) (hzs : z.cells.size = size) (hsz : 0 < size)
    (g : Nat) (hs : a.eval s = .slice (some ⟨g, 0, none⟩) 0 0) (hg : At w g e #[]) (hb : base ≤ g)
    (A : Option Addr) (m c : Nat) (news : List Value) (hx : a.eval x = .slice A m c) (hc : A = none → c = 0) (hr : Sl w size A m news) (h1 : ∀ u ∈ news, u.oneCell' = true)
    (h63 : m ≤ maxLen) (hbytes : m * bytes ≤ 140737488355328)
    (h : ∀ v' w', w'.ownsRow base e size v' m news → New w w' → K (a.put o.dst v') w') :
    if Region.wanted o (yielded ops a.tmps) = true then Oper.wp P o a w K Q else E := by
  have hw : Region.wanted o (yielded ops a.tmps) = true := by simp [Region.wanted, hgd]
  rw [if_pos hw]
  exact wp_append_lit s x t ho base e z size bytes ht hinfo hzs hsz g hs hg hb A m c news hx hc hr h1 h63 hbytes h
end

/-- The new value lies where the old one lay, or in a block that is new. -/
def Near (w : World) (v v' : Value) : Prop := v'.ownBlock = v.ownBlock ∨ ∃ g, v'.ownBlock = some g ∧ w.heap.size ≤ g
theorem Near.refl (w : World) (v : Value) : Near w v v := .inl rfl
theorem Near.ne {w : World} {v v' : Value} (h : Near w v v') {g : Nat} (hg : g < w.heap.size) (hne : v.ownBlock ≠ some g) : v'.ownBlock ≠ some g := by
  rcases h with h | ⟨k, h, hk⟩
  · rw [h]; exact hne
  · rw [h]; intro e; injection e with e; omega
theorem Near.trans {a b : World} {u v x : Value} (h : Near a u v) (k : Near b v x) (hs : a.heap.size ≤ b.heap.size) : Near a u x := by
  rcases k with k | ⟨g, k, hg⟩
  · rcases h with h | ⟨g, h, hg⟩
    · exact .inl (k.trans h)
    · exact .inr ⟨g, k.trans h, hg⟩
  · exact .inr ⟨g, k, Nat.le_trans hs hg⟩
theorem Near.of_size {w w' : World} {v v' : Value} (h : Near w' v v') (hs : w.heap.size ≤ w'.heap.size) : Near w v v' := by
  rcases h with h | ⟨g, h, hg⟩
  · exact .inl h
  · exact .inr ⟨g, h, Nat.le_trans hs hg⟩
theorem Sl.one (w : World) (e : TypeId) (news : List Value) (size : Nat) (hl : news.length = size) : Sl (w.alloc (.cells news.toArray e)) size (some ⟨w.heap.size, 0, none⟩) 1 news := by
  refine ⟨by omega, fun _ => ⟨_, rfl, by simp, fun j u hu => ?_⟩⟩
  have hadd : (⟨w.heap.size, 0, none⟩ : Addr).add j = ⟨w.heap.size, j, none⟩ := by unfold Addr.add; split <;> simp_all
  rw [hadd, (At.made w e news.toArray).get j]
  simpa using hu

section
variable {P : Program} {w : World}
/-- 'append(x, y)': y has just been laid in a block of its own. -/
theorem wp_append_one {o : Oper} {a : Act} {K : Act → World → Prop} {Q : Exit → Act → World → Prop} (s x : Operand) (t : TypeId)
    (ho : o.op = .call { callee := .builtin .append, args := #[s, x], argTypes := #[t, t] })
    (base : Nat) (e : TypeId) (z : Value) (size bytes : Nat) (ht : P.underlying t = some (.slice e)) (hinfo : (P.info? e).map (fun i => (i.zero, i.size, i.bytes)) = some (some z, size, bytes)) (hzs : z.cells.size = size) (hsz : 0 < size)
    (v : Value) (n : Nat) (xs : List Value) (hs : a.eval s = v) (hown : w.ownsRow base e size v n xs)
    (news : List Value) (H : Nat) (hx : a.eval x = .slice (some ⟨H, 0, none⟩) 1 1) (hl : news.length = size) (h1 : ∀ u ∈ news, u.oneCell' = true)
    (h63 : n + 1 ≤ maxLen) (hbytes : (n + 1) * bytes ≤ 140737488355328) (hbase : base ≤ w.heap.size) (hH : w.heap.size = H)
    (h : ∀ v' w', w'.ownsRow base e size v' (n + 1) (xs ++ news) → Turns (fun k => v.ownBlock = some k) w w' → Near w v v' → K (a.put o.dst v') w') : o.wp P a (w.alloc (.cells news.toArray e)) K Q := by
  subst hH
  refine wp_append_sl s x t ho base e z size bytes ht hinfo hzs hsz v n xs hs (hown.alloc _) _ 1 1 news hx (fun e => by cases e) (Sl.one w e news size hl) h1 h63 hbytes (by simp; omega) ?_
  intro v' w' h2 h3 h4
  refine h v' w' h2 (Turns.trans (Turns.of_new (new_alloc w _) _) h3 (fun _ _ hi => hi)) ?_
  rcases h4 with h4 | h4
  · exact .inl h4
  · exact .inr ⟨_, h4, by simp⟩

theorem wpList_append_one {ops : Array Oper} {rest : List Oper} {o : Oper} {a : Act} {Q : Exit → Act → World → Prop} (hgd : o.guard = none) (s x : Operand) (t : TypeId)
    (ho : o.op = .call { callee := .builtin .append, args := #[s, x], argTypes := #[t, t] })
    (base : Nat) (e : TypeId) (z : Value) (size bytes : Nat) (ht : P.underlying t = some (.slice e)) (hinfo : (P.info? e).map (fun i => (i.zero, i.size, i.bytes)) = some (some z, size, bytes)) (hzs : z.cells.size = size) (hsz : 0 < size)
    (v : Value) (n : Nat) (xs : List Value) (hs : a.eval s = v) (hown : w.ownsRow base e size v n xs)
    (news : List Value) (H : Nat) (hx : a.eval x = .slice (some ⟨H, 0, none⟩) 1 1) (hl : news.length = size) (h1 : ∀ u ∈ news, u.oneCell' = true)
    (h63 : n + 1 ≤ maxLen) (hbytes : (n + 1) * bytes ≤ 140737488355328) (hbase : base ≤ w.heap.size) (hH : w.heap.size = H)
    (h : ∀ v' w', w'.ownsRow base e size v' (n + 1) (xs ++ news) → Turns (fun k => v.ownBlock = some k) w w' → Near w v v' → wpList P ops Q rest (a.put o.dst v') w') : wpList P ops Q (o :: rest) a (w.alloc (.cells news.toArray e)) :=
  wpList_plain hgd fun _ hK => wp_append_one s x t ho base e z size bytes ht hinfo hzs hsz v n xs hs hown news H hx hl h1 h63 hbytes hbase hH fun v' w' h2 h3 h4 => hK _ _ (h v' w' h2 h3 h4)

theorem step_append_one {ops : Array Oper} {o : Oper} {a : Act} {K : Act → World → Prop} {Q : Exit → Act → World → Prop} {E : Prop} (hgd : o.guard = none) (s x : Operand) (t : TypeId)
    (ho : o.op = .call { callee := .builtin .append, args := #[s, x], argTypes := #[t, t] })
    (base : Nat) (e : TypeId) (z : Value) (size bytes : Nat) (ht : P.underlying t = some (.slice e)) (hinfo : (P.info? e).map (fun i => (i.zero, i.size, i.bytes)) = some (some z, size, bytes)) (hzs : z.cells.size = size) (hsz : 0 < size)
    (v : Value) (n : Nat) (xs : List Value) (hs : a.eval s = v) (hown : w.ownsRow base e size v n xs)
    (news : List Value) (H : Nat) (hx : a.eval x = .slice (some ⟨H, 0, none⟩) 1 1) (hl : news.length = size) (h1 : ∀ u ∈ news, u.oneCell' = true)
    (h63 : n + 1 ≤ maxLen) (hbytes : (n + 1) * bytes ≤ 140737488355328) (hbase : base ≤ w.heap.size) (hH : w.heap.size = H)
    (h : ∀ v' w', w'.ownsRow base e size v' (n + 1) (xs ++ news) → Turns (fun k => v.ownBlock = some k) w w' → Near w v v' → K (a.put o.dst v') w') :
    if Region.wanted o (yielded ops a.tmps) = true then Oper.wp P o a (w.alloc (.cells news.toArray e)) K Q else E := by
  have hw : Region.wanted o (yielded ops a.tmps) = true := by simp [Region.wanted, hgd]
  rw [if_pos hw]
  exact wp_append_one s x t ho base e z size bytes ht hinfo hzs hsz v n xs hs hown news H hx hl h1 h63 hbytes hbase hH h
end

/-- 'append([]T{}, x...)': behind it lies a new row that holds what x holds. -/
theorem wpList_append_empty {P : Program} {w : World} {ops : Array Oper} {rest : List Oper} {o : Oper} {a : Act} {Q : Exit → Act → World → Prop} (hgd : o.guard = none) (s x : Operand) (t : TypeId)
    (ho : o.op = .call { callee := .builtin .append, args := #[s, x], argTypes := #[t, t] })
    (e : TypeId) (z : Value) (size bytes : Nat) (ht : P.underlying t = some (.slice e)) (hinfo : (P.info? e).map (fun i => (i.zero, i.size, i.bytes)) = some (some z, size, bytes)) (hzs : z.cells.size = size) (hsz : 0 < size)
    (H : Nat) (hs : a.eval s = .slice (some ⟨H, 0, none⟩) 0 0)
    (A : Option Addr) (m c : Nat) (news : List Value) (hx : a.eval x = .slice A m c) (hc : A = none → c = 0) (hr : Sl w size A m news) (h1 : ∀ u ∈ news, u.oneCell' = true)
    (h63 : m ≤ maxLen) (hbytes : m * bytes ≤ 140737488355328) (hH : w.heap.size = H)
    (h : ∀ v' w', w'.ownsRow w.heap.size e size v' m news → New w w' → w.heap.size < w'.heap.size → wpList P ops Q rest (a.put o.dst v') w') : wpList P ops Q (o :: rest) a (w.alloc (.cells #[] e)) := by
  subst hH
  refine wpList_append_sl hgd s x t ho w.heap.size e z size bytes ht hinfo hzs hsz _ 0 [] hs (World.ownsRow_lit w #[] 0 (Nat.le_refl _) (Nat.zero_le _) (by simp)) A m c news hx hc (hr.laid _) h1 (by simpa using h63) (by simpa using hbytes) (by simp) ?_
  intro v' w' h2 h3 _
  have h4 : Turns (fun k => k = w.heap.size) w w' := (new_alloc w _ |> fun h => Turns.of_new h _).trans h3 (fun i _ hi => by simpa [Value.ownBlock] using hi.symm)
  have h5 : w.heap.size < w'.heap.size := by have := h3.size; simp at this; omega
  exact h v' w' (by simpa using h2) (h4.below (Nat.le_refl _) (fun i hi he => by omega)) h5

/-- So many zero bytes. -/
def zeros (n : Nat) : List Value := List.replicate n (.int .u8 0)
theorem zeros_length (n : Nat) : (zeros n).length = n := by simp [zeros]
theorem zeros_one (n : Nat) : ∀ u ∈ zeros n, u.oneCell' = true := fun u hu => by
  rw [(List.mem_replicate.1 hu).2]
  rfl
/-- 'make([]byte, n)'. -/
theorem run_make_bytes {P : Program} (t e : TypeId) (ht : P.underlying t = some (.slice e)) (hinfo : (P.info? e).map (fun i => (i.zero, i.size, i.bytes)) = some (some (.int .u8 0), 1, 1)) (n : Nat) (hn : n ≤ 281474976710656) (w : World) :
    (Instr.makeSlice t (.int .i64 (n : Int)) (.int .i64 (n : Int))).run P w = .ok (.slice (some ⟨w.heap.size, 0, none⟩) n n) (w.alloc (.cells (zeros n).toArray e)) := by
  obtain ⟨i, hi, hz, h2, h3⟩ := info_parts hinfo
  have hr := run_make (P := P) w t e i _ ht hi hz .i64 .i64 n n (by omega) (by omega) (by rw [h3]; omega) (by omega)
  rw [h2] at hr
  simp only [Int.toNat_natCast, Nat.mul_one] at hr
  have e1 : madeCells (Value.int .u8 0).cells n = (zeros n).toArray := by
    apply Array.toList_inj.1
    rw [show (Value.int .u8 0).cells = #[Value.int .u8 0] from rfl, toList_madeCells_one]
    rfl
  rw [e1] at hr
  exact hr

/-- 'copy' into a block known whole: the row behind it, and that nothing else has turned. Only where a cell goes over must the two addresses be known. -/
theorem wpList_copy_at {P : Program} {w : World} {ops : Array Oper} {rest : List Oper} {o : Oper} {a : Act} {Q : Exit → Act → World → Prop} (hgd : o.guard = none) (d s : Operand) (dT sT : TypeId)
    (ho : o.op = .call { callee := .builtin .copy, args := #[d, s], argTypes := #[dT, sT] }) (elem : TypeId) (hu : P.underlying dT = some (.slice elem)) (hsz : (P.info? elem).map (·.size) = some 1)
    (dp sp : Option Addr) (dLen dCap sLen sCap : Nat) (hd : a.eval d = .slice dp dLen dCap) (hs : a.eval s = .slice sp sLen sCap)
    (g off : Nat) (cur : List Value) (t : TypeId) (hg : At w g t cur.toArray) (cs : List Value) (hn : cs.length = Nat.min sLen dLen)
    (hpos : 0 < cs.length → dp = some ⟨g, off, none⟩ ∧ ∃ ad, sp = some ad ∧ ∀ j v, cs[j]? = some v → w.cell? (ad.add j) = some v)
    (hfit : off + cs.length ≤ cur.length) (h1 : ∀ v ∈ cs, v.oneCell' = true)
    (h : ∀ w', At w' g t (splice cur off cs).toArray → Turns (· = g) w w' → wpList P ops Q rest (a.put o.dst (goInt cs.length)) w') :
    wpList P ops Q (o :: rest) a w := by
  rcases Nat.eq_zero_or_pos cs.length with h0 | h0
  · have e : cs = [] := List.eq_nil_of_length_eq_zero h0
    subst e
    exact wpList_copy_nothing hgd d s dT sT ho elem hu hsz dp sp dLen dCap sLen sCap hd hs (by simpa using hn.symm) (h w (by simpa [splice] using hg) (Turns.refl _ _))
  · obtain ⟨rfl, ad, rfl, hsrc⟩ := hpos h0
    refine wpList_copy_own hgd d s dT sT ho elem hu hsz g off dLen dCap ad sLen sCap hd hs cur.toArray t hg cs hn hsrc (by simpa using hfit) h1 (h _ ?_ (Turns.setRow (S := (· = g)) (Turns.refl _ _) (fun _ => rfl) _))
    have e2 : (w.setRow g (splice cur off cs).toArray).heap[g]? = some (.cells (splice cur off cs).toArray t (0, 0)) := setRow_heap w g _ _ t _ hg
    simpa [At, splice] using e2

/-- The same as one step of a region that draws its order. -/
theorem step_copy_at {P : Program} {w : World} {ops : Array Oper} {o : Oper} {a : Act} {K : Act → World → Prop} {Q : Exit → Act → World → Prop} {E : Prop} (hgd : o.guard = none) (d s : Operand) (dT sT : TypeId)
    (ho : o.op = .call { callee := .builtin .copy, args := #[d, s], argTypes := #[dT, sT] }) (elem : TypeId) (hu : P.underlying dT = some (.slice elem)) (hsz : (P.info? elem).map (·.size) = some 1)
    (dp sp : Option Addr) (dLen dCap sLen sCap : Nat) (hd : a.eval d = .slice dp dLen dCap) (hs : a.eval s = .slice sp sLen sCap)
    (g off : Nat) (cur : List Value) (t : TypeId) (hg : At w g t cur.toArray) (cs : List Value) (hn : cs.length = Nat.min sLen dLen)
    (hpos : 0 < cs.length → dp = some ⟨g, off, none⟩ ∧ ∃ ad, sp = some ad ∧ ∀ j v, cs[j]? = some v → w.cell? (ad.add j) = some v)
    (hfit : off + cs.length ≤ cur.length) (h1 : ∀ v ∈ cs, v.oneCell' = true)
    (h : ∀ w', At w' g t (splice cur off cs).toArray → Turns (· = g) w w' → K (a.put o.dst (goInt cs.length)) w') :
    if Region.wanted o (yielded ops a.tmps) = true then Oper.wp P o a w K Q else E := by
  have hw : Region.wanted o (yielded ops a.tmps) = true := by simp [Region.wanted, hgd]
  rw [if_pos hw]
  rcases Nat.eq_zero_or_pos cs.length with h0 | h0
  · have e : cs = [] := List.eq_nil_of_length_eq_zero h0
    subst e
    have hrun := run_copy_none (P := P) w dT sT o.type elem dp sp dLen dCap sLen sCap hu hsz (by simpa using hn.symm)
    unfold Oper.wp
    simp [execOp, ho, resolve, invoke, builtin, hd, hs, hrun, Result.andThen]
    exact h w (by simpa [splice] using hg) (Turns.refl _ _)
  · obtain ⟨rfl, ad, rfl, hsrc⟩ := hpos h0
    have hrun := run_copy_row (P := P) w dT sT o.type elem g off dLen dCap ad sLen sCap cur.toArray t cs hu hsz hg hn hsrc (by simpa using hfit) h1
    unfold Oper.wp
    simp [execOp, ho, resolve, invoke, builtin, hd, hs, hrun, Result.andThen]
    refine h _ ?_ (Turns.setRow (S := (· = g)) (Turns.refl _ _) (fun _ => rfl) _)
    have e2 : (w.setRow g (splice cur off cs).toArray).heap[g]? = some (.cells (splice cur off cs).toArray t (0, 0)) := setRow_heap w g _ _ t _ hg
    simpa [At, splice] using e2

end Go.Proofs.YtdcdbbcphkhmeaaDoor
