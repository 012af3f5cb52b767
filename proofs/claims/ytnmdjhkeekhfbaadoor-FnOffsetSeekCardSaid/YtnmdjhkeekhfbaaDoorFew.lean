/-
  Several places appended at once; and what writes, a seek and a write behind it return (plain).
-/
import Derived.Test.YtnmdjhkeekhfbaaDoorWritesG
namespace Go.Proofs.YtnmdjhkeekhfbaaDoor
open Go.RowKit
set_option linter.unusedVariables false

theorem Sl.few (w : World) (e : TypeId) (news : List Value) (size m : Nat) (hl : news.length = m * size) : Sl (w.alloc (.cells news.toArray e)) size (some ⟨w.heap.size, 0, none⟩) m news := by
  refine ⟨hl, fun _ => ⟨_, rfl, by simp, fun j u hu => ?_⟩⟩
  rw [add0, (At.made w e news.toArray).get j]
  simpa using hu

theorem wpList_append_few {P : Program} {w : World} {ops : Array Oper} {rest : List Oper} {o : Oper} {a : Act} {Q : Exit → Act → World → Prop} (hgd : o.guard = none) (s x : Operand) (t : TypeId)
    (ho : o.op = .call { callee := .builtin .append, args := #[s, x], argTypes := #[t, t] })
    (base : Nat) (e : TypeId) (z : Value) (size bytes : Nat) (ht : P.underlying t = some (.slice e)) (hinfo : (P.info? e).map (fun i => (i.zero, i.size, i.bytes)) = some (some z, size, bytes)) (hzs : z.cells.size = size) (hsz : 0 < size)
    (v : Value) (n : Nat) (xs : List Value) (hs : a.eval s = v) (hown : w.ownsRow base e size v n xs)
    (m : Nat) (news : List Value) (H : Nat) (hx : a.eval x = .slice (some ⟨H, 0, none⟩) m m) (hl : news.length = m * size) (h1 : ∀ u ∈ news, u.oneCell' = true)
    (h63 : n + m ≤ maxLen) (hbytes : (n + m) * bytes ≤ 140737488355328) (hbase : base ≤ w.heap.size) (hH : w.heap.size = H)
    (h : ∀ v' w', w'.ownsRow base e size v' (n + m) (xs ++ news) → Turns (fun k => v.ownBlock = some k) w w' → wpList P ops Q rest (a.put o.dst v') w') : wpList P ops Q (o :: rest) a (w.alloc (.cells news.toArray e)) := by
  subst hH
  refine wpList_append_sl hgd s x t ho base e z size bytes ht hinfo hzs hsz v n xs hs (hown.alloc _) _ m m news hx (fun e => by cases e) (Sl.few w e news size m hl) h1 h63 hbytes (by simp; omega) ?_
  intro v' w' h2 h3 _
  exact h v' w' h2 (Turns.trans (Turns.of_new (new_alloc w _) _) h3 (fun _ _ hi => hi))

theorem PlacesAt.append {w : World} {ps qs : List PlaceG} {css dss : List (List Value)} (h : PlacesAt w ps css) (k : PlacesAt w qs dss) : PlacesAt w (ps ++ qs) (css ++ dss) := by
  refine ⟨by simp [h.1, k.1], fun i g' cells' h1 h2 => ?_⟩
  by_cases hi : i < ps.length
  · rw [List.getElem?_append_left hi] at h1
    rw [List.getElem?_append_left (by rw [h.1]; exact hi)] at h2
    exact h.2 i g' cells' h1 h2
  · rw [List.getElem?_append_right (by omega)] at h1
    rw [List.getElem?_append_right (by rw [h.1]; omega), h.1] at h2
    exact k.2 _ g' cells' h1 h2

theorem Placed.many {B : Nat} {w wr : World} {ps qs : List PlaceG} {sv : Value} {css dss : List (List Value)} {n : Nat} (hp : PlacesAt w ps css) (h4 : ∀ c ∈ css, c.length = 4) (hq : PlacesAt w qs dss) (k4 : ∀ c ∈ dss, c.length = 4) (hn : ps.length + qs.length = n)
    (hown : wr.ownsRow B 28 4 sv n (css.flatten ++ dss.flatten)) : Placed B w wr (ps ++ qs) sv := by
  refine ⟨css ++ dss, ?_, hp.append hq, fun c hm => ?_⟩
  · rw [List.length_append, List.flatten_append, hn]
    exact hown
  · rcases List.mem_append.1 hm with hm | hm
    · exact h4 c hm
    · exact k4 c hm

theorem seek_run (base limit : Int) (ts : List (List Int)) (bs : List Int) (off : Int) (h : base + (tot ts : Nat) ≤ limit) (ho : 0 ≤ off) (h2 : off + base + (bs.length : Int) ≤ limit) :
    runG base limit (ts.map writeP ++ [⟨2, [], off, 0⟩, ⟨0, bs, 0, 0⟩]) = (ts.map (fun t => ⟨(t.length : Nat), 0⟩) ++ [⟨off, 0⟩, ⟨bs.length, 0⟩], off + base + bs.length, callsOf base ts ++ [⟨off + base, bs⟩]) := by
  have e : ts.map writeP ++ [⟨2, [], off, 0⟩, ⟨0, bs, 0, 0⟩] = (ts.map writeP ++ [⟨2, [], off, 0⟩]) ++ [⟨0, bs, 0, 0⟩] := by simp
  have u1 : seekG base (base + (tot ts : Nat)) (off + base) = (⟨off, 0⟩, off + base, []) := by unfold seekG; rw [if_neg (by omega)]; simp
  have u2 : underG limit (off + base) bs.length = ⟨bs.length, 0⟩ := by unfold underG; rw [if_neg (by omega)]
  rw [e, runG_snoc, runG_snoc, writes_run base limit ts h]
  simp [moveG, u1, u2]

theorem current_run (base limit : Int) (ts : List (List Int)) (bs : List Int) (by_ : Int) (h : base + (tot ts : Nat) ≤ limit) (ho : 0 ≤ by_) (h2 : base + (tot ts : Nat) + by_ + (bs.length : Int) ≤ limit) :
    runG base limit (ts.map writeP ++ [⟨2, [], by_, 1⟩, ⟨0, bs, 0, 0⟩, ⟨2, [], -(tot ts : Nat) - by_ - (bs.length : Nat), 1⟩]) =
      (ts.map (fun t => ⟨(t.length : Nat), 0⟩) ++ [⟨(tot ts : Nat) + by_, 0⟩, ⟨bs.length, 0⟩, ⟨0, 0⟩], base, callsOf base ts ++ [⟨base + (tot ts : Nat) + by_, bs⟩]) := by
  have e : ts.map writeP ++ [⟨2, [], by_, 1⟩, ⟨0, bs, 0, 0⟩, ⟨2, [], -(tot ts : Nat) - by_ - (bs.length : Nat), 1⟩] = ((ts.map writeP ++ [⟨2, [], by_, 1⟩]) ++ [⟨0, bs, 0, 0⟩]) ++ [⟨2, [], -(tot ts : Nat) - by_ - (bs.length : Nat), 1⟩] := by simp
  have u1 : seekG base (base + (tot ts : Nat)) (by_ + (base + (tot ts : Nat))) = (⟨(tot ts : Nat) + by_, 0⟩, base + (tot ts : Nat) + by_, []) := by
    unfold seekG
    rw [if_neg (by omega)]
    simp only [Prod.mk.injEq, MovedG.mk.injEq, and_true]
    omega
  have u2 : underG limit (base + (tot ts : Nat) + by_) bs.length = ⟨bs.length, 0⟩ := by unfold underG; rw [if_neg (by omega)]
  have u3 : seekG base (base + (tot ts : Nat) + by_ + (bs.length : Nat)) (-(tot ts : Nat) - by_ - (bs.length : Nat) + (base + (tot ts : Nat) + by_ + (bs.length : Nat))) = (⟨0, 0⟩, base, []) := by
    unfold seekG
    rw [if_neg (by omega)]
    simp only [Prod.mk.injEq, MovedG.mk.injEq, and_true]
    omega
  rw [e, runG_snoc, runG_snoc, runG_snoc, writes_run base limit ts h]
  simp only [moveG, u1]
  simp [u2, u3]

end Go.Proofs.YtnmdjhkeekhfbaaDoor
