/-
  A reader, a writer and a buffer in one memory: what a Read and what a Write leave of the three.
-/
import Derived.Test.YtnbhhckempbimaaDoorReader
import Derived.Test.YtnbhhckempbimaaDoorWriter
import Derived.Test.YtnbhhckempbimaaDoorCopyG
namespace Go.Proofs.YtnbhhckempbimaaDoor
open Go.RowKit
set_option linter.unusedVariables false

/-- A reader, a writer and a buffer, each apart from the others. -/
structure Pair (B : Nat) (w : World) (rb wb pb : Nat) (s : Src) (dv pv av : Value) (at_ pc : Nat) (asked : List Int) (room : Int) (quiet direct : Bool) (gv wv : Value) (got writes : List Int) (pcur : List Value) : Prop where
  rd : Rd B w rb s dv pv av at_ pc asked
  wr : Wr B w wb room quiet direct gv wv got writes
  buf : At w pb 5 pcur.toArray
  g1 : ∀ g, gv.ownBlock = some g → dv.ownBlock ≠ some g
  g2 : gv.ownBlock ≠ some pb
  d1 : dv.ownBlock ≠ some pb
  w1 : ∀ g, wv.ownBlock = some g → pv.ownBlock ≠ some g
  w2 : ∀ g, wv.ownBlock = some g → av.ownBlock ≠ some g
  bp : B ≤ pb

/-- The blocks that a copy may turn. -/
def Hot (pb rb wb : Nat) (av gv wv : Value) (k : Nat) : Prop := k = pb ∨ k = rb ∨ k = wb ∨ av.ownBlock = some k ∨ gv.ownBlock = some k ∨ wv.ownBlock = some k

/-- From w0 to w only those blocks have turned. -/
structure Since (w0 w : World) (pb rb wb : Nat) (av0 gv0 wv0 av gv wv : Value) : Prop where
  turns : Turns (Hot pb rb wb av0 gv0 wv0) w0 w
  na : Near w0 av0 av
  ng : Near w0 gv0 gv
  nw : Near w0 wv0 wv

theorem Since.refl (w : World) (pb rb wb : Nat) (av gv wv : Value) : Since w w pb rb wb av gv wv av gv wv := ⟨Turns.refl _ _, Near.refl _ _, Near.refl _ _, Near.refl _ _⟩

section
variable {B rb wb pb at_ pc : Nat} {w w' : World} {s : Src} {dv pv av gv wv : Value} {asked got writes : List Int} {room : Int} {quiet direct : Bool} {pcur : List Value}

theorem Pair.hot_base (h : Pair B w rb wb pb s dv pv av at_ pc asked room quiet direct gv wv got writes pcur) : ∀ k, Hot pb rb wb av gv wv k → B ≤ k := by
  rintro k (rfl | rfl | rfl | hk | hk | hk)
  · exact h.bp
  · exact h.rd.base
  · exact h.wr.base
  · exact (h.rd.notes.lt k hk).1
  · exact (h.wr.got.lt k hk).1
  · exact (h.wr.notes.lt k hk).1

theorem Pair.drawn (h : Pair B w rb wb pb s dv pv av at_ pc asked room quiet direct gv wv got writes pcur) (n : Nat) : Pair B (w.drewN n) rb wb pb s dv pv av at_ pc asked room quiet direct gv wv got writes pcur :=
  ⟨h.rd.drawn n, h.wr.drawn n, h.buf, h.g1, h.g2, h.d1, h.w1, h.w2, h.bp⟩

theorem Since.drawn {w0 : World} {av0 gv0 wv0 : Value} (h : Since w0 w pb rb wb av0 gv0 wv0 av gv wv) (n : Nat) : Since w0 (w.drewN n) pb rb wb av0 gv0 wv0 av gv wv := ⟨h.turns.drawn n, h.na, h.ng, h.nw⟩

/-- A reader and a writer lie apart. -/
theorem Pair.rb_wb (h : Pair B w rb wb pb s dv pv av at_ pc asked room quiet direct gv wv got writes pcur) : rb ≠ wb := h.rd.blk.apart h.wr.blk (by decide)
theorem Pair.pb_rb (h : Pair B w rb wb pb s dv pv av at_ pc asked room quiet direct gv wv got writes pcur) : pb ≠ rb := h.buf.apart h.rd.blk (by decide)
theorem Pair.pb_wb (h : Pair B w rb wb pb s dv pv av at_ pc asked room quiet direct gv wv got writes pcur) : pb ≠ wb := h.buf.apart h.wr.blk (by decide)

theorem Pair.read {av' : Value} {at' pc' : Nat} {asked' : List Int} {pcur' : List Value} (h : Pair B w rb wb pb s dv pv av at_ pc asked room quiet direct gv wv got writes pcur)
    (hR : Rd B w' rb s dv pv av' at' pc' asked') (hn : Near w av av') (ht : Turns (fun k => k = pb ∨ k = rb ∨ av.ownBlock = some k) w w') (hp : At w' pb 5 pcur'.toArray) :
    Pair B w' rb wb pb s dv pv av' at' pc' asked' room quiet direct gv wv got writes pcur' := by
  refine ⟨hR, h.wr.turns ht ?_ ?_ ?_, hp, h.g1, h.g2, h.d1, h.w1, fun g hg => Near.ne hn (h.wr.notes.lt g hg).2 (h.w2 g hg), h.bp⟩
  · rintro (e | e | e)
    · exact h.pb_wb e.symm
    · exact h.rb_wb e.symm
    · exact own_ne h.rd.notes h.wr.blk (by decide) e
  · rintro g hg (e | e | e)
    · subst e; exact h.g2 hg
    · subst e; exact own_ne h.wr.got h.rd.blk (by decide) hg
    · exact own_own_ne h.wr.got h.rd.notes (by decide) g hg e
  · rintro g hg (e | e | e)
    · subst e; exact own_ne h.wr.notes h.buf (by decide) hg
    · subst e; exact own_ne h.wr.notes h.rd.blk (by decide) hg
    · exact h.w2 g hg e

theorem Pair.write {gv' wv' : Value} {got' writes' : List Int} (h : Pair B w rb wb pb s dv pv av at_ pc asked room quiet direct gv wv got writes pcur)
    (hW : Wr B w' wb room quiet direct gv' wv' got' writes') (n1 : Near w gv gv') (n2 : Near w wv wv') (ht : Turns (fun k => k = wb ∨ gv.ownBlock = some k ∨ wv.ownBlock = some k) w w') :
    Pair B w' rb wb pb s dv pv av at_ pc asked room quiet direct gv' wv' got' writes' pcur := by
  refine ⟨h.rd.turns ht ?_ ?_ ?_ ?_, hW, h.buf.turns ht ?_, fun g hg e => Near.ne n1 (h.rd.data.lt g e).2 (fun e2 => h.g1 g e2 e) hg, Near.ne n1 h.buf.size_lt h.g2, h.d1,
    fun g hg e => Near.ne n2 (h.rd.pieces.lt g e).2 (fun e2 => h.w1 g e2 e) hg, fun g hg e => Near.ne n2 (h.rd.notes.lt g e).2 (fun e2 => h.w2 g e2 e) hg, h.bp⟩
  · rintro (e | e | e)
    · exact h.rb_wb e
    · exact own_ne h.wr.got h.rd.blk (by decide) e
    · exact own_ne h.wr.notes h.rd.blk (by decide) e
  · rintro g hg (e | e | e)
    · subst e; exact own_ne h.rd.data h.wr.blk (by decide) hg
    · exact h.g1 g e hg
    · exact own_own_ne h.rd.data h.wr.notes (by decide) g hg e
  · rintro g hg (e | e | e)
    · subst e; exact own_ne h.rd.pieces h.wr.blk (by decide) hg
    · exact own_own_ne h.rd.pieces h.wr.got (by decide) g hg e
    · exact h.w1 g e hg
  · rintro g hg (e | e | e)
    · subst e; exact own_ne h.rd.notes h.wr.blk (by decide) hg
    · exact own_own_ne h.rd.notes h.wr.got (by decide) g hg e
    · exact h.w2 g e hg
  · rintro (e | e | e)
    · exact h.pb_wb e
    · exact h.g2 e
    · exact own_ne h.wr.notes h.buf (by decide) e

theorem near_hot {w0 : World} {v0 v : Value} (h : Near w0 v0 v) {k : Nat} (hk : k < w0.heap.size) (e : v.ownBlock = some k) : v0.ownBlock = some k := by
  rcases h with h | ⟨g, h, hg⟩
  · rw [← h]; exact e
  · rw [h] at e; injection e with e; omega

theorem Since.read {w0 : World} {av0 gv0 wv0 av' : Value} (h : Since w0 w pb rb wb av0 gv0 wv0 av gv wv) (hn : Near w av av') (ht : Turns (fun k => k = pb ∨ k = rb ∨ av.ownBlock = some k) w w') :
    Since w0 w' pb rb wb av0 gv0 wv0 av' gv wv := by
  refine ⟨h.turns.trans ht ?_, h.na.trans hn h.turns.size, h.ng, h.nw⟩
  rintro i hi (e | e | e)
  · exact .inl e
  · exact .inr (.inl e)
  · exact .inr (.inr (.inr (.inl (near_hot h.na hi e))))

theorem Since.write {w0 : World} {av0 gv0 wv0 gv' wv' : Value} (h : Since w0 w pb rb wb av0 gv0 wv0 av gv wv) (n1 : Near w gv gv') (n2 : Near w wv wv') (ht : Turns (fun k => k = wb ∨ gv.ownBlock = some k ∨ wv.ownBlock = some k) w w') :
    Since w0 w' pb rb wb av0 gv0 wv0 av gv' wv' := by
  refine ⟨h.turns.trans ht ?_, h.na, h.ng.trans n1 h.turns.size, h.nw.trans n2 h.turns.size⟩
  rintro i hi (e | e | e)
  · exact .inr (.inr (.inl e))
  · exact .inr (.inr (.inr (.inr (.inl (near_hot h.ng hi e)))))
  · exact .inr (.inr (.inr (.inr (.inr (near_hot h.nw hi e)))))
end

/-- What a copy in pieces leaves: the round K is the first that ends it. -/
structure CopyEnd (B : Nat) (w0 w : World) (rb wb pb size : Nat) (s : Src) (dv pv av0 : Value) (room : Int) (quiet direct : Bool) (gv0 wv0 : Value) (plen : Nat) (K : Nat) (av gv wv : Value) (pcur : List Value) : Prop where
  before : ∀ j, j < K → ¬ s.stops room size j
  last : s.stops room size K
  pair : Pair B w rb wb pb s dv pv av (s.pos size (K + 1)).1 (s.pos size (K + 1)).2 (List.replicate (K + 1) (size : Int)) room quiet direct gv wv (s.data.take (s.most room)) (s.lens size (K + 1)) pcur
  len : pcur.length = plen
  since : Since w0 w pb rb wb av0 gv0 wv0 av gv wv

end Go.Proofs.YtnbhhckempbimaaDoor
