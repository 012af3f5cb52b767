/-
  What impl.OffsetWriter does: what runG says, one call behind the other.
-/
import Derived.Test.YtnmdjhkeekhfbaaDoorMoveAny
namespace Go.Proofs.YtnmdjhkeekhfbaaDoor
open Go.RowKit
set_option linter.unusedVariables false
set_option maxRecDepth 100000

theorem infoMoved : (Tryd.prog.info? 38).map (fun i => (i.zero, i.size, i.bytes)) = some (some (.agg #[.int .i64 0, .int .i64 0]), 2, 16) := by kernel_rfl

/-- The four cells of a place, and the bytes that its slice reads as. -/
def PlaceAt (w : World) (p : PlaceG) (cells : List Value) : Prop :=
  ∃ A c, cells = [.int .i64 p.kind, .slice A p.data.length c, .int .i64 p.off, .int .i64 p.whence] ∧ Sl w 1 A p.data.length (p.data.map (Value.int .u8)) ∧ (A = none → c = 0)
def PlacesAt (w : World) (ps : List PlaceG) (css : List (List Value)) : Prop := css.length = ps.length ∧ ∀ (i : Nat) (p : PlaceG) (cells : List Value), ps[i]? = some p → css[i]? = some cells → PlaceAt w p cells
/-- The cells of the results. -/
def movedCells (l : List MovedG) : List Value := l.flatMap fun r => [.int .i64 r.n, .int .i64 (r.code : Nat)]

theorem movedCells_snoc (l : List MovedG) (r : MovedG) : movedCells (l ++ [r]) = movedCells l ++ [.int .i64 r.n, .int .i64 (r.code : Nat)] := by simp [movedCells]
theorem flatten4_get (css : List (List Value)) (h : ∀ c ∈ css, c.length = 4) (k i : Nat) (hi : i < 4) : css.flatten[k * 4 + i]? = (css[k]?).bind (·[i]?) := by
  induction css generalizing k with
  | nil => simp
  | cons c css ih =>
    have hc := h c (List.mem_cons_self ..)
    rw [List.flatten_cons]
    cases k with
    | zero => rw [List.getElem?_append_left (by omega)]; simp
    | succ k =>
      rw [List.getElem?_append_right (by omega)]
      rw [show (k + 1) * 4 + i - c.length = k * 4 + i by omega, ih (fun c hc => h c (List.mem_cons_of_mem _ hc)) k]
      simp

/-- The state of the loop behind k calls. -/
def OffInv (B : Nat) (base limit : Int) (ps : List PlaceG) (ob mb : Nat) (E : Nat → Addr) (w : World) (k : Nat) (v : Value) (wr : World) : Prop :=
  ∃ cv css, Ow B wr ob mb base (runG base limit (ps.take k)).2.1 limit cv (runG base limit (ps.take k)).2.2 css ∧ wr.ownsRow B 38 2 v k (movedCells (runG base limit (ps.take k)).1) ∧ Env B E wr ∧ Below B w wr

def OffPost (base limit : Int) (ps : List PlaceG) (w : World) (e : Ending) (w' : World) : Prop :=
  ∃ v cv css, e = .returned (.tuple #[v, cv]) ∧ w'.ownsRow w.heap.size 38 2 v ps.length (movedCells (runG base limit ps).1) ∧
    w'.ownsRow w.heap.size 34 2 cv (runG base limit ps).2.2.length css.flatten ∧ CallsAt w.heap.size w' (runG base limit ps).2.2 css ∧ (∀ c ∈ css, c.length = 2) ∧ New w w'

theorem newOW (v : Value) (base : Int) (w : World) (hv : ∃ u x, v = .iface u x) : Calls Tryd.prog 20 #[v, .int .i64 base] w fun e w' => e = .returned (.pointer (some ⟨w.heap.size, 0, none⟩)) ∧ w.alloc (.cells #[v, .int .i64 base, .int .i64 base] 72) = w' := by
  obtain ⟨u, x, rfl⟩ := hv
  go_enter Tryd.func20, Tryd.ntmps20
  go_wp2
  go_ret
  exact ⟨rfl, rfl⟩

/-- One call's result is appended. -/
theorem off_more {B ob mb k : Nat} {base limit : Int} {ps : List PlaceG} {p : PlaceG} {cv cv' v v' : Value} {E : Nat → Addr} {w wr w1 w2 : World} {css css' : List (List Value)}
    (hst : ps[k]? = some p) (hO : Ow B wr ob mb base (runG base limit (ps.take k)).2.1 limit cv (runG base limit (ps.take k)).2.2 css) (hE : Env B E wr) (hb : Below B w wr)
    (hO1 : Ow B w1 ob mb base (moveG base limit (runG base limit (ps.take k)).2.1 p).2.1 limit cv' ((runG base limit (ps.take k)).2.2 ++ (moveG base limit (runG base limit (ps.take k)).2.1 p).2.2) css')
    (ht1 : Turns (fun k => k = ob ∨ k = mb ∨ cv.ownBlock = some k) wr w1) (hown1 : w1.ownsRow B 38 2 v k (movedCells (runG base limit (ps.take k)).1))
    (hown2 : w2.ownsRow B 38 2 v' (k + 1) (movedCells (runG base limit (ps.take k)).1 ++ [.int .i64 (moveG base limit (runG base limit (ps.take k)).2.1 p).1.n, .int .i64 ((moveG base limit (runG base limit (ps.take k)).2.1 p).1.code : Nat)]))
    (ht2 : Turns (fun k => v.ownBlock = some k) w1 w2) : OffInv B base limit ps ob mb E w (k + 1) v' w2 := by
  have hk : k < ps.length := (List.getElem?_eq_some_iff.1 hst).1
  have e : ps.take (k + 1) = ps.take k ++ [p] := by rw [List.take_add_one, hst]; rfl
  have hBB : B ≤ wr.heap.size := by have := hO.obase; have := hO.blk.size_lt; omega
  have hsz := ht1.size
  have hBw : ∀ k, (k = ob ∨ k = mb ∨ cv.ownBlock = some k) → B ≤ k := fun k hk => by
    rcases hk with rfl | rfl | hk
    · exact hO.obase
    · exact hO.mem.base
    · exact (hO.mem.own.lt k hk).1
  have hB2 : ∀ k, v.ownBlock = some k → B ≤ k := fun k hk => (hown1.lt k hk).1
  unfold OffInv
  rw [e, runG_snoc]
  refine ⟨cv', css', ⟨hO1.blk.turns ht2 (fun h => own_ne hown1 hO1.blk (by decide) h), hO1.mem.turns ht2 (fun h => own_ne hown1 hO1.mem.blk (by decide) h) (fun g hg h => ?_) (fun k cs hc h => own_ne hown1 hc (by decide) h), hO1.obase⟩, by rw [movedCells_snoc]; exact hown2, (hE.turns ht1 hBw).turns ht2 hB2,
    (hb.trans (ht1.below hBB (fun i hi h => by have := hBw i h; omega))).trans (ht2.below (by omega) (fun i hi h => by have := hB2 i h; omega))⟩
  rcases hO1.mem.own.2 with ⟨rfl, _⟩ | ⟨g', cap, cur, rfl, _, hh, _⟩
  · simp [Value.ownBlock] at hg
  · have e2 : g' = g := by simpa [Value.ownBlock] using hg
    subst e2
    exact own_ne hown1 (t := 34) (cs := cur) hh (by decide) h

set_option maxHeartbeats 1000000 in
theorem offRun {w : World} {base limit : Int} {ps : List PlaceG} {css : List (List Value)} {B0 : Nat} {sv : Value} {E : Nat → Addr} (hs : w.ownsRow B0 28 4 sv ps.length css.flatten) (hps : PlacesAt w ps css) (hc4 : ∀ c ∈ css, c.length = 4) (hl : ps.length ≤ 2000)
    (hf : ∀ p ∈ ps, Fits p) (hl1 : -9007199254740992 ≤ limit) (hl2 : limit ≤ 9007199254740992) (hb0 : 0 ≤ base) (hb2 : base ≤ 2199023255552) (hE : Env w.heap.size E w) :
    Calls Tryd.prog 14 #[.int .i64 base, .int .i64 limit, sv] w (OffPost base limit ps w) := by
  obtain ⟨SA, sc, rfl, -, -⟩ := Sl.of_own hs
  have HS := hide hs; have HPS := hide hps; have HC4 := hide hc4; have HFT := hide hf; have HE := hide hE
  clear hs hps hc4 hf hE
  go_enter Tryd.func14, Tryd.ntmps14
  go_wp2_with fail
  refine (newOW _ _ _ ⟨_, _, rfl⟩).mono ?_
  rintro e w1 ⟨rfl, rfl⟩
  go_wp2_with fail
  have hI0 : OffInv w.heap.size base limit ps (w.heap.size + 1) w.heap.size E w 0 (.slice (some ⟨w.heap.size + 1 + 1, 0, none⟩) 0 0) (((w.alloc (.cells #[.int .i64 limit, .slice none 0 0] 60)).alloc (.cells #[.iface 58 (.pointer (some ⟨w.heap.size, 0, none⟩)), .int .i64 base, .int .i64 base] 72)).alloc (.cells #[] 38)) := by
    have hN : New w (((w.alloc (.cells #[.int .i64 limit, .slice none 0 0] 60)).alloc (.cells #[.iface 58 (.pointer (some ⟨w.heap.size, 0, none⟩)), .int .i64 base, .int .i64 base] 72)).alloc (.cells #[] 38)) := new_al (new_al (new_alloc _ _) _) _
    refine ⟨.slice none 0 0, [], ⟨?_, ⟨?_, ⟨by simp [runG], .inl ⟨rfl, by simp [runG]⟩⟩, ⟨by simp [runG], fun i g cells h => by simp [runG] at h⟩, by simp, Nat.le_refl _⟩, by omega⟩, lit_own _ _ (At.made' (by simp) _ _) (by omega), HE.out.below hN, hN⟩
    · exact (At.made' (by simp) _ _).laid _
    · exact ((At.made _ _ _).laid _).laid _
  have HI0 := hide hI0
  clear hI0
  generalize ((w.alloc (.cells #[.int .i64 limit, .slice none 0 0] 60)).alloc (.cells #[.iface 58 (.pointer (some ⟨w.heap.size, 0, none⟩)), .int .i64 base, .int .i64 base] 72)).alloc (.cells #[] 38) = w1 at *
  go_loopw [10, 11] (fun v i wr => ∃ k : Nat, k ≤ ps.length ∧ i = .int .i64 k ∧ Hid (OffInv w.heap.size base limit ps (w.heap.size + 1) w.heap.size E w k v wr)) (fun _ i _ => ps.length - (intOf i).toNat)
  case atStart => exact ⟨0, Nat.zero_le _, rfl, HI0.out⟩
  case round =>
    obtain ⟨k, hk, rfl, hinv⟩ := hrel
    by_cases hlt : k < ps.length
    · rcases HS.out.2 with ⟨_, h0⟩ | ⟨g, scap, scur, hsv, _, hsg, hsc1, hsm, _⟩
      · omega
      cases hsv
      have hgs0 : g < w.heap.size := (Array.getElem?_eq_some_iff.1 hsg).1
      have hcell : ∀ j u, css.flatten[j]? = some u → w.cell? ⟨g, j, none⟩ = some u := fun j u hu => add0 g j ▸ HS.out.cells (g := g) rfl j u hu
      clear hsg
      unfold maxLen at hsm
      obtain ⟨p, hst⟩ : ∃ p, ps[k]? = some p := ⟨ps[k], List.getElem?_eq_getElem hlt⟩
      have hft := HFT.out p (List.mem_of_getElem? hst)
      obtain ⟨cells, hcs⟩ : ∃ c, css[k]? = some c := ⟨css[k]'(by rw [HPS.out.1]; exact hlt), List.getElem?_eq_getElem (by rw [HPS.out.1]; exact hlt)⟩
      obtain ⟨PA, pc, rfl, hpsl, hPn⟩ := HPS.out.2 k p cells hst hcs
      have hrs := runG_stays base limit ps ⟨hb0, hb2⟩ HFT.out k hk
      obtain ⟨cv, ccs, hO, hown, hE, hb⟩ := hinv.out
      have fl := fun i hi => flatten4_get css HC4.out k i hi
      rw [hcs] at fl
      have q0 : wr.cell? ⟨g, k * 4, none⟩ = some (.int .i64 p.kind) := (hb.cell (p := ⟨g, k * 4, none⟩) hgs0).trans (hcell _ _ (fl 0 (by omega)))
      have q1 : wr.cell? ⟨g, k * 4 + 1, none⟩ = some (.slice PA p.data.length pc) := (hb.cell (p := ⟨g, k * 4 + 1, none⟩) hgs0).trans (hcell _ _ (fl 1 (by omega)))
      have q2 : wr.cell? ⟨g, k * 4 + 2, none⟩ = some (.int .i64 p.off) := (hb.cell (p := ⟨g, k * 4 + 2, none⟩) hgs0).trans (hcell _ _ (fl 2 (by omega)))
      have q3 : wr.cell? ⟨g, k * 4 + 3, none⟩ = some (.int .i64 p.whence) := (hb.cell (p := ⟨g, k * 4 + 3, none⟩) hgs0).trans (hcell _ _ (fl 3 (by omega)))
      have hpw : Sl wr 1 PA p.data.length (p.data.map (Value.int .u8)) := hpsl.below hb (fun ad e hn => by
        obtain ⟨ad', e', hlt', _⟩ := hpsl.2 hn
        rw [e] at e'
        cases e'
        exact hlt')
      have HST := hide hst; have HO := hide hO; have HOWN := hide hown; have HEN := hide hE; have HB := hide hb; have HPW := hide hpw; have HPN := hide hPn; have HRS := hide hrs; have HFIT := hide hft
      obtain ⟨VA, vc, rfl, -, -⟩ := Sl.of_own hown
      clear hst hcs hpsl hO hown hE hb hcell hinv hpw hPn fl hrs hft
      go_wp2_with fail
      have hBw : w.heap.size ≤ wr.heap.size := HB.out.size
      refine (move_any (p := p) HO.out HEN.out HPW.out HPN.out HFIT.out (by have := HRS.out.2.2.2; omega) hl1 hl2 hb0 hb2 HRS.out.1 (by have := HRS.out.2.1; omega)).mono ?_
      rintro e w3 ⟨cv', css', rfl, hO3, ht3⟩
      have hown3 := own_turns HOWN.out ht3 (fun g hg h => by
        rcases h with h | h | h
        · subst h; exact own_ne HOWN.out HO.out.blk (by decide) hg
        · subst h; exact own_ne HOWN.out HO.out.mem.blk (by decide) hg
        · rcases HOWN.out.2 with ⟨e1, _⟩ | ⟨g', cap, cur, e1, _, hh, _⟩
          · rw [e1] at hg; simp [Value.ownBlock] at hg
          · rw [e1] at hg
            have e2 : g' = g := by simpa [Value.ownBlock] using hg
            subst e2
            exact own_ne HO.out.mem.own (t := 38) (cs := cur) hh (by decide) h)
      have HOWN3 := hide hown3; have HO3 := hide hO3; have HT3 := hide ht3
      have hB3 : w.heap.size ≤ w3.heap.size := Nat.le_trans hBw ht3.size
      clear hown3 hO3 ht3 q0 q1 q2 q3
      generalize hmv : moveG base limit (runG base limit (ps.take k)).2.1 p = mv at *
      go_wp2_with (at_builtin; (with_reducible refine wpList_append_one rfl (.tmp 26) (.tmp 33) 29 rfl w.heap.size 38 _ 2 16 Tryd.underlying29 infoMoved rfl (by decide) _ _ _ rfl HOWN3.out _ _ rfl rfl ?c1 ?c2 ?c3 hB3 rfl ?_))
      case c1 => intro u hu; simp at hu; rcases hu with rfl | rfl <;> rfl
      case c2 => unfold maxLen; omega
      case c3 => omega
      intro v4 w4 hown4 ht4 hn4
      subst hmv
      have hI := off_more HST.out HO.out HEN.out HB.out HO3.out HT3.out HOWN3.out hown4 ht4
      have HI := hide hI
      clear hI hown4 ht4 hn4
      go_wp2
      go_roundw
      case rel => exact ⟨k + 1, by omega, by go_num, HI.out⟩
      case measure => simp [intOf]; omega
    · obtain ⟨cv, ccs, hO, hown, hE, hb⟩ := hinv.out
      obtain rfl : k = ps.length := by omega
      rw [List.take_length] at hO hown
      obtain ⟨CA, cc, rfl, -, -⟩ := Sl.of_own hO.mem.own
      have m1 := hO.mem.blk.get 1
      have HOWN := hide hown; have HO := hide hO; have HB := hide hb
      obtain ⟨VA, vc, rfl, -, -⟩ := Sl.of_own hown
      clear hinv hO hown hE hb
      go_wp2_with fail
      go_quiet (fail)
      rename Nat => q1
      go_wp2
      go_ret2
      exact ⟨_, _, ccs, rfl, HOWN.out, HO.out.mem.own, HO.out.mem.calls, HO.out.mem.two, below_drawn HB.out _⟩

end Go.Proofs.YtnmdjhkeekhfbaaDoor
