/-
  io.CopyBuffer on each of its three roads: what it returns, and what it leaves of the reader, the writer, the buffer and the mark.
-/
import Derived.Test.YtnbhhckempbimaaDoorTake
import Derived.Test.YtnbhhckempbimaaDoorDirect
import Derived.WalkSpells
namespace Go.Proofs.YtnbhhckempbimaaDoor
open Go.RowKit
set_option linter.unusedVariables false
set_option maxRecDepth 100000

/-- The road of a copy. -/
def roadOf (direct taking : Bool) : Nat := if direct then 1 else if taking then 2 else 0

/-- What is told of the reads and writes. -/
def Told (s : Src) (room : Int) (size road : Nat) (asked writes : List Int) : Prop :=
  (road = 1 → asked = []) ∧ (road ≠ 1 → 0 < asked.length) ∧ asked.length ≤ 100000001 ∧ writes.length ≤ 100000001 ∧
  (road = 0 → ∃ K, (∀ j, j < K → ¬ s.stops room size j) ∧ s.stops room size K ∧ asked = List.replicate (K + 1) (size : Int) ∧ writes = s.lens size (K + 1))

abbrev nilSl : Value := .slice none 0 0

/-- What io.CopyBuffer returns and leaves. -/
def CBPost (B rb wb ob : Nat) (ocs : Array Value) (s : Src) (dv pv : Value) (room : Int) (quiet taking : Bool) (size road : Nat) (E : Nat → Addr) (w : World) (e : Ending) (w' : World) : Prop :=
  ∃ av gv wv at_ pc asked writes, e = .returned (.tuple #[.int .i64 (s.most room : Nat), errVal E (s.copyCode room quiet)]) ∧ Rd B w' rb s dv pv av at_ pc asked ∧ Wr B w' wb room quiet taking gv wv (s.data.take (s.most room)) writes ∧
    Told s room size road asked writes ∧ At w' ob 25 (ocs.setIfInBounds 6 (.int .i64 (road : Nat))) ∧ Env B E w' ∧ Turns (fun k => B ≤ k) w w' ∧
    (∀ (g : Nat) (t : TypeId) (cs : Array Value), 63 ≠ t → 57 ≠ t → 5 ≠ t → 3 ≠ t → g ≠ ob → At w g t cs → At w' g t cs) ∧
    (∀ (g : Nat) (cs : Array Value), At w g 5 cs → dv.ownBlock ≠ some g → ∃ cs', At w' g 5 cs' ∧ cs'.size = cs.size ∧ (road ≠ 0 → cs' = cs))

section
variable {B rb wb ob pb size plen : Nat} {ocs : Array Value} {w0 w w' : World} {s : Src} {dv pv : Value} {room : Int} {quiet taking : Bool} {E : Nat → Addr} {e : Ending}

theorem nil_own (k : Nat) : ¬ (nilSl.ownBlock = some k) := by simp [Value.ownBlock]

/-- From a copy in pieces. 'w' is ahead of the call; w0 is where the pieces begin. -/
theorem of_copy (road : Nat) (hroad : road ≠ 1) (hsz : road = 0 ∨ road = 2) (size' : Nat) (hs' : road = 0 → size' = size) (h0 : 0 < size) (hdl : s.data.length ≤ 100000000) (hww : Turns (· = ob) w w0) (hBo : B ≤ ob) (ho : At w0 ob 25 (ocs.setIfInBounds 6 (.int .i64 (road : Nat)))) (hE : Env B E w0)
    (hor : ∀ g cs, At w g 5 cs → g ≠ ob) (hpb : road ≠ 0 → w.heap.size ≤ pb)
    (h : CopyPost B rb wb pb size s dv pv nilSl room quiet taking nilSl nilSl plen E w0 e w') (hpl : ∀ cs, At w0 pb 5 cs → cs.size = plen) (hr0 : At w0 rb 63 #[dv, pv, .bool s.together, .bool s.broken, .bool s.direct, .int .i64 0, .int .i64 0, nilSl]) (hw0 : At w0 wb 57 #[.int .i64 room, .bool quiet, .bool taking, nilSl, nilSl]) (hp0 : ∃ cs, At w0 pb 5 cs) :
    CBPost B rb wb ob ocs s dv pv room quiet taking size' road E w e w' := by
  obtain ⟨K, av, gv, wv, pcur, he, hC⟩ := h
  have hTT : Turns (fun k => k = pb ∨ k = rb ∨ k = wb) w0 w' := hC.since.turns.mono (fun i _ hi => by
    rcases hi with h | h | h | h | h | h
    · exact .inl h
    · exact .inr (.inl h)
    · exact .inr (.inr h)
    · exact absurd h (nil_own i)
    · exact absurd h (nil_own i)
    · exact absurd h (nil_own i))
  have hKl := s.pos_ge room size K h0 hC.before
  have hKd := s.pos_le size K
  have hll := s.lens_length size (K + 1)
  have hbase : ∀ k, (k = pb ∨ k = rb ∨ k = wb) → B ≤ k := by
    rintro k (rfl | rfl | rfl)
    · exact hC.pair.bp
    · exact hC.pair.rd.base
    · exact hC.pair.wr.base
  obtain ⟨pcs, hp0⟩ := hp0
  refine ⟨av, gv, wv, _, _, _, _, he, hC.pair.rd, hC.pair.wr, ⟨fun h => absurd h hroad, fun _ => by simp, by rw [List.length_replicate]; omega, by omega, fun hr => ⟨K, ?_⟩⟩, ho.turns hTT ?_, hE.turns hTT hbase, Turns.trans (hww.mono (fun i _ e => by omega)) hTT (fun i _ hi => hbase i hi), ?_, ?_⟩
  · rw [hs' hr]; exact ⟨hC.before, hC.last, rfl, rfl⟩
  · rintro (e | e | e)
    · exact hp0.apart ho (by decide) e.symm
    · exact hr0.apart ho (by decide) e.symm
    · exact hw0.apart ho (by decide) e.symm
  · intro g t cs n1 n2 n3 n4 hg hat
    have hat0 := hat.turns hww hg
    refine hat0.turns hTT ?_
    rintro (e | e | e)
    · subst e; exact hp0.apart hat0 n3 rfl
    · subst e; exact hr0.apart hat0 n1 rfl
    · subst e; exact hw0.apart hat0 n2 rfl
  · intro g cs hat hd
    have hat0 := hat.turns hww (hor g cs hat)
    by_cases hgp : g = pb
    · subst hgp
      refine ⟨_, hC.pair.buf, ?_, fun hr => ?_⟩
      · rw [hpl cs hat0, List.size_toArray]; exact hC.len
      · have := hpb hr
        have := hat.size_lt
        omega
    · refine ⟨cs, hat0.turns hTT ?_, rfl, fun _ => rfl⟩
      rintro (e | e | e)
      · exact hgp e
      · subst e; exact hr0.apart hat0 (by decide) rfl
      · subst e; exact hw0.apart hat0 (by decide) rfl

/-- From one write. -/
theorem of_direct (size' : Nat) (hdl : s.data.length ≤ 100000000) (hE : Env B E w) (hr : Rd B w rb s dv pv nilSl 0 0 []) (hwr : Wr B w wb room quiet taking nilSl nilSl [] []) (hBo : B ≤ ob) (ho : At w ob 25 ocs)
    (h : DirectPost B rb wb ob 6 25 ocs s dv pv nilSl 0 0 [] room quiet taking nilSl nilSl [] [] E w e w') : CBPost B rb wb ob ocs s dv pv room quiet taking size' 1 E w e w' := by
  obtain ⟨gv, wv, he, hR, hW, hO, _, _, hT⟩ := h
  have hTT : Turns (fun k => k = ob ∨ k = rb ∨ k = wb) w w' := hT.mono (fun i _ hi => by
    rcases hi with h | h | h | h | h
    · exact .inl h
    · exact .inr (.inl h)
    · exact .inr (.inr h)
    · exact absurd h (nil_own i)
    · exact absurd h (nil_own i))
  have hbase : ∀ k, (k = ob ∨ k = rb ∨ k = wb) → B ≤ k := by
    rintro k (rfl | rfl | rfl)
    · exact hBo
    · exact hr.base
    · exact hwr.base
  have hmost : takes room ([] : List Int).length (s.data.length - 0) = s.most room := by
    unfold takes Src.most
    simp only [List.length_nil, Int.natCast_zero, Int.sub_zero, Nat.sub_zero]
    exact Nat.min_comm _ _
  have hcode : wtCode s.broken quiet (s.most room) (s.data.length - 0) = s.copyCode room quiet := by
    by_cases h1 : s.data.length ≤ room.toNat
    · have hm : s.most room = s.data.length := Nat.min_eq_right h1
      rw [wtCode, hm, if_neg (by omega), Src.copyCode, if_pos h1]
    · have hm : s.most room = room.toNat := Nat.min_eq_left (by omega)
      rw [wtCode, hm, if_pos (by omega), Src.copyCode, if_neg h1]
  rw [hmost] at he hW
  rw [hcode] at he
  refine ⟨_, gv, wv, _, _, _, _, he, hR, by simpa using hW, ⟨fun _ => rfl, fun h => absurd rfl h, by simp, ?_, fun h => by cases h⟩, hO, hE.turns hTT hbase, hTT.mono (fun i _ hi => hbase i hi), ?_, ?_⟩
  · split <;> simp
  · intro g t cs n1 n2 n3 n4 hg hat
    refine hat.turns hTT ?_
    rintro (e | e | e)
    · exact hg e
    · subst e; exact hr.blk.apart hat n1 rfl
    · subst e; exact hwr.blk.apart hat n2 rfl
  · intro g cs hat hd
    refine ⟨cs, hat.turns hTT ?_, rfl, fun _ => rfl⟩
    rintro (e | e | e)
    · subst e; exact ho.apart hat (by decide) rfl
    · subst e; exact hr.blk.apart hat (by decide) rfl
    · subst e; exact hwr.blk.apart hat (by decide) rfl
end

/-- What the sink is handed on as. -/
def sinkOn (taking : Bool) (wb : Nat) (road : Value) : Value :=
  if taking then .iface 61 (.agg #[.pointer (some ⟨wb, 0, none⟩), road]) else .iface 55 (.pointer (some ⟨wb, 0, none⟩))

/-- io.copyBuffer with a source that has a WriteTo. -/
theorem copy25_direct {B rb wb ob : Nat} {ocs : Array Value} {w : World} {s : Src} {dv pv bv : Value} {room r0 : Int} {quiet taking : Bool} {E : Nat → Addr} (size' : Nat)
    (hR : Rd B w rb s dv pv nilSl 0 0 []) (hW : Wr B w wb room quiet taking nilSl nilSl [] []) (hE : Env B E w) (ho : At w ob 25 ocs) (hoo : ocs[6]? = some (.int .i64 r0)) (hBo : B ≤ ob)
    (hr1 : -9223372036854775808 ≤ room) (hr2 : room ≤ 9223372036854775807) (hdl : s.data.length ≤ 100000000) (T : TypeId) (v : Value) (hm : ∀ W : World, (method 208 T v "Write").run Tryd.prog W = .ok (43, .pointer (some ⟨wb, 0, none⟩)) W) :
    Calls Tryd.prog 25 #[.iface T v, .iface 72 (.agg #[.pointer (some ⟨rb, 0, none⟩), .pointer (some ⟨ob, 6, none⟩)]), bv] w (CBPost B rb wb ob ocs s dv pv room quiet taking size' 1 E w) := by
  have a1 := as_wt_direct
  have a2 := m_writeTo
  have a3 := c_writeTo
  have HR := hide hR; have HW := hide hW; have HE := hide hE; have HO := hide ho; have HM := hide hm
  clear hR hW hE ho hm
  go_enter Tryd.func25, Tryd.ntmps25
  go_wp2_with fail
  refine (writeTo_any HM.out HR.out HW.out HE.out HO.out hoo hBo (by decide) (by decide) (by decide) (by decide) (fun g h => absurd h (nil_own g)) (fun g h => absurd h (nil_own g)) (fun g h => absurd h (nil_own g)) (by unfold imax; simp; split <;> omega) hr1 hr2 (Nat.zero_le _) hdl (by simp) (by simp)).mono ?_
  intro e w1 hp
  have hq := of_direct size' hdl HE.out HR.out HW.out hBo HO.out hp
  obtain ⟨av, gv, wv, at_, pc, asked, writes, rfl, hq2⟩ := hq
  have HQ := hide hq2
  clear hp hq2
  go_wp2
  go_ret2
  exact ⟨av, gv, wv, at_, pc, asked, writes, rfl, HQ.out⟩

/-- io.copyBuffer with a sink that has a ReadFrom. -/
theorem copy25_taker {B rb wb ob : Nat} {ocs : Array Value} {w : World} {s : Src} {dv pv bv : Value} {room r0 : Int} {quiet taking : Bool} {E : Nat → Addr} (size' : Nat)
    (hR : Rd B w rb s dv pv nilSl 0 0 []) (hW : Wr B w wb room quiet taking nilSl nilSl [] []) (hE : Env B E w) (ho : At w ob 25 ocs) (hoo : ocs[6]? = some (.int .i64 r0)) (hBo : B ≤ ob)
    (hr1 : -9223372036854775808 ≤ room) (hr2 : room ≤ 9223372036854775807) (hdl : s.data.length ≤ 100000000) (hpl : s.pieces.length ≤ 1000000000) :
    Calls Tryd.prog 25 #[.iface 61 (.agg #[.pointer (some ⟨wb, 0, none⟩), .pointer (some ⟨ob, 6, none⟩)]), .iface 49 (.pointer (some ⟨rb, 0, none⟩)), bv] w (CBPost B rb wb ob ocs s dv pv room quiet taking size' 2 E w) := by
  have a1 := as_wt_plain
  have a2 := m_readFrom
  have a3 := c_readFrom
  have a4 := as_rf_taker
  have HR := hide hR; have HW := hide hW; have HE := hide hE; have HO := hide ho
  clear hR hW hE ho
  go_enter Tryd.func25, Tryd.ntmps25
  go_wp2_with fail
  refine (readFrom_any HR.out HW.out (fun g h => absurd h (nil_own g)) (fun g h => absurd h (nil_own g)) (fun g h => absurd h (nil_own g)) HE.out HO.out hoo hBo (by decide) (by decide) (by decide) (by decide) hr1 hr2 hdl hpl).mono ?_
  rintro e w1 ⟨w0, pb, hT, hO0, hp, hpb, hp0⟩
  have hq : CBPost B rb wb ob ocs s dv pv room quiet taking size' 2 E w e w1 := by
    have hobr : ob ≠ rb := fun e => HR.out.blk.apart HO.out (by decide) e.symm
    have hobw : ob ≠ wb := fun e => HW.out.blk.apart HO.out (by decide) e.symm
    refine of_copy 2 (by decide) (.inr rfl) size' (fun h => by cases h) (by decide) hdl hT hBo hO0 (HE.out.turns hT (fun k e => by omega)) (fun g cs hat e => by subst e; exact HO.out.apart hat (by decide) rfl) (fun _ => hpb) hp (fun cs hcs => by rw [At.same hcs hp0]; simp [zeros]) (HR.out.blk.turns hT (Ne.symm hobr)) (HW.out.blk.turns hT (Ne.symm hobw)) ⟨_, hp0⟩
  obtain ⟨av, gv, wv, at_, pc, asked, writes, rfl, hq2⟩ := hq
  have HQ := hide hq2
  clear hp hq2 hT hO0 hpb hp0
  go_wp2
  go_ret2
  exact ⟨av, gv, wv, at_, pc, asked, writes, rfl, HQ.out⟩

/-- io.copyBuffer through the buffer. -/
theorem copy25_plain {B rb wb ob pb size cap : Nat} {ocs : Array Value} {w : World} {s : Src} {dv pv : Value} {room r0 : Int} {quiet taking : Bool} {E : Nat → Addr} {pcur : List Value}
    (hR : Rd B w rb s dv pv nilSl 0 0 []) (hW : Wr B w wb room quiet taking nilSl nilSl [] []) (hE : Env B E w) (ho : At w ob 25 ocs) (hoo : ocs[6]? = some (.int .i64 0)) (hBo : B ≤ ob) (hbuf : At w pb 5 pcur.toArray) (hd : dv.ownBlock ≠ some pb) (hBp : B ≤ pb)
    (hsz : size ≤ pcur.length) (h0 : 0 < size) (hcap : size ≤ cap) (hcm : cap ≤ 9223372036854775807) (hs9 : size ≤ 1000000000) (hr1 : -9223372036854775808 ≤ room) (hr2 : room ≤ 9223372036854775807) (hdl : s.data.length ≤ 100000000) (hpl : s.pieces.length ≤ 1000000000) :
    Calls Tryd.prog 25 #[.iface 55 (.pointer (some ⟨wb, 0, none⟩)), .iface 49 (.pointer (some ⟨rb, 0, none⟩)), .slice (some ⟨pb, 0, none⟩) size cap] w (CBPost B rb wb ob ocs s dv pv room quiet taking size 0 E w) := by
  have hset : ocs.setIfInBounds 6 (.int .i64 ((0 : Nat) : Int)) = ocs := by
    apply Array.ext_getElem?
    intro i
    by_cases h6 : i = 6
    · subst h6
      have := (Array.getElem?_eq_some_iff.1 hoo).1
      rw [Array.getElem?_setIfInBounds_self_of_lt this, hoo]; rfl
    · rw [Array.getElem?_setIfInBounds_ne (by omega)]
  refine (copyLoop ⟨hR, hW, hbuf, fun g h => absurd h (nil_own g), nil_own pb, hd, fun g h => absurd h (nil_own g), fun g h => absurd h (nil_own g), hBp⟩ hE hsz h0 hcap hcm hs9 hr1 hr2 hdl hpl).mono ?_
  intro e w1 hp
  exact of_copy 0 (by decide) (.inl rfl) size (fun _ => rfl) h0 hdl (Turns.refl _ _) hBo (by rw [hset]; exact ho) hE (fun g cs hat e => by subst e; exact ho.apart hat (by decide) rfl) (fun h => absurd rfl h) hp (fun cs hcs => by rw [At.same hcs hbuf]; simp) hR.blk hW.blk ⟨_, hbuf⟩

theorem copy25_nil {B rb wb ob size : Nat} {ocs : Array Value} {w : World} {s : Src} {dv pv : Value} {room : Int} {quiet taking : Bool} {E : Nat → Addr} (HSZ : Hid (size = 32768))
    (hR : Rd B w rb s dv pv nilSl 0 0 []) (hW : Wr B w wb room quiet taking nilSl nilSl [] []) (hE : Env B E w) (ho : At w ob 25 ocs) (hoo : ocs[6]? = some (.int .i64 0)) (hBo : B ≤ ob)
    (hr1 : -9223372036854775808 ≤ room) (hr2 : room ≤ 9223372036854775807) (hdl : s.data.length ≤ 100000000) (hpl : s.pieces.length ≤ 1000000000) :
    Calls Tryd.prog 25 #[.iface 55 (.pointer (some ⟨wb, 0, none⟩)), .iface 49 (.pointer (some ⟨rb, 0, none⟩)), .slice none 0 0] w (CBPost B rb wb ob ocs s dv pv room quiet taking size 0 E w) := by
  have hset : ocs.setIfInBounds 6 (.int .i64 ((0 : Nat) : Int)) = ocs := by
    apply Array.ext_getElem?
    intro i
    by_cases h6 : i = 6
    · subst h6
      have := (Array.getElem?_eq_some_iff.1 hoo).1
      rw [Array.getElem?_setIfInBounds_self_of_lt this, hoo]; rfl
    · rw [Array.getElem?_setIfInBounds_ne (by omega)]
  have h0 : 0 < size := by rw [HSZ.out]; omega
  refine (copyLoop_nil HSZ hR hW (fun g h => absurd h (nil_own g)) (fun g h => absurd h (nil_own g)) (fun g h => absurd h (nil_own g)) hE hr1 hr2 hdl hpl).mono ?_
  intro e w1 hp
  exact of_copy 0 (by decide) (.inl rfl) size (fun _ => rfl) h0 hdl (Turns.of_new (new_alloc _ _) _) hBo (by rw [hset]; exact ho.laid _) (hE.alloc _) (fun g cs hat e => by subst e; exact ho.apart hat (by decide) rfl) (fun h => absurd rfl h) hp (fun cs hcs => by rw [At.same hcs (At.made _ _ _)]; simp [zeros]) (hR.blk.laid _) (hW.blk.laid _) ⟨_, At.made _ _ _⟩

theorem neqNil (a : Option Addr) (l c : Nat) (w : World) : (binOp .neq 22 (.slice a l c) (.slice none 0 0)).run Tryd.prog w = .ok (.bool (!a.isNone)) w := run_neq_slice_nil_any w _ _ a l c 0 0 Tryd.underlying22

/-- io.CopyBuffer hands on to io.copyBuffer where the buffer is nil or not empty. -/
theorem copy22 {w : World} {d r : Value} {A : Option Addr} {n c : Nat} {Q : Ending → World → Prop} (hb : A = none ∨ 0 < n) (hn : n ≤ 1000000000)
    (h : Calls Tryd.prog 25 #[d, r, .slice A n c] w fun e w' => ∃ x y, e = .returned (.tuple #[x, y]) ∧ Q e w') : Calls Tryd.prog 22 #[d, r, .slice A n c] w Q := by
  have a1 := neqNil
  have H := hide h
  clear h
  rcases hb with rfl | hpos
  · go_enter Tryd.func22, Tryd.ntmps22
    go_wp2_with fail
    refine H.out.mono ?_
    rintro e w1 ⟨x, y, rfl, hQ⟩
    have HQ := hide hQ
    clear hQ
    go_wp2
    exact HQ.out
  · have hz : ((n : Int) == 0) = false := by simp; omega
    cases A with
    | none =>
      go_enter Tryd.func22, Tryd.ntmps22
      go_wp2_with fail
      refine H.out.mono ?_
      rintro e w1 ⟨x, y, rfl, hQ⟩
      have HQ := hide hQ
      clear hQ
      go_wp2
      exact HQ.out
    | some ad =>
      go_enter Tryd.func22, Tryd.ntmps22
      go_wp2_with fail
      refine H.out.mono ?_
      rintro e w1 ⟨x, y, rfl, hQ⟩
      have HQ := hide hQ
      clear hQ
      go_wp2
      exact HQ.out

/-- An empty buffer that is not nil panics. -/
theorem copy22_panic {w : World} {d r : Value} {ad : Addr} {c : Nat} : Calls Tryd.prog 22 #[d, r, .slice (some ad) 0 c] w fun e w' => (∃ t x, e = .panicked [{ v := .iface t x, recovered := false }]) ∧ w = w' := by
  have a1 := neqNil
  go_enter Tryd.func22, Tryd.ntmps22
  go_wp2
  exact ⟨rfl, ⟨_, _, rfl⟩, rfl⟩

end Go.Proofs.YtnbhhckempbimaaDoor
