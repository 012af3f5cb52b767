/-
  What a step that writes (kind 2) does: with a WriteTo it writes all that is left, without one it returns nothing.
-/
import Derived.Test.YtdcdbbcphkhmeaaDoorNopReads
import Derived.Test.YtdcdbbcphkhmeaaDoorDirect2
namespace Go.Proofs.YtdcdbbcphkhmeaaDoor
open Go.RowKit
set_option linter.unusedVariables false
set_option maxRecDepth 100000

theorem wt_as_direct (v : Value) (w : World) : (Instr.typeAssert (.iface 63 v) 50 60 true).run Tryd.prog w = .ok (.tuple #[.iface 63 v, .bool true]) w := by kernel_rfl
theorem wt_as_plain (v : Value) (w : World) : (Instr.typeAssert (.iface 64 v) 50 60 true).run Tryd.prog w = .ok (.tuple #[.nilIface, .bool false]) w := run_typeAssert_lacksB Tryd.underlying60 (by kernel_rfl) (by kernel_rfl) v _ w
theorem wt_as_in (v : Value) (w : World) : (Instr.typeAssert (.iface 58 v) 45 60 false).run Tryd.prog w = .ok (.iface 58 v) w := by kernel_rfl
theorem wt_m_outer (v : Value) (w : World) : (method 200 63 (.agg #[v]) "WriteTo").run Tryd.prog w = .ok (35, .agg #[v]) w := by kernel_rfl
theorem wt_m_in (x r : Value) (w : World) : (method 200 58 (.agg #[x, r]) "WriteTo").run Tryd.prog w = .ok (33, .agg #[x, r]) w := by kernel_rfl
theorem wt_m_write (a : Addr) (w : World) : (method 200 71 (.pointer (some a)) "Write").run Tryd.prog w = .ok (37, .pointer (some a)) w := by kernel_rfl
theorem wt_c_outer (args : Array Value) (w : World) : (callFunc 35 args).run Tryd.prog w = .ok (.enter 35 args) w := by kernel_rfl
theorem wt_c_in (args : Array Value) (w : World) : (callFunc 33 args).run Tryd.prog w = .ok (.enter 33 args) w := by kernel_rfl

theorem nil_own (g : Nat) : (Value.slice none 0 0).ownBlock ≠ some g := by simp [Value.ownBlock]

/-- What is left of a source, written. -/
def Left (B rb ob wb : Nat) (s : Src) (at_ : Nat) (E : Nat → Addr) (w : World) (e : Ending) (w' : World) : Prop :=
  ∃ gv wv writes, e = .returned (.tuple #[.int .i64 ((s.data.length - at_ : Nat) : Int), errVal E (if s.broken = true then 2 else 0)]) ∧
    Wr B w' wb 1048576 false false gv wv (s.data.drop at_) writes ∧ Turns (fun k => k = ob ∨ k = rb ∨ k = wb) w w'

theorem closer_writeTo {B0 B rb wb ob at_ pc : Nat} {w : World} {s : Src} {dv pv av : Value} {r0 : Int} {asked : List Int} {E : Nat → Addr}
    (hR : Rd B w rb s dv pv av at_ pc asked) (hW : Wr B w wb 1048576 false false (.slice none 0 0) (.slice none 0 0) [] []) (hE : Env B0 E w) (ho : At w ob 3 #[.int .i64 r0]) (hBo : ob < B) (hB0 : B0 ≤ ob) (hle : at_ ≤ s.data.length) (hd : s.data.length ≤ 65536) :
    Calls Tryd.prog 35 #[.agg #[.iface 58 (.agg #[.pointer (some ⟨rb, 0, none⟩), .pointer (some ⟨ob, 0, none⟩)])], .iface 71 (.pointer (some ⟨wb, 0, none⟩))] w (Left B rb ob wb s at_ E w) := by
  have a1 := wt_as_in
  have a2 := wt_m_in
  have a3 := wt_c_in
  have htk : takes 1048576 ([] : List Int).length (s.data.length - at_) = s.data.length - at_ := by
    unfold takes
    exact Nat.min_eq_left (by simp only [List.length_nil]; omega)
  have hcode : wtCode s.broken false (s.data.length - at_) (s.data.length - at_) = if s.broken = true then 2 else 0 := by unfold wtCode; rw [if_neg (by omega)]
  have hdrop : ([] : List Int) ++ (s.data.drop at_).take (s.data.length - at_) = s.data.drop at_ := by
    rw [List.nil_append, List.take_of_length_le (by rw [List.length_drop]; exact Nat.le_refl _)]
  have HR := hide hR; have HW := hide hW; have HE := hide hE; have HO := hide ho; have HTK := hide htk; have HCO := hide hcode; have HDR := hide hdrop
  clear hR hW hE ho htk hcode hdrop
  go_enter Tryd.func35, Tryd.ntmps35
  go_wp2_with fail
  have hN : New w (w.alloc (.cells #[.iface 58 (.agg #[.pointer (some ⟨rb, 0, none⟩), .pointer (some ⟨ob, 0, none⟩)])] 63)) := new_alloc _ _
  generalize w.alloc (.cells #[.iface 58 (.agg #[.pointer (some ⟨rb, 0, none⟩), .pointer (some ⟨ob, 0, none⟩)])] 63) = wx at *
  have HN := hide hN
  clear hN
  refine (writeTo_any (B0 := B0) (B := B) (wt_m_write _) (HR.out.turns (Turns.of_new HN.out (fun _ => False)) (fun h => h) (fun _ _ h => h) (fun _ _ h => h) (fun _ _ h => h)) (HW.out.turns (Turns.of_new HN.out (fun _ => False)) (fun h => h) (fun _ _ h => h) (fun _ _ h => h)) (HE.out.turns (Turns.of_new HN.out (fun _ => False)) (fun _ h => h.elim)) (HO.out.new HN.out) rfl hBo hB0 (fun g h => absurd h (nil_own g)) (fun g h => absurd h (nil_own g)) (fun g h => absurd h (nil_own g)) (by unfold imax; simp) (by omega) (by omega) hle (by omega) (by simp) (by simp)).mono ?_
  rintro e w2 ⟨gv', wv', rfl, hR2, hW2, -, -, -, hT2⟩
  rw [HTK.out] at hW2 ⊢
  rw [HCO.out]
  rw [HDR.out] at hW2
  have hL : Left B rb ob wb s at_ E w (.returned (.tuple #[.int .i64 ((s.data.length - at_ : Nat) : Int), errVal E (if s.broken = true then 2 else 0)])) w2 :=
    ⟨gv', wv', _, rfl, hW2, Turns.trans (Turns.of_new HN.out _) hT2 (fun i _ h => by
      rcases h with h | h | h | h | h
      · exact .inl h
      · exact .inr (.inl h)
      · exact .inr (.inr h)
      · exact absurd h (nil_own i)
      · exact absurd h (nil_own i))⟩
  have HL := hide hL
  clear hL hW2 hR2 hT2
  generalize (if s.broken = true then 2 else 0) = code at *
  go_wp2
  go_ret2
  exact HL.out

/-- The last step's result. -/
def Src.lastG (s : Src) (at_ : Nat) : GotG := if s.direct = true then ⟨s.data.drop at_, s.data.length - at_, if s.broken = true then 2 else 0, true⟩ else ⟨[], 0, 0, false⟩

def LastPost (B rb ob : Nat) (g : GotG) (w : World) (e : Ending) (w' : World) : Prop :=
  ∃ A c, e = .returned (.agg #[.slice A g.data.length c, .int .i64 (g.n : Nat), .int .i64 (g.code : Nat), .bool g.has]) ∧ GotAt B w' g [.slice A g.data.length c, .int .i64 (g.n : Nat), .int .i64 (g.code : Nat), .bool g.has] ∧ Turns (fun k => k = ob ∨ k = rb) w w'

set_option maxHeartbeats 1000000 in
theorem step_plain {B rb ob : Nat} {road : Value} {w : World} (hBw : B ≤ w.heap.size) :
    Calls Tryd.prog 13 #[closer false rb road, .agg #[.int .i64 2, .int .i64 1048576]] w (LastPost B rb ob ⟨[], 0, 0, false⟩ w) := by
  unfold closer handOn
  have hme := wt_as_plain
  go_enter Tryd.func13, Tryd.ntmps13
  go_wp2
  have hg : At ((((w.alloc (.cells #[.int .i64 2, .int .i64 1048576] 26)).alloc (.cells #[.slice (some ⟨w.heap.size + 1 + 1 + 1, 0, none⟩) 0 0, .int .i64 0, .int .i64 0, .bool false] 37)).alloc (.cells #[.int .i64 1048576, .bool false, .bool false, .slice none 0 0, .slice none 0 0] 75)).alloc (.cells #[] 5)) (w.heap.size + 1) 37 #[.slice (some ⟨w.heap.size + 1 + 1 + 1, 0, none⟩) 0 0, .int .i64 0, .int .i64 0, .bool false] := ((At.made' (by simp) _ _).laid _).laid _
  have hl : At ((((w.alloc (.cells #[.int .i64 2, .int .i64 1048576] 26)).alloc (.cells #[.slice (some ⟨w.heap.size + 1 + 1 + 1, 0, none⟩) 0 0, .int .i64 0, .int .i64 0, .bool false] 37)).alloc (.cells #[.int .i64 1048576, .bool false, .bool false, .slice none 0 0, .slice none 0 0] 75)).alloc (.cells #[] 5)) (w.heap.size + 1 + 1 + 1) 5 #[] := At.made' (by simp) _ _
  have hN : New w ((((w.alloc (.cells #[.int .i64 2, .int .i64 1048576] 26)).alloc (.cells #[.slice (some ⟨w.heap.size + 1 + 1 + 1, 0, none⟩) 0 0, .int .i64 0, .int .i64 0, .bool false] 37)).alloc (.cells #[.int .i64 1048576, .bool false, .bool false, .slice none 0 0, .slice none 0 0] 75)).alloc (.cells #[] 5)) := new_al (new_al (new_al (new_alloc _ _) _) _) _
  generalize ((((w.alloc (.cells #[.int .i64 2, .int .i64 1048576] 26)).alloc (.cells #[.slice (some ⟨w.heap.size + 1 + 1 + 1, 0, none⟩) 0 0, .int .i64 0, .int .i64 0, .bool false] 37)).alloc (.cells #[.int .i64 1048576, .bool false, .bool false, .slice none 0 0, .slice none 0 0] 75)).alloc (.cells #[] 5)) = wF at *
  have r0 : wF.cell? ⟨w.heap.size + 1, 0, none⟩ = some (.slice (some ⟨w.heap.size + 1 + 1 + 1, 0, none⟩) 0 0) := hg.get 0
  have r1 : wF.cell? ⟨w.heap.size + 1, 1, none⟩ = some (.int .i64 0) := hg.get 1
  have r2 : wF.cell? ⟨w.heap.size + 1, 2, none⟩ = some (.int .i64 0) := hg.get 2
  have r3 : wF.cell? ⟨w.heap.size + 1, 3, none⟩ = some (.bool false) := hg.get 3
  refine bodyPost_ret (v := .agg #[.slice (some ⟨w.heap.size + 1 + 1 + 1, 0, none⟩) 0 0, .int .i64 0, .int .i64 0, .bool false]) (by simp [results, Tryd.results13, go_sem, r0, r1, r2, r3]) rfl ?_
  exact ⟨some ⟨w.heap.size + 1 + 1 + 1, 0, none⟩, 0, rfl, ⟨some ⟨w.heap.size + 1 + 1 + 1, 0, none⟩, 0, rfl, Sl.none_ _ _ _, (fun e => by cases e), fun ad e => by cases e; exact ⟨by simp; omega, _, hl⟩⟩, Turns.of_new hN _⟩

set_option maxHeartbeats 1000000 in
theorem step_direct {B0 B rb ob at_ pc : Nat} {w : World} {s : Src} {dv pv av : Value} {r0 : Int} {asked : List Int} {E : Nat → Addr}
    (h : Rd B w rb s dv pv av at_ pc asked) (hE : Env B0 E w) (ho : At w ob 3 #[.int .i64 r0]) (hBo : ob < B) (hB0 : B0 ≤ ob) (hBw : B ≤ w.heap.size) (hle : at_ ≤ s.data.length) (hd : s.data.length ≤ 65536) :
    Calls Tryd.prog 13 #[closer true rb (.pointer (some ⟨ob, 0, none⟩)), .agg #[.int .i64 2, .int .i64 1048576]] w (LastPost B rb ob ⟨s.data.drop at_, s.data.length - at_, if s.broken = true then 2 else 0, true⟩ w) := by
  unfold closer handOn
  have hme := wt_as_direct
  have hm2 := wt_m_outer
  have hm3 := wt_c_outer
  have H := hide h; have HE := hide hE; have HO := hide ho
  have hrl := h.blk.size_lt
  have hrb := h.base
  clear h hE ho
  go_enter Tryd.func13, Tryd.ntmps13
  go_wp2_with fail
  all_goals
    have hgb : At (((w.alloc (.cells #[.int .i64 2, .int .i64 1048576] 26)).alloc (.cells #[.slice none 0 0, .int .i64 0, .int .i64 0, .bool false] 37)).alloc (.cells #[.int .i64 1048576, .bool false, .bool false, .slice none 0 0, .slice none 0 0] 75)) (w.heap.size + 1) 37 #[.slice none 0 0, .int .i64 0, .int .i64 0, .bool false] := (At.made' (by simp) _ _).laid _
    have hwb : At (((w.alloc (.cells #[.int .i64 2, .int .i64 1048576] 26)).alloc (.cells #[.slice none 0 0, .int .i64 0, .int .i64 0, .bool false] 37)).alloc (.cells #[.int .i64 1048576, .bool false, .bool false, .slice none 0 0, .slice none 0 0] 75)) (w.heap.size + 1 + 1) 75 #[.int .i64 1048576, .bool false, .bool false, .slice none 0 0, .slice none 0 0] := At.made' (by simp) _ _
    have hN : New w (((w.alloc (.cells #[.int .i64 2, .int .i64 1048576] 26)).alloc (.cells #[.slice none 0 0, .int .i64 0, .int .i64 0, .bool false] 37)).alloc (.cells #[.int .i64 1048576, .bool false, .bool false, .slice none 0 0, .slice none 0 0] 75)) := new_al (new_al (new_alloc _ _) _) _
    generalize (((w.alloc (.cells #[.int .i64 2, .int .i64 1048576] 26)).alloc (.cells #[.slice none 0 0, .int .i64 0, .int .i64 0, .bool false] 37)).alloc (.cells #[.int .i64 1048576, .bool false, .bool false, .slice none 0 0, .slice none 0 0] 75)) = w1 at *
    have HGB := hide hgb; have HWB := hide hwb; have HN := hide hN
    clear hgb hwb hN
    refine (closer_writeTo (B0 := B0) (B := B) (wb := w.heap.size + 1 + 1) (H.out.turns (Turns.of_new HN.out (fun _ => False)) (fun h => h) (fun _ _ h => h) (fun _ _ h => h) (fun _ _ h => h)) ⟨HWB.out, ⟨by simp, .inl ⟨rfl, by simp⟩⟩, ⟨by simp, .inl ⟨rfl, by simp⟩⟩, by omega⟩ (HE.out.turns (Turns.of_new HN.out (fun _ => False)) (fun _ h => h.elim)) (HO.out.new HN.out) hBo hB0 hle hd).mono ?_
    rintro e w2 ⟨gv, wv, writes, rfl, hW2, hT2⟩
    obtain ⟨GA, gc, rfl, hGn, hGs⟩ := Sl.of_own hW2.got
    have hgb2 := HGB.out.turns hT2 (by rintro (e | e | e) <;> omega)
    have c3 : w2.cell? ⟨w.heap.size + 1 + 1, 3, none⟩ = some (.slice GA (s.data.drop at_).length gc) := hW2.blk.get 3
    have hwl := hW2.blk.size_lt
    have hne : ¬ w.heap.size + 1 + 1 = w2.heap.size := by omega
    have hE2 : Env B0 E w2 := (HE.out.turns (Turns.of_new HN.out (fun _ => False)) (fun _ h => h.elim)).turns hT2 (fun k hk => by rcases hk with e | e | e <;> omega)
    have hT : Turns (fun k => k = ob ∨ k = rb) w w2 := Turns.trans (Turns.of_new HN.out _) hT2 (fun i hi e => by
      rcases e with e | e | e
      · exact .inl e
      · exact .inr e
      · omega)
    have HGB2 := hide hgb2; have HE2 := hide hE2; have HT := hide hT; have HGN := hide hGn; have HGS := hide hGs
    have hlen : (s.data.drop at_).length = s.data.length - at_ := List.length_drop
    have HLEN := hide hlen
    have hbl : (s.data.drop at_).length ≤ 65536 := by omega
    clear hW2 hT2 hgb2 hE2 hT hGn hGs hme hm2 hm3 hlen
    rw [← HLEN.out]
    generalize s.data.drop at_ = bs at *
    generalize hcd : (if s.broken = true then 2 else 0) = code at *
    have hc5 : code ≤ 2 := by rw [← hcd]; split <;> omega
    clear hcd
    go_wp2_with (at_builtin; (with_reducible refine wpList_append_empty rfl (.tmp 59) (.tmp 63) 22 rfl 5 (.int .u8 0) 1 1 Tryd.underlying22 info5 rfl (by decide) _ rfl GA bs.length gc (bs.map (Value.int .u8)) rfl HGN.out ?c1 (ints_oneCell _ _) ?c3 ?c4 ?c5 ?_))
    case c1 => exact HGS.out
    case c3 => unfold maxLen; omega
    case c4 => omega
    case c5 => rfl
    intro vA wA hA nA hAl
    obtain ⟨aA, kA, rfl, hAn, hAs⟩ := Sl.of_own hA
    have hblk : ∀ ad, aA = some ad → w2.heap.size ≤ ad.block ∧ ∃ cs', At wA ad.block 5 cs' := fun ad e => by
      subst e
      rcases hA.2 with ⟨e, _⟩ | ⟨g, cap, cur, e, hg, hh, _⟩
      · cases e
      · cases e
        exact ⟨hg, cur, hh⟩
    have hgb3 := HGB2.out.new nA
    have g0 := hgb3.get 0
    have g1 := hgb3.get 1
    have g2 := hgb3.get 2
    have g3 := hgb3.get 3
    have z0 := hgb3.soft 0
    have z1 := hgb3.soft 1
    have z2 := hgb3.soft 2
    have z3 := hgb3.soft 3
    have HAN := hide hAn; have HAS := hide hAs; have HBLK := hide hblk; have HGB3 := hide hgb3; have NA := hide nA
    have k4 := nErrs_ge
    have emin : Nat.min code 5 = code := Nat.min_eq_left (by omega)
    have hnum := number (HE2.out.turns (Turns.of_new nA (fun _ => False)) (fun _ h => h.elim)) code (by omega)
    rw [emin] at hnum
    have HNUM := hide hnum
    clear hA nA hAn hAs hblk hgb3 hnum emin c3
    go_wp2_with fail
    refine HNUM.out.mono ?_
    rintro e w3 ⟨rfl, rfl⟩
    go_wp2
    have hA3 := ((((Sole.start HGB3.out).put 0 (.slice aA bs.length kA)).put 1 (.int .i64 (bs.length : Nat))).put 2 (.int .i64 (code : Nat))).put 3 (.bool true)
    generalize (((wA.setCell ⟨w.heap.size + 1, 0, none⟩ (.slice aA bs.length kA)).setCell ⟨w.heap.size + 1, 1, none⟩ (.int .i64 (bs.length : Nat))).setCell ⟨w.heap.size + 1, 2, none⟩ (.int .i64 (code : Nat))).setCell ⟨w.heap.size + 1, 3, none⟩ (.bool true) = w4 at *
    have r0 : w4.cell? ⟨w.heap.size + 1, 0, none⟩ = some (.slice aA bs.length kA) := hA3.at_.get 0
    have r1 : w4.cell? ⟨w.heap.size + 1, 1, none⟩ = some (.int .i64 (bs.length : Nat)) := hA3.at_.get 1
    have r2 : w4.cell? ⟨w.heap.size + 1, 2, none⟩ = some (.int .i64 (code : Nat)) := hA3.at_.get 2
    have r3 : w4.cell? ⟨w.heap.size + 1, 3, none⟩ = some (.bool true) := hA3.at_.get 3
    refine bodyPost_ret (v := .agg #[.slice aA bs.length kA, .int .i64 (bs.length : Nat), .int .i64 (code : Nat), .bool true]) (by simp [results, Tryd.results13, go_sem, r0, r1, r2, r3]) rfl ?_
    have hws := HT.out.size
    have hsl4 := HAS.out.turns hA3.turns (fun ad e _ e2 => by have := (HBLK.out ad e).1; omega)
    rw [← HLEN.out]
    refine ⟨aA, kA, rfl, ⟨aA, kA, rfl, hsl4, HAN.out, fun ad e => ?_⟩, ?_⟩
    · obtain ⟨h1, cs', h2⟩ := HBLK.out ad e
      exact ⟨by omega, cs', hA3.turns.at_ h2 (by omega)⟩
    · exact Turns.trans (Turns.trans HT.out (Turns.of_new NA.out (fun _ => False)) (fun _ _ h => h.elim)) hA3.turns (fun i hi e => by omega)

theorem step_last {B0 B rb ob at_ pc : Nat} {w : World} {s : Src} {dv pv av : Value} {r0 : Int} {asked : List Int} {E : Nat → Addr}
    (h : Rd B w rb s dv pv av at_ pc asked) (hE : Env B0 E w) (ho : At w ob 3 #[.int .i64 r0]) (hBo : ob < B) (hB0 : B0 ≤ ob) (hBw : B ≤ w.heap.size) (hle : at_ ≤ s.data.length) (hd : s.data.length ≤ 65536) :
    Calls Tryd.prog 13 #[closer s.direct rb (.pointer (some ⟨ob, 0, none⟩)), .agg #[.int .i64 2, .int .i64 1048576]] w (LastPost B rb ob (s.lastG at_) w) := by
  unfold Src.lastG
  cases hdi : s.direct with
  | true => rw [if_pos rfl]; exact step_direct h hE ho hBo hB0 hBw hle hd
  | false => rw [if_neg (by simp)]; exact step_plain hBw

end Go.Proofs.YtdcdbbcphkhmeaaDoor
