/-
  What impl.move does: one call of an OffsetWriter.
-/
import Derived.Test.YtnmdjhkeekhfbaaDoorOffW
namespace Go.Proofs.YtnmdjhkeekhfbaaDoor
open Go.RowKit
set_option linter.unusedVariables false
set_option maxRecDepth 100000

/-- What a move leaves. -/
def MovePost (B ob mb : Nat) (base limit : Int) (cv : Value) (gs : List CallG) (r : MovedG) (cur' : Int) (more : List CallG) (w : World) (e : Ending) (w' : World) : Prop :=
  ∃ cv' css', e = .returned (.agg #[.int .i64 r.n, .int .i64 (r.code : Nat)]) ∧ Ow B w' ob mb base cur' limit cv' (gs ++ more) css' ∧ Turns (fun k => k = ob ∨ k = mb ∨ cv.ownBlock = some k) w w'

theorem Ow.new {B ob mb : Nat} {w w' : World} {base cur limit : Int} {cv : Value} {gs : List CallG} {css : List (List Value)} (h : Ow B w ob mb base cur limit cv gs css) (hn : New w w') : Ow B w' ob mb base cur limit cv gs css :=
  ⟨h.blk.new hn, h.mem.turns (Turns.of_new hn (fun _ => False)) (fun h => h) (fun _ _ h => h) (fun _ _ _ h => h), h.obase⟩
/-- The bytes of a row of the call's own lie apart from the memory. -/
theorem row_apart {B mb X : Nat} {w : World} {limit : Int} {cv : Value} {gs : List CallG} {css : List (List Value)} {A : Option Addr} {n c : Nat} {xs : List Value} (h : Mem B w mb limit cv gs css) (hv : w.ownsRow X 5 1 (.slice A n c) n xs) : ∀ ad, A = some ad → 0 < n → ad.block ≠ mb ∧ cv.ownBlock ≠ some ad.block := by
  intro ad e _
  subst e
  rcases hv.2 with ⟨e0, _⟩ | ⟨g, cap, cur, e0, hg, hh, _⟩
  · cases e0
  · injection e0 with e1 _ _
    injection e1 with e1
    subst e1
    exact ⟨At.apart (t := 5) hh h.blk (by decide), own_ne h.own (t := 5) (cs := cur) hh (by decide)⟩

set_option maxHeartbeats 1000000 in
theorem move_write {B ob mb pc : Nat} {w : World} {base cur limit off wh : Int} {cv : Value} {gs : List CallG} {css : List (List Value)} {bs : List Int} {PA : Option Addr} {E : Nat → Addr} (h : Ow B w ob mb base cur limit cv gs css) (hE : Env B E w)
    (hp : Sl w 1 PA bs.length (bs.map (Value.int .u8))) (hPn : PA = none → pc = 0)
    (hb : bs.length ≤ 1000000) (hg : gs.length ≤ 1000000) (hl1 : -9007199254740992 ≤ limit) (hl2 : limit ≤ 9007199254740992) (ho1 : -9007199254740992 ≤ cur) (ho2 : cur ≤ 9007199254740992) :
    Calls Tryd.prog 21 #[.pointer (some ⟨ob, 0, none⟩), .agg #[.int .i64 0, .slice PA bs.length pc, .int .i64 off, .int .i64 wh]] w (MovePost B ob mb base limit cv gs (underG limit cur bs.length) (cur + (underG limit cur bs.length).n) [⟨cur, bs⟩] w) := by
  have H := hide h; have HE := hide hE; have HP := hide hp; have HPN := hide hPn
  clear h hE hp hPn
  go_enter Tryd.func21, Tryd.ntmps21
  go_wp2_with (at_builtin; (with_reducible refine wpList_append_empty rfl (.tmp 17) (.tmp 19) 26 rfl 5 (.int .u8 0) 1 1 Tryd.underlying26 info5 rfl (by decide) _ rfl PA bs.length pc (bs.map (Value.int .u8)) rfl HPN.out ?c1 (ints_oneCell _ _) ?c3 ?c4 ?c5 ?_))
  case c1 => exact (HP.out.laid _).laid _
  case c3 => unfold maxLen; omega
  case c4 => omega
  case c5 => simp
  intro bv w1 hbv hN1 hlt1
  have hN : New w w1 := new_trans (new_al (new_alloc _ _) _) hN1
  have hmv : At w1 (w.heap.size + 1) 38 #[.int .i64 0, .int .i64 0] := At.new (At.made' (by simp) _ _) hN1
  obtain ⟨BA, bc, rfl, hbn, hbs⟩ := Sl.of_own hbv
  have hO1 := H.out.new hN
  have hBw : B ≤ w.heap.size := by have := H.out.obase; have := H.out.blk.size_lt; omega
  have hE1 := HE.out.below (hN.mono hBw)
  have hap := row_apart hO1.mem hbv
  have HO1 := hide hO1; have HE1 := hide hE1; have HAP := hide hap; have HBN := hide hbn; have HBS := hide hbs; have HN := hide hN; have HMV := hide hmv
  clear hN hmv hbv hN1 hlt1 hO1 hE1 hap hbn hbs
  have hob := H.out.blk.size_lt
  have hmb := H.out.mem.blk.size_lt
  go_wp2_with fail
  refine (ow_write HO1.out HE1.out HBS.out HBN.out HAP.out hb hg hl1 hl2 ho1 ho2).mono ?_
  rintro e w2 ⟨cv', css', rfl, hO2, hN2, hT2⟩
  have hun := (underG_n limit cur bs.length).2.2
  have hE2 := HE1.out.turns hT2 (fun k hk => by
    rcases hk with rfl | rfl | hk
    · exact H.out.obase
    · exact H.out.mem.base
    · exact (H.out.mem.own.lt k hk).1)
  have hmv2 : At w2 (w.heap.size + 1) 38 #[.int .i64 0, .int .i64 0] := HMV.out.turns hT2 (by
    rintro (e | e | e)
    · omega
    · omega
    · have := (H.out.mem.own.lt _ e).2; omega)
  have g0 := hmv2.get 0
  have g1 := hmv2.get 1
  have z0 := hmv2.soft 0
  have z1 := hmv2.soft 1
  have HO2 := hide hO2; have HT2 := hide hT2; have HE2 := hide hE2; have HMV2 := hide hmv2
  clear hO2 hN2 hT2 hE2 hmv2
  generalize underG limit cur bs.length = r at *
  have HNUM : Hid (∀ W : World, Env B E W → Calls Tryd.prog 24 #[errVal E r.code] W fun e w' => e = .returned (.int .i64 (r.code : Nat)) ∧ W = w') := by
    intro W hW
    have k4 := nErrs_ge
    have := number hW r.code (by omega)
    have e5 : Nat.min r.code 5 = r.code := Nat.min_eq_left (by omega)
    rwa [e5] at this
  go_wp2_with fail
  refine (HNUM.out _ HE2.out).mono ?_
  rintro e w3 ⟨rfl, rfl⟩
  go_wp2
  have hA3 := ((Sole.start HMV2.out).put 0 (.int .i64 r.n)).put 1 (.int .i64 (r.code : Nat))
  generalize (w2.setCell ⟨w.heap.size + 1, 0, none⟩ (.int .i64 r.n)).setCell ⟨w.heap.size + 1, 1, none⟩ (.int .i64 (r.code : Nat)) = w4 at *
  have r0 : w4.cell? ⟨w.heap.size + 1, 0, none⟩ = some (.int .i64 r.n) := hA3.at_.get 0
  have r1 : w4.cell? ⟨w.heap.size + 1, 1, none⟩ = some (.int .i64 (r.code : Nat)) := hA3.at_.get 1
  refine bodyPost_ret (v := .agg #[.int .i64 r.n, .int .i64 (r.code : Nat)]) (by simp [results, Tryd.results21, go_sem, r0, r1]) rfl ?_
  refine ⟨cv', css', rfl, ⟨HO2.out.blk.turns hA3.turns (by omega), HO2.out.mem.turns hA3.turns (by omega) (fun g hg e => own_ne HO2.out.mem.own HMV2.out (by decide) (e ▸ hg)) (fun k cs hc e => by subst e; exact hc.apart HMV2.out (by decide) rfl), H.out.obase⟩, ?_⟩
  exact Turns.trans (Turns.trans (Turns.of_new HN.out _) HT2.out (fun _ _ h => h)) hA3.turns (fun i hi e => by omega)

set_option maxHeartbeats 1000000 in
/-- A move that seeks: whatever the seek's contract says. -/
theorem move_seek {B ob mb : Nat} {w : World} {base cur limit off wh kind cur' : Int} {cv pv : Value} {gs : List CallG} {css : List (List Value)} {r : MovedG} {E : Nat → Addr} (h : Ow B w ob mb base cur limit cv gs css) (hE : Env B E w) (hk0 : kind ≠ 0) (hk1 : kind ≠ 1) (hpv : ∃ a n c, pv = .slice a n c) (hrc : r.code ≤ nErrs)
    (hs : ∀ W, Ow B W ob mb base cur limit cv gs css → Env B E W → Calls Tryd.prog 26 #[.pointer (some ⟨ob, 0, none⟩), .int .i64 off, .int .i64 wh] W (OwPost B ob mb base limit cv gs r cur' [] E W)) :
    Calls Tryd.prog 21 #[.pointer (some ⟨ob, 0, none⟩), .agg #[.int .i64 kind, pv, .int .i64 off, .int .i64 wh]] w (MovePost B ob mb base limit cv gs ⟨r.n, Nat.min r.code 5⟩ cur' [] w) := by
  obtain ⟨PA, pn, pc, rfl⟩ := hpv
  have hBw : B ≤ w.heap.size := by have := h.obase; have := h.blk.size_lt; omega
  have g0 : (kind == 0) = false := by simp; exact hk0
  have g1 : (kind == 1) = false := by simp; exact hk1
  have hob := h.blk.size_lt
  have hmb := h.mem.blk.size_lt
  have H := hide h; have HE := hide hE; have HS := hide hs
  clear h hE hs hk0 hk1
  go_enter Tryd.func21, Tryd.ntmps21
  go_wp2_with fail
  have hN : New w ((w.alloc (.cells #[.int .i64 kind, .slice PA pn pc, .int .i64 off, .int .i64 wh] 28)).alloc (.cells #[.int .i64 0, .int .i64 0] 38)) := new_al (new_alloc _ _) _
  have hmv : At ((w.alloc (.cells #[.int .i64 kind, .slice PA pn pc, .int .i64 off, .int .i64 wh] 28)).alloc (.cells #[.int .i64 0, .int .i64 0] 38)) (w.heap.size + 1) 38 #[.int .i64 0, .int .i64 0] := At.made' (by simp) _ _
  generalize (w.alloc (.cells #[.int .i64 kind, .slice PA pn pc, .int .i64 off, .int .i64 wh] 28)).alloc (.cells #[.int .i64 0, .int .i64 0] 38) = w1 at *
  have HN := hide hN; have HMV := hide hmv
  have HO1 := hide (H.out.new hN); have HE1 := hide (HE.out.below (hN.mono hBw))
  clear hN hmv
  refine (HS.out _ HO1.out HE1.out).mono ?_
  rintro e w2 ⟨cv', css', rfl, hO2, hN2, hT2⟩
  have hE2 := HE1.out.turns hT2 (fun k hk => by
    rcases hk with rfl | rfl | hk
    · exact H.out.obase
    · exact H.out.mem.base
    · exact (H.out.mem.own.lt k hk).1)
  have hmv2 : At w2 (w.heap.size + 1) 38 #[.int .i64 0, .int .i64 0] := HMV.out.turns hT2 (by
    rintro (e | e | e)
    · omega
    · omega
    · have := (H.out.mem.own.lt _ e).2; omega)
  have g0 := hmv2.get 0
  have g1 := hmv2.get 1
  have z0 := hmv2.soft 0
  have z1 := hmv2.soft 1
  have HO2 := hide hO2; have HT2 := hide hT2; have HE2 := hide hE2; have HMV2 := hide hmv2
  clear hO2 hN2 hT2 hE2 hmv2
  have HNUM := hide (number HE2.out r.code hrc)
  generalize Nat.min r.code 5 = code at *
  go_wp2_with fail
  refine HNUM.out.mono ?_
  rintro e w3 ⟨rfl, rfl⟩
  go_wp2
  have hA3 := ((Sole.start HMV2.out).put 0 (.int .i64 r.n)).put 1 (.int .i64 (code : Nat))
  generalize (w2.setCell ⟨w.heap.size + 1, 0, none⟩ (.int .i64 r.n)).setCell ⟨w.heap.size + 1, 1, none⟩ (.int .i64 (code : Nat)) = w4 at *
  have r0 : w4.cell? ⟨w.heap.size + 1, 0, none⟩ = some (.int .i64 r.n) := hA3.at_.get 0
  have r1 : w4.cell? ⟨w.heap.size + 1, 1, none⟩ = some (.int .i64 (code : Nat)) := hA3.at_.get 1
  refine bodyPost_ret (v := .agg #[.int .i64 r.n, .int .i64 (code : Nat)]) (by simp [results, Tryd.results21, go_sem, r0, r1]) rfl ?_
  refine ⟨cv', css', rfl, ⟨HO2.out.blk.turns hA3.turns (by omega), HO2.out.mem.turns hA3.turns (by omega) (fun g hg e => own_ne HO2.out.mem.own HMV2.out (by decide) (e ▸ hg)) (fun k cs hc e => by subst e; exact hc.apart HMV2.out (by decide) rfl), H.out.obase⟩, ?_⟩
  exact Turns.trans (Turns.trans (Turns.of_new HN.out _) HT2.out (fun _ _ h => h)) hA3.turns (fun i hi e => by omega)

set_option maxHeartbeats 1000000 in
/-- A move that writes at an offset: whatever the call's contract says. -/
theorem move_at {B ob mb pc : Nat} {w : World} {base cur limit off wh cur' : Int} {cv : Value} {gs more : List CallG} {css : List (List Value)} {bs : List Int} {PA : Option Addr} {r : MovedG} {E : Nat → Addr} (h : Ow B w ob mb base cur limit cv gs css) (hE : Env B E w) (hp : Sl w 1 PA bs.length (bs.map (Value.int .u8))) (hPn : PA = none → pc = 0) (hb : bs.length ≤ 1000000) (hrc : r.code ≤ nErrs)
    (hs : ∀ W X A k, Ow B W ob mb base cur limit cv gs css → Env B E W → W.ownsRow X 5 1 (.slice A bs.length k) bs.length (bs.map (Value.int .u8)) → (A = none → k = 0) → Sl W 1 A bs.length (bs.map (Value.int .u8)) →
      Calls Tryd.prog 25 #[.pointer (some ⟨ob, 0, none⟩), .slice A bs.length k, .int .i64 off] W (OwPost B ob mb base limit cv gs r cur' more E W)) :
    Calls Tryd.prog 21 #[.pointer (some ⟨ob, 0, none⟩), .agg #[.int .i64 1, .slice PA bs.length pc, .int .i64 off, .int .i64 wh]] w (MovePost B ob mb base limit cv gs ⟨r.n, Nat.min r.code 5⟩ cur' more w) := by
  have hBw : B ≤ w.heap.size := by have := h.obase; have := h.blk.size_lt; omega
  have hob := h.blk.size_lt
  have hmb := h.mem.blk.size_lt
  have H := hide h; have HE := hide hE; have HS := hide hs; have HP := hide hp; have HPN := hide hPn
  clear h hE hs hp hPn
  go_enter Tryd.func21, Tryd.ntmps21
  go_wp2_with fail
  have hN : New w ((w.alloc (.cells #[.int .i64 1, .slice PA bs.length pc, .int .i64 off, .int .i64 wh] 28)).alloc (.cells #[.int .i64 0, .int .i64 0] 38)) := new_al (new_alloc _ _) _
  have hpl : At ((w.alloc (.cells #[.int .i64 1, .slice PA bs.length pc, .int .i64 off, .int .i64 wh] 28)).alloc (.cells #[.int .i64 0, .int .i64 0] 38)) w.heap.size 28 #[.int .i64 1, .slice PA bs.length pc, .int .i64 off, .int .i64 wh] := (At.made _ _ _).laid _
  have hmv : At ((w.alloc (.cells #[.int .i64 1, .slice PA bs.length pc, .int .i64 off, .int .i64 wh] 28)).alloc (.cells #[.int .i64 0, .int .i64 0] 38)) (w.heap.size + 1) 38 #[.int .i64 0, .int .i64 0] := At.made' (by simp) _ _
  generalize (w.alloc (.cells #[.int .i64 1, .slice PA bs.length pc, .int .i64 off, .int .i64 wh] 28)).alloc (.cells #[.int .i64 0, .int .i64 0] 38) = w1 at *
  have b1 := hpl.get 1
  have b2 := hpl.get 2
  have HPL := hide hpl; have HN := hide hN; have HMV := hide hmv
  have HO1 := hide (H.out.new hN); have HE1 := hide (HE.out.below (hN.mono hBw)); have HP1 := hide (HP.out.new hN)
  clear hN hmv hpl
  have tokA : True := trivial
  have tokC : True := trivial
  go_region_held3 (fun w' => w'.cell? ⟨w.heap.size, 1, none⟩ = some (.slice PA bs.length pc) ∧ w'.cell? ⟨w.heap.size, 2, none⟩ = some (.int .i64 off)) (go_keep)
    (first
      | (have _t := tokA; refine step_append_lit (by rfl) (.tmp 32) (.tmp 34) 26 (by rfl) w1.heap.size 5 (.int .u8 0) 1 1 Tryd.underlying26 info5 rfl (by decide) _ (by rfl) (by repeat (with_reducible first | exact At.made' (by simp) _ _ | apply At.laid | apply At.drew | apply At.drawn)) (Nat.le_refl _) PA bs.length pc _ (by rfl) HPN.out (by exact HP1.out.new (by repeat (with_reducible first | exact new_refl _ | apply new_al | apply new_dr | apply new_drN))) (ints_oneCell _ _) (by unfold maxLen; omega) (by omega) ?_; intro vA wA hA mA; have nA : Hid (New w1 wA) := hide (new_trans (by repeat (with_reducible first | exact new_refl _ | apply new_al | apply new_dr | apply new_drN)) mA); have hx := HPL.out.new nA.out; have x1 := hx.get 1; have x2 := hx.get 2; obtain ⟨aA, kA, rfl, hAn, hAs⟩ := Sl.of_own hA; have HA := hide hA; have HAN := hide hAn; have HAS := hide hAs; have HXA := hide hx; clear hA mA hx hAn hAs tokA)
      | (have _t := tokC; go_at_call 25; refine (HS.out _ _ _ _ (by first | exact HO1.out.new nA.out | exact (HO1.out.new nA.out).drawn 1) (by first | exact HE1.out.below (nA.out.mono (by have := HN.out.size; omega)) | exact (HE1.out.below (nA.out.mono (by have := HN.out.size; omega))).drawn 1) (by exact HA.out) HAN.out (by first | exact HAS.out | exact HAS.out.drawn 1)).mono ?_; rintro e w2 ⟨cv', css', rfl, hO2, hN2, hT2⟩; have hx2 := HXA.out.turns (by first | exact hT2 | exact hT2.undrew | exact hT2.undrawn) (by rintro (e | e | e); (· omega); (· omega); (· have := (H.out.mem.own.lt _ e).2; omega)); have y1 := hx2.get 1; have y2 := hx2.get 2; have HO2 := hide hO2; have HT2 := hide hT2; clear hO2 hN2 hT2 hx2 tokC))
  have hT2 : Turns (fun k => k = ob ∨ k = mb ∨ cv.ownBlock = some k) wA w2 := (by first | exact HT2.out | exact HT2.out.undrew | exact HT2.out.undrawn)
  have hT12 : Turns (fun k => k = ob ∨ k = mb ∨ cv.ownBlock = some k) w1 w2 := Turns.trans (Turns.of_new nA.out _) hT2 (fun _ _ h => h)
  have hE2 := HE1.out.turns hT12 (fun k hk => by
    rcases hk with rfl | rfl | hk
    · exact H.out.obase
    · exact H.out.mem.base
    · exact (H.out.mem.own.lt k hk).1)
  have hmv2 : At w2 (w.heap.size + 1) 38 #[.int .i64 0, .int .i64 0] := HMV.out.turns hT12 (by
    rintro (e | e | e)
    · omega
    · omega
    · have := (H.out.mem.own.lt _ e).2; omega)
  have g0 := hmv2.get 0
  have g1 := hmv2.get 1
  have z0 := hmv2.soft 0
  have z1 := hmv2.soft 1
  have HT12 := hide hT12; have HE2 := hide hE2; have HMV2 := hide hmv2
  clear hT12 hE2 hmv2 hT2 HT2
  have HNUM := hide (number HE2.out r.code hrc)
  generalize Nat.min r.code 5 = code at *
  go_wp2_with fail
  refine HNUM.out.mono ?_
  rintro e w3 ⟨rfl, rfl⟩
  go_wp2
  have hA3 := ((Sole.start HMV2.out).put 0 (.int .i64 r.n)).put 1 (.int .i64 (code : Nat))
  generalize (w2.setCell ⟨w.heap.size + 1, 0, none⟩ (.int .i64 r.n)).setCell ⟨w.heap.size + 1, 1, none⟩ (.int .i64 (code : Nat)) = w4 at *
  have r0 : w4.cell? ⟨w.heap.size + 1, 0, none⟩ = some (.int .i64 r.n) := hA3.at_.get 0
  have r1 : w4.cell? ⟨w.heap.size + 1, 1, none⟩ = some (.int .i64 (code : Nat)) := hA3.at_.get 1
  refine bodyPost_ret (v := .agg #[.int .i64 r.n, .int .i64 (code : Nat)]) (by simp [results, Tryd.results21, go_sem, r0, r1]) rfl ?_
  refine ⟨cv', css', rfl, ⟨HO2.out.blk.turns hA3.turns (by omega), HO2.out.mem.turns hA3.turns (by omega) (fun g hg e => own_ne HO2.out.mem.own HMV2.out (by decide) (e ▸ hg)) (fun k cs hc e => by subst e; exact hc.apart HMV2.out (by decide) rfl), H.out.obase⟩, ?_⟩
  exact Turns.trans (Turns.trans (Turns.of_new HN.out _) HT12.out (fun _ _ h => h)) hA3.turns (fun i hi e => by omega)

end Go.Proofs.YtnmdjhkeekhfbaaDoor
