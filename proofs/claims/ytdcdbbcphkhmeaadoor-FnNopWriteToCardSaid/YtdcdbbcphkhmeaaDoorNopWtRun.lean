/-
  What impl.NopCloser does for reads and a last step that writes.
-/
import Derived.Test.YtdcdbbcphkhmeaaDoorNopWt
namespace Go.Proofs.YtdcdbbcphkhmeaaDoor
open Go.RowKit
set_option linter.unusedVariables false
set_option maxRecDepth 100000

/-- Behind the last step. -/
def NopFin (s : Src) (zs : List Int) (w : World) (v : Value) (wr : World) : Prop :=
  ∃ B css, wr.ownsRow B 37 4 v (zs.length + 1) css.flatten ∧ GotsAt B wr ((s.after (readSteps zs)).1 ++ [s.lastG (s.after (readSteps zs)).2.1]) css ∧ (∀ c ∈ css, c.length = 4) ∧ New w wr

theorem nop_fin {B rb ob n : Nat} {s : Src} {zs : List Int} {dv pv av v v' : Value} {w w0 wr w1 w2 : World} {at_ pc : Nat} {asked : List Int} {css : List (List Value)} {cells : List Value}
    (hR : Rd B wr rb s dv pv av at_ pc asked) (ho : ∃ ocs, At wr ob 3 ocs) (hob : w.heap.size ≤ ob) (hwB : w.heap.size ≤ B)
    (hown : wr.ownsRow B 37 4 v zs.length css.flatten) (hgs : GotsAt B wr (s.after (readSteps zs)).1 css) (hcl : ∀ c ∈ css, c.length = 4) (hn : New w wr)
    (ht1 : Turns (fun k => k = ob ∨ k = rb) wr w1) (hg1 : GotAt B w1 (s.lastG (s.after (readSteps zs)).2.1) cells)
    (hown2 : w2.ownsRow B 37 4 v' (zs.length + 1) (css.flatten ++ cells)) (ht2 : Turns (fun k => v.ownBlock = some k) w1 w2) : NopFin s zs w v' w2 := by
  obtain ⟨ocs, ho⟩ := ho
  have hown1 : w1.ownsRow B 37 4 v zs.length css.flatten := own_turns hown ht1 (fun g hg h => by
    rcases h with h | h
    · subst h; exact own_ne hown ho (by decide) hg
    · subst h; exact own_ne hown hR.blk (by decide) hg)
  refine ⟨B, css ++ [cells], ?_, ?_, ?_, ?_⟩
  · rw [List.flatten_append]; simpa using hown2
  · refine GotsAt.turns (GotsAt.snoc (hgs.turns ht1 (fun k cs hc h => ?_)) hg1) ht2 (fun k cs hc h => own_ne hown1 hc (by decide) h)
    rcases h with h | h
    · subst h; exact hc.apart ho (by decide) rfl
    · subst h; exact hc.apart hR.blk (by decide) rfl
  · intro c hc
    rcases List.mem_append.1 hc with hc | hc
    · exact hcl c hc
    · rw [List.mem_singleton.1 hc]
      obtain ⟨A, c', e3, _⟩ := hg1
      rw [e3]; rfl
  · refine new_turns (new_turns hn ht1 (fun k h => ?_)) ht2 (fun k h => Nat.le_trans hwB (hown1.lt k h).1)
    rcases h with h | h
    · omega
    · have := hR.base; omega

set_option maxHeartbeats 2000000 in
theorem nopLast_any {w : World} {s : Src} {zs : List Int} {DA PA : Option Addr} {dc pc B0 : Nat} {sv : Value} {E : Nat → Addr} (hd : Sl w 1 DA s.data.length (s.data.map (Value.int .u8))) (hDn : DA = none → dc = 0)
    (hp : Sl w 1 PA s.pieces.length (s.pieces.map (Value.int .i64))) (hPn : PA = none → pc = 0) (hdl : s.data.length ≤ 65536) (hpl : s.pieces.length ≤ 1000000000)
    (hs : w.ownsRow B0 26 2 sv (zs.length + 1) (stepCells (readSteps zs ++ [(2, 1048576)]))) (hzl : zs.length ≤ 4096) (hk : ∀ z ∈ zs, z ≤ 65536) (hE : Env w.heap.size E w) :
    Calls Tryd.prog 7 #[.agg #[.slice DA s.data.length dc, .slice PA s.pieces.length pc, .bool s.together, .bool s.broken, .bool s.direct], sv] w (fun e w' => ∃ v, e = .returned v ∧ NopFin s zs w v w') := by
  obtain ⟨SA, sc, rfl, -, -⟩ := Sl.of_own hs
  have HD := hide hd; have HP := hide hp; have HDN := hide hDn; have HPN := hide hPn; have HS := hide hs; have HK := hide hk; have HE := hide hE
  clear hd hp hDn hPn hs hk hE
  have hrl : (readSteps zs).length = zs.length := by simp [readSteps]
  have HRL := hide hrl
  clear hrl
  go_enter Tryd.func7, Tryd.ntmps7
  go_wp2_with fail
  have hob : At ((w.alloc (.cells #[.slice DA s.data.length dc, .slice PA s.pieces.length pc, .bool s.together, .bool s.broken, .bool s.direct] 30)).alloc (.cells #[.int .i64 0] 3)) (w.heap.size + 1) 3 #[.int .i64 0] := At.made' (by simp) _ _
  have hNw : New w ((w.alloc (.cells #[.slice DA s.data.length dc, .slice PA s.pieces.length pc, .bool s.together, .bool s.broken, .bool s.direct] 30)).alloc (.cells #[.int .i64 0] 3)) := new_al (new_alloc _ _) _
  have hsz : ((w.alloc (.cells #[.slice DA s.data.length dc, .slice PA s.pieces.length pc, .bool s.together, .bool s.broken, .bool s.direct] 30)).alloc (.cells #[.int .i64 0] 3)).heap.size = w.heap.size + 2 := by simp
  generalize (w.alloc (.cells #[.slice DA s.data.length dc, .slice PA s.pieces.length pc, .bool s.together, .bool s.broken, .bool s.direct] 30)).alloc (.cells #[.int .i64 0] 3) = w0 at *
  have HOB := hide hob; have HNW := hide hNw; have HSZ := hide hsz
  clear hob hNw hsz
  refine (open_any (HD.out.new HNW.out) HDN.out (HP.out.new HNW.out) HPN.out (by omega) hpl).mono ?_
  rintro e w1 ⟨rb, dv, pv, rfl, hRd, hN1⟩
  have HR0 := hide hRd; have HN := hide hN1
  clear hRd hN1
  go_wp2_with fail
  refine (nop_any _ _ _ _).mono ?_
  rintro e w2 ⟨rfl, rfl⟩
  go_wp2_with fail
  have hI0 : NopInv w0.heap.size s (readSteps zs) rb dv pv E w0 0 (.slice (some ⟨w1.heap.size, 0, none⟩) 0 0) (w1.alloc (.cells #[] 37)) := by
    have hlw := HN.out.size
    have hE0 : Env w0.heap.size E w0 := (HE.out.below HNW.out).up HNW.out.size
    refine ⟨.slice none 0 0, [], [], ?_, Nat.le_refl _, Nat.zero_le _, lit_own _ _ (At.made _ _ _) hlw, ⟨rfl, by simp [Src.after]⟩, by simp, (hE0.below HN.out).alloc _, HN.out.alloc hlw _⟩
    exact HR0.out.turns (Turns.of_new (new_alloc w1 _) (fun _ => False)) (fun h => h) (fun _ _ h => h) (fun _ _ h => h) (fun _ _ h => h)
  have HI0 := hide hI0
  clear hI0
  go_loopw [9, 10] (fun v i wr => ∃ k : Nat, k ≤ zs.length + 1 ∧ i = .int .i64 k ∧ Hid ((k ≤ zs.length ∧ NopInv w0.heap.size s (readSteps zs) rb dv pv E w0 k v wr) ∨ (k = zs.length + 1 ∧ NopFin s zs w v wr))) (fun _ i _ => zs.length + 1 - (intOf i).toNat)
  case atStart => exact ⟨0, Nat.zero_le _, rfl, .inl ⟨Nat.zero_le _, HI0.out⟩⟩
  case round =>
    clear HI0 HR0
    obtain ⟨k, hk, rfl, HINV⟩ := hrel
    by_cases hlt : k < zs.length + 1
    · have hinv := HINV.out.resolve_right (fun h => by omega)
      obtain ⟨hkz, hinv⟩ := hinv
      rcases HS.out.2 with ⟨_, h0⟩ | ⟨g, scap, scur, hsv, _, hsg, hsc1, hsm, _⟩
      · omega
      cases hsv
      have hgs0 : g < w.heap.size := (Array.getElem?_eq_some_iff.1 hsg).1
      have hcell : ∀ j u, (stepCells (readSteps zs ++ [(2, 1048576)]))[j]? = some u → w.cell? ⟨g, j, none⟩ = some u := fun j u hu => add0 g j ▸ HS.out.cells (g := g) rfl j u hu
      clear hsg
      unfold maxLen at hsm
      have hkl : k < (readSteps zs ++ [((2 : Int), (1048576 : Int))]).length := by rw [List.length_append, HRL.out]; simpa using hlt
      have hsc := stepCells_get (readSteps zs ++ [((2 : Int), (1048576 : Int))]) k hkl
      obtain ⟨av, asked, css, hR, ha, hle, hown, hgs, hcl, hE, hb⟩ := hinv
      have hNwr : New w wr := new_trans HNW.out hb
      have q0 := (hNwr.cell (p := ⟨g, k * 2, none⟩) hgs0).trans (hcell _ _ hsc.1)
      have q1 := (hNwr.cell (p := ⟨g, k * 2 + 1, none⟩) hgs0).trans (hcell _ _ hsc.2)
      have hBw : w0.heap.size ≤ wr.heap.size := hb.size
      have hi : (k : Int) < ((zs.length + 1 : Nat) : Int) := by omega
      have hi0 : (0 : Int) ≤ (k : Int) := by omega
      have HNWR := hide hNwr
      clear hcell hsc HINV hNwr
      by_cases hlt2 : k < zs.length
      · have hst : (readSteps zs)[k]? = some (0, zs[k]) := by simp [readSteps, hlt2]
        have hel : (readSteps zs ++ [((2 : Int), (1048576 : Int))])[k] = (0, zs[k]) := by
          rw [List.getElem_append_left (by rw [HRL.out]; exact hlt2)]
          exact (List.getElem?_eq_some_iff.1 hst).2
        rw [hel] at q0 q1
        have hz := HK.out zs[k] (List.getElem_mem hlt2)
        have HST := hide hst; have HR := hide hR; have HOWN := hide hown; have HGS := hide hgs; have HCL := hide hcl; have HEN := hide hE; have HB := hide hb
        obtain ⟨VA, vc, rfl, -, -⟩ := Sl.of_own hown
        clear hst hel hR hown hgs hcl hE hb hkl
        generalize zs[k] = z at *
        simp only at q0 q1
        go_wp2_with fail
        refine (step_any (st := (0, z)) HR.out HEN.out (by omega) hle (by omega) hpl (.inl rfl) hz hBw).mono ?_
        rintro e w3 ⟨A, c, av', asked', rfl, hg3, hR3, ha3, ht3⟩
        have hown3 := own_turns HOWN.out ht3 (fun g hg h => by
          rcases h with h | h
          · subst h; exact own_ne HOWN.out HR.out.blk (by decide) hg
          · rcases HOWN.out.2 with ⟨e1, _⟩ | ⟨g', cap, cur, e1, _, hh, _⟩
            · rw [e1] at hg; simp [Value.ownBlock] at hg
            · rw [e1] at hg
              have e2 : g' = g := by simpa [Value.ownBlock] using hg
              subst e2
              exact own_ne HR.out.notes (t := 37) (cs := cur) hh (by decide) h)
        have HOWN3 := hide hown3; have HG3 := hide hg3; have HR3 := hide hR3; have HT3 := hide ht3
        have hB3 : w0.heap.size ≤ w3.heap.size := Nat.le_trans hBw ht3.size
        clear hown3 hg3 hR3 ht3 q0 q1
        go_wp2_with (at_builtin; (with_reducible refine wpList_append_one rfl (.tmp 25) (.tmp 32) 27 rfl w0.heap.size 37 _ 4 48 Tryd.underlying27 infoGot rfl (by decide) _ _ _ rfl HOWN3.out _ _ rfl rfl ?c1 ?c2 ?c3 hB3 rfl ?_))
        case c1 => intro u hu; simp at hu; rcases hu with rfl | rfl | rfl | rfl <;> rfl
        case c2 => unfold maxLen; omega
        case c3 => omega
        intro v4 w4 hown4 ht4 hn4
        have hI := nop_more HST.out HR.out hle HOWN.out HGS.out HCL.out HEN.out HB.out HT3.out HR3.out (by omega) HG3.out hown4 ht4
        have HI := hide hI
        clear hI hown4 ht4 hn4
        go_wp2
        go_roundw
        case rel => exact ⟨k + 1, by omega, by go_num, .inl ⟨by omega, HI.out⟩⟩
        case measure => simp [intOf]; omega
      · obtain rfl : k = zs.length := by omega
        have hel : (readSteps zs ++ [((2 : Int), (1048576 : Int))])[zs.length] = (2, 1048576) := by
          rw [List.getElem_append_right (by rw [HRL.out]; exact Nat.le_refl _)]
          simp [HRL.out]
        rw [hel] at q0 q1
        simp only at q0 q1
        rw [List.take_of_length_le (by rw [HRL.out]; exact Nat.le_refl _)] at hR hle hgs
        have hob2 : At wr (w.heap.size + 1) 3 #[.int .i64 0] := HOB.out.below hb (by have := HSZ.out; omega)
        have hEw : Env w.heap.size E wr := HE.out.below HNWR.out
        have HR := hide hR; have HOWN := hide hown; have HGS := hide hgs; have HCL := hide hcl; have HEW := hide hEw; have HB := hide hb; have HOB2 := hide hob2
        obtain ⟨VA, vc, rfl, -, -⟩ := Sl.of_own hown
        clear hel hR hown hgs hcl hE hb hkl hob2 hEw
        have hsz1 : w.heap.size + 1 < w0.heap.size := by have := HSZ.out; omega
        go_wp2_with fail
        refine (step_last HR.out HEW.out HOB2.out (by omega) (by omega) hBw hle hdl).mono ?_
        rintro e w3 ⟨A, c, rfl, hg3, ht3⟩
        have hown3 := own_turns HOWN.out ht3 (fun g hg h => by
          rcases h with h | h
          · subst h; exact own_ne HOWN.out HOB2.out (by decide) hg
          · subst h; exact own_ne HOWN.out HR.out.blk (by decide) hg)
        have HOWN3 := hide hown3; have HG3 := hide hg3; have HT3 := hide ht3
        have hB3 : w0.heap.size ≤ w3.heap.size := Nat.le_trans hBw ht3.size
        clear hown3 hg3 ht3 q0 q1
        generalize hlg : s.lastG (s.after (readSteps zs)).2.1 = lg at *
        go_wp2_with (at_builtin; (with_reducible refine wpList_append_one rfl (.tmp 25) (.tmp 32) 27 rfl w0.heap.size 37 _ 4 48 Tryd.underlying27 infoGot rfl (by decide) _ _ _ rfl HOWN3.out _ _ rfl rfl ?c1 ?c2 ?c3 hB3 rfl ?_))
        case c1 => intro u hu; simp at hu; rcases hu with rfl | rfl | rfl | rfl <;> rfl
        case c2 => unfold maxLen; omega
        case c3 => omega
        intro v4 w4 hown4 ht4 hn4
        subst hlg
        have hF := nop_fin (n := 0) (w0 := w0) HR.out ⟨_, HOB2.out⟩ (by omega) (by omega) HOWN.out HGS.out HCL.out HNWR.out HT3.out HG3.out hown4 ht4
        have HF := hide hF
        clear hF hown4 ht4 hn4
        go_wp2
        go_roundw
        case rel => exact ⟨zs.length + 1, by omega, by go_num, .inr ⟨rfl, HF.out⟩⟩
        case measure => simp [intOf]
    · obtain rfl : k = zs.length + 1 := by omega
      have hF := (HINV.out.resolve_left (fun h => by omega)).2
      have HF := hide hF
      clear hF HINV
      go_wp2
      go_ret
      exact ⟨_, rfl, HF.out⟩

end Go.Proofs.YtdcdbbcphkhmeaaDoor
