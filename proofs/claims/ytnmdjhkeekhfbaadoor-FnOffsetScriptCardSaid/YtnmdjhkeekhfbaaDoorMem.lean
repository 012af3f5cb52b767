/-
  What (*memory).WriteAt of the thin package does: it notes the call with a copy of the bytes, and returns what there is room for.
-/
import Derived.Test.YtnmdjhkeekhfbaaDoorErrs
import Derived.Test.YtnmdjhkeekhfbaaDoorOffG
import Derived.RegionTactic
import Derived.Deep.RegionLaw
import Derived.Deep.RegionHeld3
namespace Go.Proofs.YtnmdjhkeekhfbaaDoor
open Go.RowKit
set_option linter.unusedVariables false
set_option maxRecDepth 100000
attribute [local go_sem 10000] run_imin run_imax

theorem info5 : (Tryd.prog.info? 5).map (fun i => (i.zero, i.size, i.bytes)) = some (some (.int .u8 0), 1, 1) := by kernel_rfl
theorem infoCall : (Tryd.prog.info? 34).map (fun i => (i.zero, i.size, i.bytes)) = some (some (.agg #[.int .i64 0, .slice none 0 0]), 2, 32) := by kernel_rfl

theorem add0 (g j : Nat) : (⟨g, 0, none⟩ : Addr).add j = ⟨g, j, none⟩ := by unfold Addr.add; split <;> simp_all

/-- The two cells of a noted call, and the bytes that its slice reads as. -/
def CallAt (B : Nat) (w : World) (c : CallG) (cells : List Value) : Prop :=
  ∃ A k, cells = [.int .i64 c.off, .slice A c.data.length k] ∧ Sl w 1 A c.data.length (c.data.map (Value.int .u8)) ∧ (A = none → k = 0) ∧ (∀ ad, A = some ad → B ≤ ad.block ∧ ∃ cs, At w ad.block 5 cs)

theorem CallAt.turns {B : Nat} {w w' : World} {c : CallG} {cells : List Value} {S : Nat → Prop} (h : CallAt B w c cells) (ht : Turns S w w') (hS : ∀ k cs, At w k 5 cs → ¬ S k) : CallAt B w' c cells := by
  obtain ⟨A, k, e, hsl, hn, hb⟩ := h
  refine ⟨A, k, e, hsl.turns ht (fun ad e _ => ?_), hn, fun ad e => ?_⟩
  · obtain ⟨_, cs, hc⟩ := hb ad e
    exact hS _ _ hc
  · obtain ⟨hB, cs, hc⟩ := hb ad e
    exact ⟨hB, cs, hc.turns ht (hS _ _ hc)⟩

/-- The row of the noted calls. -/
def CallsAt (B : Nat) (w : World) (gs : List CallG) (css : List (List Value)) : Prop := css.length = gs.length ∧ ∀ (i : Nat) (g : CallG) (cells : List Value), gs[i]? = some g → css[i]? = some cells → CallAt B w g cells

theorem CallsAt.turns {B : Nat} {w w' : World} {gs : List CallG} {css : List (List Value)} {S : Nat → Prop} (h : CallsAt B w gs css) (ht : Turns S w w') (hS : ∀ k cs, At w k 5 cs → ¬ S k) : CallsAt B w' gs css :=
  ⟨h.1, fun i g cells h1 h2 => (h.2 i g cells h1 h2).turns ht hS⟩

theorem CallsAt.snoc {B : Nat} {w : World} {gs : List CallG} {css : List (List Value)} {g : CallG} {cells : List Value} (h : CallsAt B w gs css) (hg : CallAt B w g cells) : CallsAt B w (gs ++ [g]) (css ++ [cells]) := by
  refine ⟨by simp [h.1], fun i g' cells' h1 h2 => ?_⟩
  by_cases hi : i < gs.length
  · rw [List.getElem?_append_left hi] at h1
    rw [List.getElem?_append_left (by rw [h.1]; exact hi)] at h2
    exact h.2 i g' cells' h1 h2
  · rw [List.getElem?_append_right (by omega)] at h1
    rw [List.getElem?_append_right (by rw [h.1]; omega), h.1] at h2
    have hz : i - gs.length = 0 := by
      have := (List.getElem?_eq_some_iff.1 h1).1
      simp at this
      omega
    rw [hz] at h1 h2
    simp at h1 h2
    subst h1
    subst h2
    exact hg

/-- A memory: its block, and the row of its calls. -/
structure Mem (B : Nat) (w : World) (mb : Nat) (limit : Int) (cv : Value) (gs : List CallG) (css : List (List Value)) : Prop where
  blk : At w mb 60 #[.int .i64 limit, cv]
  own : w.ownsRow B 34 2 cv gs.length css.flatten
  calls : CallsAt B w gs css
  two : ∀ c ∈ css, c.length = 2
  base : B ≤ mb

theorem Mem.turns {B mb : Nat} {w w' : World} {limit : Int} {cv : Value} {gs : List CallG} {css : List (List Value)} {S : Nat → Prop} (h : Mem B w mb limit cv gs css) (ht : Turns S w w') (h1 : ¬ S mb) (h2 : ∀ g, cv.ownBlock = some g → ¬ S g) (h3 : ∀ k cs, At w k 5 cs → ¬ S k) : Mem B w' mb limit cv gs css :=
  ⟨h.blk.turns ht h1, own_turns h.own ht h2, h.calls.turns ht h3, h.two, h.base⟩
theorem Mem.drawn {B mb : Nat} {w : World} {limit : Int} {cv : Value} {gs : List CallG} {css : List (List Value)} (h : Mem B w mb limit cv gs css) (n : Nat) : Mem B (w.drewN n) mb limit cv gs css := ⟨h.blk, h.own, h.calls, h.two, h.base⟩

def MemPost (B mb : Nat) (limit : Int) (cv : Value) (gs : List CallG) (off : Int) (bs : List Int) (E : Nat → Addr) (w : World) (e : Ending) (w' : World) : Prop :=
  ∃ cv' css', e = .returned (.tuple #[.int .i64 (underG limit off bs.length).n, errVal E (underG limit off bs.length).code]) ∧ Mem B w' mb limit cv' (gs ++ [⟨off, bs⟩]) css' ∧ Near w cv cv' ∧ Turns (fun k => k = mb ∨ cv.ownBlock = some k) w w'

/-- Behind the note of the call. -/
theorem mem_noted {B mb kA : Nat} {w wA wB : World} {limit off : Int} {cv vB : Value} {gs : List CallG} {css : List (List Value)} {bs : List Int} {aA : Option Addr} (h : Mem B w mb limit cv gs css) (nA : New w wA)
    (hA : wA.ownsRow w.heap.size 5 1 (.slice aA bs.length kA) bs.length (bs.map (Value.int .u8))) (hAn : aA = none → kA = 0) (hAs : Sl wA 1 aA bs.length (bs.map (Value.int .u8))) (tB : Turns (fun k => cv.ownBlock = some k) wA wB)
    (hB : wB.ownsRow B 34 2 vB (gs.length + 1) (css.flatten ++ [.int .i64 off, .slice aA bs.length kA])) :
    Mem B (wB.setCell ⟨mb, 1, none⟩ vB) mb limit vB (gs ++ [⟨off, bs⟩]) (css ++ [[.int .i64 off, .slice aA bs.length kA]]) ∧ Turns (fun k => k = mb ∨ cv.ownBlock = some k) w (wB.setCell ⟨mb, 1, none⟩ vB) := by
  have hBw : B ≤ w.heap.size := by have := h.base; have := h.blk.size_lt; omega
  have hcm : cv.ownBlock ≠ some mb := own_ne h.own h.blk (by decide)
  have hbA := h.blk.new nA
  have hbB := hbA.turns tB hcm
  have hownA := own_new h.own nA
  have hvm : vB.ownBlock ≠ some mb := own_ne hB hbB (by decide)
  have hT2 : Turns (· = mb) wB (wB.setCell ⟨mb, 1, none⟩ vB) := Turns.setCell (S := (· = mb)) (Turns.refl _ _) (fun _ => rfl) _
  have hcA : CallAt B wA ⟨off, bs⟩ [.int .i64 off, .slice aA bs.length kA] := by
    refine ⟨aA, kA, rfl, hAs, hAn, fun ad e => ?_⟩
    rcases hA.2 with ⟨e0, _⟩ | ⟨g, cap, cur, e0, hg, hh, _⟩
    · rw [e] at e0; cases e0
    · rw [e] at e0
      injection e0 with e1 _ _
      injection e1 with e1
      subst e1
      exact ⟨Nat.le_trans hBw hg, cur, hh⟩
  have hallA := CallsAt.snoc (h.calls.turns (Turns.of_new nA (fun _ => False)) (fun _ _ _ h => h)) hcA
  have hallB := hallA.turns tB (fun k cs hc => own_ne hownA hc (by decide))
  have hallC := hallB.turns hT2 (fun k cs hc e => by subst e; exact hc.apart hbB (by decide) rfl)
  refine ⟨⟨hbB.put 1 vB, ?_, hallC, ?_, h.base⟩, Turns.trans (Turns.trans (Turns.of_new nA _) tB (fun _ _ h => .inr h)) hT2 (fun _ _ h => .inl h)⟩
  · rw [List.length_append, List.flatten_append]
    exact own_turns (by simpa using hB) hT2 (fun g hg e => hvm (e ▸ hg))
  · intro c hc
    rcases List.mem_append.1 hc with hc | hc
    · exact h.two c hc
    · rw [List.mem_singleton.1 hc]; rfl

set_option maxHeartbeats 1000000 in
theorem mem_any {B mb pc : Nat} {w : World} {limit off : Int} {cv : Value} {gs : List CallG} {css : List (List Value)} {bs : List Int} {PA : Option Addr} {E : Nat → Addr} (h : Mem B w mb limit cv gs css) (hE : Env B E w)
    (hp : Sl w 1 PA bs.length (bs.map (Value.int .u8))) (hPn : PA = none → pc = 0) (hpb : ∀ ad, PA = some ad → 0 < bs.length → ad.block ≠ mb ∧ cv.ownBlock ≠ some ad.block)
    (hb : bs.length ≤ 1000000) (hg : gs.length ≤ 1000000) (hl1 : -9007199254740992 ≤ limit) (hl2 : limit ≤ 9007199254740992) (ho1 : -9007199254740992 ≤ off) (ho2 : off ≤ 9007199254740992) :
    Calls Tryd.prog 42 #[.pointer (some ⟨mb, 0, none⟩), .slice PA bs.length pc, .int .i64 off] w (MemPost B mb limit cv gs off bs E w) := by
  have c0 : w.cell? ⟨mb, 0, none⟩ = some (.int .i64 limit) := h.blk.get 0
  have c1 : w.cell? ⟨mb, 1, none⟩ = some cv := h.blk.get 1
  have hbs : B ≤ w.heap.size := by have := h.base; have := h.blk.size_lt; omega
  have hlt := h.blk.size_lt
  have hne : ¬ mb = w.heap.size := by omega
  obtain ⟨CA, cc, rfl, -, -⟩ := Sl.of_own h.own
  have H := hide h; have HE := hide hE; have HP := hide hp; have HPN := hide hPn; have HPB := hide hpb
  clear h hE hp hPn hpb
  go_enter Tryd.func42, Tryd.ntmps42
  go_wp2_with fail
  have tokA : True := trivial
  have tokB : True := trivial
  go_region_law
    (first
      | (have _t := tokA; refine step_append_lit (by rfl) (.tmp 14) (.tmp 15) 26 (by rfl) w.heap.size 5 (.int .u8 0) 1 1 Tryd.underlying26 info5 rfl (by decide) _ (by rfl) (by repeat (with_reducible first | exact At.made' (by simp) _ _ | apply At.laid | apply At.drew | apply At.drawn)) (Nat.le_refl _) PA bs.length pc _ (by rfl) HPN.out (by exact HP.out.new (by repeat (with_reducible first | exact new_refl _ | apply new_al | apply new_dr | apply new_drN))) (ints_oneCell _ _) (by unfold maxLen; omega) (by omega) ?_; intro vA wA hA mA; have nA : Hid (New w wA) := hide (new_trans (by repeat (with_reducible first | exact new_refl _ | apply new_al | apply new_dr | apply new_drN)) mA); have hm1 := H.out.blk.new nA.out; have x1 := hm1.get 1; have hltA := hm1.size_lt; have hneA : ¬ mb = wA.heap.size := (by omega); have HM1 := hide hm1; obtain ⟨aA, kA, rfl, hAn, hAs⟩ := Sl.of_own hA; have HA := hide hA; have HAN := hide hAn; have HAS := hide hAs; clear hA mA hm1 hAn hAs tokA)
      | (have _t := tokB; refine step_append_sl (by rfl) (.tmp 12) (.tmp 18) 30 (by rfl) B 34 _ 2 32 Tryd.underlying30 infoCall rfl (by decide) (.slice CA gs.length cc) _ _ (by rfl) (by exact own_new H.out.own (new_trans nA.out (by repeat (with_reducible first | exact new_refl _ | apply new_al | apply new_dr | apply new_drN)))) (some ⟨wA.heap.size, 0, none⟩) 1 1 [.int .i64 off, .slice aA bs.length kA] (by rfl) (fun e => by cases e) (by first | exact Sl.one _ _ _ _ rfl | exact (Sl.one _ _ _ _ rfl).drawn 1) (by intro u hu; simp at hu; rcases hu with rfl | rfl <;> rfl) (by unfold maxLen; omega) (by omega) (by have := Below.size nA.out; simp; omega) ?_; intro vB wB hB tB nB; obtain ⟨aB, kB, rfl, -, -⟩ := Sl.of_own hB; have TB : Hid (Turns (fun k => (Value.slice CA gs.length cc).ownBlock = some k) wA wB) := (by first | exact Turns.trans (Turns.of_new (new_alloc wA _) _) tB (fun _ _ h => h) | exact Turns.trans (Turns.of_new (new_alloc wA _) _) tB.undrew (fun _ _ h => h) | exact Turns.trans (Turns.of_new (new_alloc wA _) _) tB.undrawn (fun _ _ h => h)); have HCN : Hid ((Value.slice CA gs.length cc).ownBlock ≠ some mb) := own_ne H.out.own H.out.blk (by decide); have hm2 := HM1.out.turns TB.out HCN.out; have y1 := hm2.get 1; have z1 := hm2.soft 1; have HM2 := hide hm2; have HB := hide hB; have NB := hide nB; clear tokB hm2 hB tB nB))
  all_goals
    obtain ⟨hM, hT⟩ := mem_noted H.out nA.out HA.out HAN.out HAS.out TB.out HB.out
    have hnear : Near w (.slice CA gs.length cc) (.slice aB (gs.length + 1) kB) := by
      have hs := Below.size nA.out
      rcases NB.out with h | h
      · exact .inl h
      · exact .inr ⟨_, h, by simp; omega⟩
    have hE2 := HE.out.turns hT (fun k hk => by
      rcases hk with rfl | hk
      · exact H.out.base
      · exact (H.out.own.lt k hk).1)
    have HM := hide hM; have HT := hide hT; have HNR := hide hnear; have HE2 := hide hE2
    clear hM hT hnear hE2 c0 c1 x1 y1 z1 HA HAN HAS TB HB NB HM1 HM2 HCN nA
    generalize wB.setCell ⟨mb, 1, none⟩ (.slice aB (gs.length + 1) kB) = w2 at *
    have d0 : w2.cell? ⟨mb, 0, none⟩ = some (.int .i64 limit) := HM.out.blk.get 0
    have k4 := nErrs_ge
    have e2 : w2.cell? ⟨2, 0, none⟩ = some (.iface 81 (.pointer (some (E 2)))) := HE2.out.cell 2 (by omega)
    have fin : ∀ (q : Nat), MemPost B mb limit (.slice CA gs.length cc) gs off bs E w (.returned (.tuple #[.int .i64 (underG limit off bs.length).n, errVal E (underG limit off bs.length).code])) (w2.drewN q) :=
      fun q => ⟨_, _, rfl, HM.out.drawn q, HNR.out, HT.out.drawn q⟩
    have HF := hide fin
    clear fin
    have s1 : IntKind.i64.wrap (limit - (bs.length : Int)) = limit - (bs.length : Int) := IntWalk.i64_in _ (by omega)
    have s2 : IntKind.i64.wrap (limit - off) = limit - off := IntWalk.i64_in _ (by omega)
    by_cases hlt : limit - (bs.length : Int) < off
    · have hu : underG limit off bs.length = ⟨imax (limit - off) 0, 3⟩ := by unfold underG; rw [if_pos hlt]
      rw [hu] at HF
      clear hu
      go_wp2_with fail
      go_quiet (fail)
      rename Nat => q1
      go_wp2
      go_ret2
      exact HF.out _
    · have hu : underG limit off bs.length = ⟨bs.length, 0⟩ := by unfold underG; rw [if_neg hlt]
      rw [hu] at HF
      clear hu
      go_wp2
      go_ret2
      exact HF.out 0

end Go.Proofs.YtnmdjhkeekhfbaaDoor
