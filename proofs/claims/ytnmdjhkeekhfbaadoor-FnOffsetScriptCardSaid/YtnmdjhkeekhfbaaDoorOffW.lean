/-
  What the three methods of an io.OffsetWriter over the thin package's memory do.
-/
import Derived.Test.YtnmdjhkeekhfbaaDoorMem
namespace Go.Proofs.YtnmdjhkeekhfbaaDoor
open Go.RowKit
set_option linter.unusedVariables false
set_option maxRecDepth 100000

/-- An OffsetWriter over a memory. -/
structure Ow (B : Nat) (w : World) (ob mb : Nat) (base cur limit : Int) (cv : Value) (gs : List CallG) (css : List (List Value)) : Prop where
  blk : At w ob 72 #[.iface 58 (.pointer (some ⟨mb, 0, none⟩)), .int .i64 base, .int .i64 cur]
  mem : Mem B w mb limit cv gs css
  obase : B ≤ ob

theorem m_writeAt (a : Addr) (w : World) : (method 202 58 (.pointer (some a)) "WriteAt").run Tryd.prog w = .ok (42, .pointer (some a)) w := by kernel_rfl
theorem c_writeAt (args : Array Value) (w : World) : (callFunc 42 args).run Tryd.prog w = .ok (.enter 42 args) w := by kernel_rfl

/-- What a call leaves. -/
def OwPost (B ob mb : Nat) (base limit : Int) (cv : Value) (gs : List CallG) (r : MovedG) (cur' : Int) (more : List CallG) (E : Nat → Addr) (w : World) (e : Ending) (w' : World) : Prop :=
  ∃ cv' css', e = .returned (.tuple #[.int .i64 r.n, errVal E r.code]) ∧ Ow B w' ob mb base cur' limit cv' (gs ++ more) css' ∧ Near w cv cv' ∧ Turns (fun k => k = ob ∨ k = mb ∨ cv.ownBlock = some k) w w'

/-- The OffsetWriter behind a turn of its own place. -/
theorem Ow.move {B ob mb : Nat} {w : World} {base cur limit : Int} {cv : Value} {gs : List CallG} {css : List (List Value)} (h : Ow B w ob mb base cur limit cv gs css) (c : Int) : Ow B (w.setCell ⟨ob, 2, none⟩ (.int .i64 c)) ob mb base c limit cv gs css ∧ Turns (· = ob) w (w.setCell ⟨ob, 2, none⟩ (.int .i64 c)) := by
  have hT : Turns (· = ob) w (w.setCell ⟨ob, 2, none⟩ (.int .i64 c)) := Turns.setCell (S := (· = ob)) (Turns.refl _ _) (fun _ => rfl) _
  refine ⟨⟨h.blk.put 2 _, h.mem.turns hT ?_ ?_ ?_, h.obase⟩, hT⟩
  · exact h.mem.blk.apart h.blk (by decide)
  · intro g hg e; exact own_ne h.mem.own h.blk (by decide) (e ▸ hg)
  · intro k cs hc e; subst e; exact hc.apart h.blk (by decide) rfl
theorem Ow.drawn {B ob mb : Nat} {w : World} {base cur limit : Int} {cv : Value} {gs : List CallG} {css : List (List Value)} (h : Ow B w ob mb base cur limit cv gs css) (n : Nat) : Ow B (w.drewN n) ob mb base cur limit cv gs css := ⟨h.blk, h.mem.drawn n, h.obase⟩

set_option maxHeartbeats 1000000 in
theorem ow_write {B ob mb pc : Nat} {w : World} {base cur limit : Int} {cv : Value} {gs : List CallG} {css : List (List Value)} {bs : List Int} {PA : Option Addr} {E : Nat → Addr} (h : Ow B w ob mb base cur limit cv gs css) (hE : Env B E w)
    (hp : Sl w 1 PA bs.length (bs.map (Value.int .u8))) (hPn : PA = none → pc = 0) (hpb : ∀ ad, PA = some ad → 0 < bs.length → ad.block ≠ mb ∧ cv.ownBlock ≠ some ad.block)
    (hb : bs.length ≤ 1000000) (hg : gs.length ≤ 1000000) (hl1 : -9007199254740992 ≤ limit) (hl2 : limit ≤ 9007199254740992) (ho1 : -9007199254740992 ≤ cur) (ho2 : cur ≤ 9007199254740992) :
    Calls Tryd.prog 23 #[.pointer (some ⟨ob, 0, none⟩), .slice PA bs.length pc] w (OwPost B ob mb base limit cv gs (underG limit cur bs.length) (cur + (underG limit cur bs.length).n) [⟨cur, bs⟩] E w) := by
  have a1 := m_writeAt
  have a2 := c_writeAt
  have c0 : w.cell? ⟨ob, 0, none⟩ = some (.iface 58 (.pointer (some ⟨mb, 0, none⟩))) := h.blk.get 0
  have c2 : w.cell? ⟨ob, 2, none⟩ = some (.int .i64 cur) := h.blk.get 2
  have hun := underG_n limit cur bs.length
  have H := hide h; have HE := hide hE; have HP := hide hp; have HPN := hide hPn; have HPB := hide hpb
  clear h hE hp hPn hpb
  go_enter Tryd.func23, Tryd.ntmps23
  go_wp2_with fail
  go_region_held3 (fun w' => w'.cell? ⟨ob, 0, none⟩ = some (.iface 58 (.pointer (some ⟨mb, 0, none⟩))) ∧ w'.cell? ⟨ob, 2, none⟩ = some (.int .i64 cur)) (go_keep)
    (first | (go_at_call 42; refine (mem_any (H.out.mem.drawn 1) (HE.out.drawn 1) (HP.out.drawn 1) HPN.out HPB.out hb hg hl1 hl2 ho1 ho2).mono ?_; rintro e w2 ⟨cv', css', rfl, hM, hN, hT⟩; have hob : At w2 ob 72 #[.iface 58 (.pointer (some ⟨mb, 0, none⟩)), .int .i64 base, .int .i64 cur] := (H.out.blk.drawn 1).turns hT (by rintro (e | e); (· exact H.out.blk.apart H.out.mem.blk (by decide) e); (· exact own_ne H.out.mem.own H.out.blk (by decide) e)); have x0 := hob.get 0; have x2 := hob.get 2; have z2 := hob.soft 2; have HOB := hide hob; have HM := hide hM; have HN := hide hN; have HT := hide hT; clear hob hM hN hT))
  obtain ⟨hM3, hT3⟩ := Ow.move ⟨HOB.out, HM.out, H.out.obase⟩ (cur + (underG limit cur bs.length).n)
  have HM3 := hide hM3; have HT3 := hide hT3
  clear hM3 hT3
  obtain ⟨hu1, hu2, hu3⟩ := hun
  generalize hun : underG limit cur bs.length = r at *
  have hs1 : IntKind.i64.wrap (cur + r.n) = cur + r.n := IntWalk.i64_in _ (by omega)
  go_wp2
  go_ret2
  refine ⟨_, _, rfl, HM3.out, HN.out.of_size (Nat.le_refl _), ?_⟩
  exact Turns.trans ((by first | exact HT.out.undrew | exact HT.out.undrawn : Turns (fun k => k = mb ∨ cv.ownBlock = some k) w w2).mono (fun _ _ h => .inr h)) HT3.out (fun _ _ h => .inl h)

set_option maxHeartbeats 1000000 in
theorem ow_writeAt {B ob mb pc : Nat} {w : World} {base cur limit off : Int} {cv : Value} {gs : List CallG} {css : List (List Value)} {bs : List Int} {PA : Option Addr} {E : Nat → Addr} (h : Ow B w ob mb base cur limit cv gs css) (hE : Env B E w)
    (hp : Sl w 1 PA bs.length (bs.map (Value.int .u8))) (hPn : PA = none → pc = 0) (hpb : ∀ ad, PA = some ad → 0 < bs.length → ad.block ≠ mb ∧ cv.ownBlock ≠ some ad.block)
    (hb : bs.length ≤ 1000000) (hg : gs.length ≤ 1000000) (hl1 : -9007199254740992 ≤ limit) (hl2 : limit ≤ 9007199254740992) (ho0 : 0 ≤ off) (ho2 : off ≤ 4398046511104) (hb0 : 0 ≤ base) (hb2 : base ≤ 4398046511104) :
    Calls Tryd.prog 25 #[.pointer (some ⟨ob, 0, none⟩), .slice PA bs.length pc, .int .i64 off] w (OwPost B ob mb base limit cv gs (underG limit (off + base) bs.length) cur [⟨off + base, bs⟩] E w) := by
  have a1 := m_writeAt
  have a2 := c_writeAt
  have c0 : w.cell? ⟨ob, 0, none⟩ = some (.iface 58 (.pointer (some ⟨mb, 0, none⟩))) := h.blk.get 0
  have c1 : w.cell? ⟨ob, 1, none⟩ = some (.int .i64 base) := h.blk.get 1
  have H := hide h; have HE := hide hE; have HP := hide hp; have HPN := hide hPn; have HPB := hide hpb
  clear h hE hp hPn hpb
  have hs1 : IntKind.i64.wrap (off + base) = off + base := IntWalk.i64_in _ (by omega)
  have hneg : ¬ (off < 0) := by omega
  go_enter Tryd.func25, Tryd.ntmps25
  go_wp2_with fail
  refine (mem_any H.out.mem HE.out HP.out HPN.out HPB.out hb hg hl1 hl2 (by omega) (by omega)).mono ?_
  rintro e w2 ⟨cv', css', rfl, hM, hN, hT⟩
  have hob : At w2 ob 72 #[.iface 58 (.pointer (some ⟨mb, 0, none⟩)), .int .i64 base, .int .i64 cur] := H.out.blk.turns hT (by
    rintro (e | e)
    · exact H.out.blk.apart H.out.mem.blk (by decide) e
    · exact own_ne H.out.mem.own H.out.blk (by decide) e)
  have HOB := hide hob; have HM := hide hM; have HN := hide hN; have HT := hide hT
  clear hob hM hN hT
  generalize underG limit (off + base) bs.length = r at *
  go_wp2
  go_ret2
  exact ⟨_, _, rfl, ⟨HOB.out, HM.out, H.out.obase⟩, HN.out, HT.out.mono (fun _ _ h => .inr h)⟩

theorem ow_writeAt_neg {B ob mb : Nat} {w : World} {base cur limit off : Int} {cv pv : Value} {gs : List CallG} {css : List (List Value)} {E : Nat → Addr} (h : Ow B w ob mb base cur limit cv gs css) (hE : Env B E w) (ho0 : off < 0) (hn5 : 5 ≤ nErrs) :
    Calls Tryd.prog 25 #[.pointer (some ⟨ob, 0, none⟩), pv, .int .i64 off] w (OwPost B ob mb base limit cv gs ⟨0, 5⟩ cur [] E w) := by
  have e4 : w.cell? ⟨4, 0, none⟩ = some (.iface 81 (.pointer (some (E 4)))) := hE.cell 4 (by omega)
  have H := hide h
  clear h hE
  go_enter Tryd.func25, Tryd.ntmps25
  go_wp2_with fail
  go_quiet (fail)
  rename Nat => q1
  go_wp2
  go_ret2
  exact ⟨_, _, rfl, by rw [List.append_nil]; exact H.out.drawn _, Near.refl _ _, (Turns.refl _ _).drawn _⟩

set_option maxHeartbeats 1000000 in
theorem ow_seek0 {B ob mb : Nat} {w : World} {base cur limit off : Int} {cv : Value} {gs : List CallG} {css : List (List Value)} {E : Nat → Addr} (h : Ow B w ob mb base cur limit cv gs css) (hE : Env B E w) (hn5 : 5 ≤ nErrs)
    (ho1 : -4398046511104 ≤ off) (ho2 : off ≤ 4398046511104) (hb0 : 0 ≤ base) (hb2 : base ≤ 4398046511104) (hc1 : base ≤ cur) (hc2 : cur ≤ 9007199254740992) :
    Calls Tryd.prog 26 #[.pointer (some ⟨ob, 0, none⟩), .int .i64 off, .int .i64 0] w (OwPost B ob mb base limit cv gs (seekG base cur (off + base)).1 (seekG base cur (off + base)).2.1 [] E w) := by
  have c1 : w.cell? ⟨ob, 1, none⟩ = some (.int .i64 base) := h.blk.get 1
  have c2 : w.cell? ⟨ob, 2, none⟩ = some (.int .i64 cur) := h.blk.get 2
  have f2 := h.blk.soft 2
  have e4 : w.cell? ⟨4, 0, none⟩ = some (.iface 81 (.pointer (some (E 4)))) := hE.cell 4 (by omega)
  obtain ⟨hM3, hT3⟩ := h.move (off + base)
  have HM3 := hide hM3; have HT3 := hide hT3
  have H := hide h
  clear h hE hM3 hT3
  have hs1 : IntKind.i64.wrap (off + base) = off + base := IntWalk.i64_in _ (by omega)
  have hs2 : IntKind.i64.wrap (off + base - base) = off + base - base := IntWalk.i64_in _ (by omega)
  by_cases hlt : off + base < base
  · have hk : seekG base cur (off + base) = (⟨0, 5⟩, cur, []) := by unfold seekG; rw [if_pos hlt]
    rw [hk]
    go_enter Tryd.func26, Tryd.ntmps26
    go_wp2_with fail
    go_quiet (fail)
    rename Nat => q1
    go_wp2
    go_ret2
    exact ⟨_, _, rfl, by rw [List.append_nil]; exact H.out.drawn _, Near.refl _ _, (Turns.refl _ _).drawn _⟩
  · have hk : seekG base cur (off + base) = (⟨off + base - base, 0⟩, off + base, []) := by unfold seekG; rw [if_neg hlt]
    rw [hk]
    go_enter Tryd.func26, Tryd.ntmps26
    go_wp2
    go_ret2
    exact ⟨_, _, rfl, by rw [List.append_nil]; exact HM3.out, Near.refl _ _, HT3.out.mono (fun _ _ h => .inl h)⟩

set_option maxHeartbeats 1000000 in
theorem ow_seek1 {B ob mb : Nat} {w : World} {base cur limit off : Int} {cv : Value} {gs : List CallG} {css : List (List Value)} {E : Nat → Addr} (h : Ow B w ob mb base cur limit cv gs css) (hE : Env B E w) (hn5 : 5 ≤ nErrs)
    (ho1 : -4398046511104 ≤ off) (ho2 : off ≤ 4398046511104) (hb0 : 0 ≤ base) (hb2 : base ≤ 4398046511104) (hc1 : base ≤ cur) (hc2 : cur ≤ 9007199254740992) :
    Calls Tryd.prog 26 #[.pointer (some ⟨ob, 0, none⟩), .int .i64 off, .int .i64 1] w (OwPost B ob mb base limit cv gs (seekG base cur (off + cur)).1 (seekG base cur (off + cur)).2.1 [] E w) := by
  have c1 : w.cell? ⟨ob, 1, none⟩ = some (.int .i64 base) := h.blk.get 1
  have c2 : w.cell? ⟨ob, 2, none⟩ = some (.int .i64 cur) := h.blk.get 2
  have f2 := h.blk.soft 2
  have e4 : w.cell? ⟨4, 0, none⟩ = some (.iface 81 (.pointer (some (E 4)))) := hE.cell 4 (by omega)
  obtain ⟨hM3, hT3⟩ := h.move (off + cur)
  have HM3 := hide hM3; have HT3 := hide hT3
  have H := hide h
  clear h hE hM3 hT3
  have hs1 : IntKind.i64.wrap (off + cur) = off + cur := IntWalk.i64_in _ (by omega)
  have hs2 : IntKind.i64.wrap (off + cur - base) = off + cur - base := IntWalk.i64_in _ (by omega)
  by_cases hlt : off + cur < base
  · have hk : seekG base cur (off + cur) = (⟨0, 5⟩, cur, []) := by unfold seekG; rw [if_pos hlt]
    rw [hk]
    go_enter Tryd.func26, Tryd.ntmps26
    go_wp2_with fail
    go_quiet (fail)
    rename Nat => q1
    go_wp2
    go_ret2
    exact ⟨_, _, rfl, by rw [List.append_nil]; exact H.out.drawn _, Near.refl _ _, (Turns.refl _ _).drawn _⟩
  · have hk : seekG base cur (off + cur) = (⟨off + cur - base, 0⟩, off + cur, []) := by unfold seekG; rw [if_neg hlt]
    rw [hk]
    go_enter Tryd.func26, Tryd.ntmps26
    go_wp2
    go_ret2
    exact ⟨_, _, rfl, by rw [List.append_nil]; exact HM3.out, Near.refl _ _, HT3.out.mono (fun _ _ h => .inl h)⟩

theorem ow_seek_whence {B ob mb : Nat} {w : World} {base cur limit off wh : Int} {cv : Value} {gs : List CallG} {css : List (List Value)} {E : Nat → Addr} (h : Ow B w ob mb base cur limit cv gs css) (hE : Env B E w) (hn6 : 6 ≤ nErrs) (h0 : wh ≠ 0) (h1 : wh ≠ 1) :
    Calls Tryd.prog 26 #[.pointer (some ⟨ob, 0, none⟩), .int .i64 off, .int .i64 wh] w (OwPost B ob mb base limit cv gs ⟨0, 6⟩ cur [] E w) := by
  have e5 : w.cell? ⟨5, 0, none⟩ = some (.iface 81 (.pointer (some (E 5)))) := hE.cell 5 (by omega)
  have H := hide h
  have g0 : (wh == 0) = false := by simp; exact h0
  have g1 : (wh == 1) = false := by simp; exact h1
  clear h hE h0 h1
  go_enter Tryd.func26, Tryd.ntmps26
  go_wp2_with fail
  go_quiet (fail)
  rename Nat => q1
  go_wp2
  go_ret2
  exact ⟨_, _, rfl, by rw [List.append_nil]; exact H.out.drawn _, Near.refl _ _, (Turns.refl _ _).drawn _⟩

end Go.Proofs.YtnmdjhkeekhfbaaDoor
