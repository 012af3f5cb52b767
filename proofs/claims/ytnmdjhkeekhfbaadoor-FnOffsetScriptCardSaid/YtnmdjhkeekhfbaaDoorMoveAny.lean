/-
  What impl.move does, whatever the call: what moveG says.
-/
import Derived.Test.YtnmdjhkeekhfbaaDoorMove
namespace Go.Proofs.YtnmdjhkeekhfbaaDoor
open Go.RowKit
set_option linter.unusedVariables false

theorem nErrs6 : nErrs = 6 := rfl

theorem move_any {B ob mb pc : Nat} {w : World} {base cur limit : Int} {p : PlaceG} {cv : Value} {gs : List CallG} {css : List (List Value)} {PA : Option Addr} {E : Nat → Addr} (h : Ow B w ob mb base cur limit cv gs css) (hE : Env B E w)
    (hp : Sl w 1 PA p.data.length (p.data.map (Value.int .u8))) (hPn : PA = none → pc = 0) (hf : Fits p) (hg : gs.length ≤ 1000000) (hl1 : -9007199254740992 ≤ limit) (hl2 : limit ≤ 9007199254740992)
    (hb0 : 0 ≤ base) (hb2 : base ≤ 2199023255552) (hc1 : base ≤ cur) (hc2 : cur ≤ 9007199254740992) :
    Calls Tryd.prog 21 #[.pointer (some ⟨ob, 0, none⟩), .agg #[.int .i64 p.kind, .slice PA p.data.length pc, .int .i64 p.off, .int .i64 p.whence]] w
      (MovePost B ob mb base limit cv gs (moveG base limit cur p).1 (moveG base limit cur p).2.1 (moveG base limit cur p).2.2 w) := by
  obtain ⟨hf1, hf2⟩ := hf
  have hn6 := nErrs6
  unfold moveG
  by_cases k0 : p.kind = 0
  · rw [if_pos k0, k0]
    exact move_write h hE hp hPn (by omega) hg hl1 hl2 (by omega) hc2
  · rw [if_neg k0]
    by_cases k1 : p.kind = 1
    · rw [if_pos k1, k1]
      by_cases hn : p.off < 0
      · rw [if_pos hn]
        exact move_at (r := ⟨0, 5⟩) h hE hp hPn (by omega) (by simp; omega) (fun W X A k hW hEW _ _ _ => ow_writeAt_neg hW hEW hn (by omega))
      · rw [if_neg hn]
        have hr := underG_n limit (p.off + base) p.data.length
        have := move_at (wh := p.whence) (r := underG limit (p.off + base) p.data.length) h hE hp hPn (by omega) (by omega) (fun W X A k hW hEW hr hn' hs => ow_writeAt hW hEW hs hn' (row_apart hW.mem hr) (by omega) hg hl1 hl2 (by omega) (by omega) hb0 (by omega))
        have e5 : Nat.min (underG limit (p.off + base) p.data.length).code 5 = (underG limit (p.off + base) p.data.length).code := Nat.min_eq_left (by omega)
        rw [e5] at this
        exact this
    · rw [if_neg k1]
      have hmin : ∀ t, Nat.min (seekG base cur t).1.code 5 = (seekG base cur t).1.code ∧ (seekG base cur t).1.code ≤ 5 ∧ (seekG base cur t).2.2 = [] := fun t => by
        unfold seekG
        split
        · exact ⟨rfl, by simp, rfl⟩
        · exact ⟨rfl, by simp, rfl⟩
      by_cases h0 : p.whence = 0
      · rw [if_pos h0, h0]
        obtain ⟨m1, m2, m3⟩ := hmin (p.off + base)
        have := move_seek (pv := .slice PA p.data.length pc) (r := (seekG base cur (p.off + base)).1) (cur' := (seekG base cur (p.off + base)).2.1) h hE k0 k1 ⟨_, _, _, rfl⟩ (by omega) (fun W hW hEW => ow_seek0 hW hEW (by omega) (by omega) (by omega) hb0 (by omega) hc1 hc2)
        rw [m1] at this
        rw [m3]
        exact this
      · rw [if_neg h0]
        by_cases h1 : p.whence = 1
        · rw [if_pos h1, h1]
          obtain ⟨m1, m2, m3⟩ := hmin (p.off + cur)
          have := move_seek (pv := .slice PA p.data.length pc) (r := (seekG base cur (p.off + cur)).1) (cur' := (seekG base cur (p.off + cur)).2.1) h hE k0 k1 ⟨_, _, _, rfl⟩ (by omega) (fun W hW hEW => ow_seek1 hW hEW (by omega) (by omega) (by omega) hb0 (by omega) hc1 hc2)
          rw [m1] at this
          rw [m3]
          exact this
        · rw [if_neg h1]
          exact move_seek (pv := .slice PA p.data.length pc) (r := ⟨0, 6⟩) h hE k0 k1 ⟨_, _, _, rfl⟩ (by simp; omega) (fun W hW hEW => ow_seek_whence hW hEW (by omega) h0 h1)

end Go.Proofs.YtnmdjhkeekhfbaaDoor
