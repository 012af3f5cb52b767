/-
  What laws.source does: the value of a Source that holds copies of the data and of the pieces; only new memory.
-/
import Derived.Test.YtdcdbbcphkhmeaaDoorErrs
import Derived.Test.YtdcdbbcphkhmeaaDoorGhost
namespace Go.Proofs.YtdcdbbcphkhmeaaDoor
open Go.RowKit
set_option linter.unusedVariables false

theorem sinfo5 : (Tryd.prog.info? 5).map (fun i => (i.zero, i.size, i.bytes)) = some (some (.int .u8 0), 1, 1) := by kernel_rfl
theorem sinfo3 : (Tryd.prog.info? 3).map (fun i => (i.zero, i.size, i.bytes)) = some (some (.int .i64 0), 1, 8) := by kernel_rfl

/-- What 'source' leaves: the two rows are the call's own. -/
def SourcePost (s : Src) (w : World) (e : Ending) (w' : World) : Prop :=
  ∃ dv pv, e = .returned (.agg #[dv, pv, .bool s.together, .bool s.broken, .bool s.direct]) ∧ w'.ownsRow w.heap.size 5 1 dv s.data.length (s.data.map (Value.int .u8)) ∧
    w'.ownsRow w.heap.size 3 1 pv s.pieces.length (s.pieces.map (Value.int .i64)) ∧ New w w'

theorem source_any {w : World} {s : Src} {DA PA : Option Addr} {dc pc : Nat} (hd : Sl w 1 DA s.data.length (s.data.map (Value.int .u8))) (hDn : DA = none → dc = 0)
    (hp : Sl w 1 PA s.pieces.length (s.pieces.map (Value.int .i64))) (hPn : PA = none → pc = 0) (hdl : s.data.length ≤ 1000000000) (hpl : s.pieces.length ≤ 1000000000) :
    Calls Tryd.prog 8 #[.slice DA s.data.length dc, .slice PA s.pieces.length pc, .bool s.together, .bool s.broken, .bool s.direct] w (SourcePost s w) := by
  have HD := hide hd; have HP := hide hp; have HDN := hide hDn; have HPN := hide hPn
  clear hd hp hDn hPn
  go_enter Tryd.func8, Tryd.ntmps8
  go_wp2_with (at_builtin; (with_reducible refine wpList_append_empty rfl (.tmp 11) (.tmp 12) 22 rfl 5 (.int .u8 0) 1 1 Tryd.underlying22 sinfo5 rfl (by decide) _ rfl DA s.data.length dc (s.data.map (Value.int .u8)) rfl HDN.out ?c1 (ints_oneCell _ _) ?c3 ?c4 ?c5 ?_))
  case c1 => exact HD.out.laid _
  case c3 => unfold maxLen; omega
  case c4 => omega
  case c5 => simp
  intro dv w1 hdv hN1 hlt1
  obtain ⟨A1, k1, rfl, -, -⟩ := Sl.of_own hdv
  go_wp2_with (at_builtin; (with_reducible refine wpList_append_empty rfl (.tmp 14) (.tmp 15) 23 rfl 3 (.int .i64 0) 1 8 Tryd.underlying23 sinfo3 rfl (by decide) _ rfl PA s.pieces.length pc (s.pieces.map (Value.int .i64)) rfl HPN.out ?d1 (ints_oneCell _ _) ?d3 ?d4 ?d5 ?_))
  case d1 => exact (HP.out.laid _).below hN1 (fun ad e h0 => by
    obtain ⟨ad', e', hb, _⟩ := HP.out.2 h0
    have e2 : ad' = ad := Option.some.inj (e'.symm.trans e)
    subst e2
    simp; omega)
  case d3 => unfold maxLen; omega
  case d4 => omega
  case d5 => simp
  intro pv w2 hpv hN2 hlt2
  obtain ⟨A2, k2, rfl, -, -⟩ := Sl.of_own hpv
  have hA2 : At w2 w.heap.size 30 #[.slice none 0 0, .slice none 0 0, .bool false, .bool false, .bool false] :=
    ((At.made w _ _).below hN1 (by simp)).below hN2 (by have := hN1.size; simp at this; omega)
  have q0 := hA2.get 0
  have q1 := hA2.get 1
  have q2 := hA2.get 2
  have q3 := hA2.get 3
  have q4 := hA2.get 4
  have z0 := hA2.soft 0
  have z1 := hA2.soft 1
  have z2 := hA2.soft 2
  have z3 := hA2.soft 3
  have z4 := hA2.soft 4
  have HDV := hide hdv; have HPV := hide hpv; have HN1 := hide hN1; have HN2 := hide hN2; have HA2 := hide hA2
  clear hdv hpv hN1 hN2 hA2
  go_wp2
  have hA3 := (((((Sole.start HA2.out).put 0 (.slice A1 s.data.length k1)).put 1 (.slice A2 s.pieces.length k2)).put 2 (.bool s.together)).put 3 (.bool s.broken)).put 4 (.bool s.direct)
  generalize (((((w2.setCell ⟨w.heap.size, 0, none⟩ (.slice A1 s.data.length k1)).setCell ⟨w.heap.size, 1, none⟩ (.slice A2 s.pieces.length k2)).setCell ⟨w.heap.size, 2, none⟩ (.bool s.together)).setCell ⟨w.heap.size, 3, none⟩ (.bool s.broken)).setCell ⟨w.heap.size, 4, none⟩ (.bool s.direct)) = w3 at *
  have r0 : w3.cell? ⟨w.heap.size, 0, none⟩ = some (.slice A1 s.data.length k1) := hA3.at_.get 0
  have r1 : w3.cell? ⟨w.heap.size, 1, none⟩ = some (.slice A2 s.pieces.length k2) := hA3.at_.get 1
  have r2 : w3.cell? ⟨w.heap.size, 2, none⟩ = some (.bool s.together) := hA3.at_.get 2
  have r3 : w3.cell? ⟨w.heap.size, 3, none⟩ = some (.bool s.broken) := hA3.at_.get 3
  have r4 : w3.cell? ⟨w.heap.size, 4, none⟩ = some (.bool s.direct) := hA3.at_.get 4
  refine bodyPost_ret (v := .agg #[.slice A1 s.data.length k1, .slice A2 s.pieces.length k2, .bool s.together, .bool s.broken, .bool s.direct]) (by simp [results, Tryd.results8, go_sem, r0, r1, r2, r3, r4]) rfl ?_
  have hs1 := HN1.out.size
  have hs2 := HN2.out.size
  simp at hs1
  have hT3 := hA3.turns
  have hn1 : (w.alloc (.cells #[.slice none 0 0, .slice none 0 0, .bool false, .bool false, .bool false] 30)).heap.size = w.heap.size + 1 := by simp
  have hN1 := HN1.out
  have hlt : ∀ g, (Value.slice A1 s.data.length k1).ownBlock = some g → ¬ g = w.heap.size := fun g hg e => by have := (HDV.out.lt g hg).1; omega
  have hltp : ∀ g, (Value.slice A2 s.pieces.length k2).ownBlock = some g → ¬ g = w.heap.size := fun g hg e => by have := (HPV.out.lt g hg).1; omega
  refine ⟨_, _, rfl, own_turns (own_new (own_mono HDV.out (by omega)) HN2.out) hT3 hlt, own_turns (own_mono HPV.out (by omega)) hT3 hltp, ?_⟩
  have t1 : New w w2 := new_trans (new_trans (new_alloc w _) HN1.out) HN2.out
  exact t1.trans (hT3.below t1.size (fun i hi e => by omega))

end Go.Proofs.YtdcdbbcphkhmeaaDoor
