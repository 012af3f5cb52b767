/-
  What (*writer).Write of the thin package does: it takes what there is room for, notes the length, and turns the writer and its two rows alone.
-/
import Derived.Test.YtdcdbbcphkhmeaaDoorErrs
import Derived.Test.YtdcdbbcphkhmeaaDoorGhost
import Derived.RegionTactic
import Derived.Deep.RegionLaw
namespace Go.Proofs.YtdcdbbcphkhmeaaDoor
open Go.RowKit
set_option linter.unusedVariables false
set_option maxRecDepth 100000
attribute [local go_sem 10000] run_imin run_imax

theorem winfo5 : (Tryd.prog.info? 5).map (fun i => (i.zero, i.size, i.bytes)) = some (some (.int .u8 0), 1, 1) := by kernel_rfl
theorem winfo3 : (Tryd.prog.info? 3).map (fun i => (i.zero, i.size, i.bytes)) = some (some (.int .i64 0), 1, 8) := by kernel_rfl

/-- A writer in memory. -/
structure Wr (B : Nat) (w : World) (wb : Nat) (room : Int) (quiet direct : Bool) (gv wv : Value) (got writes : List Int) : Prop where
  blk : At w wb 75 #[.int .i64 room, .bool quiet, .bool direct, gv, wv]
  got : w.ownsRow B 5 1 gv got.length (got.map (Value.int .u8))
  notes : w.ownsRow B 3 1 wv writes.length (writes.map (Value.int .i64))
  base : B ≤ wb

theorem Wr.turns {B wb : Nat} {w w' : World} {room : Int} {quiet direct : Bool} {gv wv : Value} {got writes : List Int} {S : Nat → Prop} (h : Wr B w wb room quiet direct gv wv got writes) (ht : Turns S w w')
    (h1 : ¬ S wb) (h2 : ∀ g, gv.ownBlock = some g → ¬ S g) (h3 : ∀ g, wv.ownBlock = some g → ¬ S g) : Wr B w' wb room quiet direct gv wv got writes :=
  ⟨h.blk.turns ht h1, own_turns h.got ht h2, own_turns h.notes ht h3, h.base⟩
theorem Wr.drawn {B wb : Nat} {w : World} {room : Int} {quiet direct : Bool} {gv wv : Value} {got writes : List Int} (h : Wr B w wb room quiet direct gv wv got writes) (n : Nat) :
    Wr B (w.drewN n) wb room quiet direct gv wv got writes := ⟨h.blk, h.got, h.notes, h.base⟩

/-- How many of 'size' bytes a sink takes that has so many already. -/
def takes (room : Int) (have_ size : Nat) : Nat := Nat.min size (room - have_).toNat

def WritePost (B wb : Nat) (room : Int) (quiet direct : Bool) (gv wv : Value) (got writes : List Int) (bs : List Int) (E : Nat → Addr) (w : World) (e : Ending) (w' : World) : Prop :=
  ∃ gv' wv', e = .returned (.tuple #[.int .i64 (takes room got.length bs.length : Nat), errVal E (if takes room got.length bs.length < bs.length ∧ quiet = false then 3 else 0)]) ∧
    Wr B w' wb room quiet direct gv' wv' (got ++ bs.take (takes room got.length bs.length)) (writes ++ [(bs.length : Int)]) ∧ Near w gv gv' ∧ Near w wv wv' ∧
    Turns (fun k => k = wb ∨ gv.ownBlock = some k ∨ wv.ownBlock = some k) w w'

theorem own_own_ne {w : World} {B e e' n n' : Nat} {v v' : Value} {xs xs' : List Value} (h : w.ownsRow B e 1 v n xs) (h' : w.ownsRow B e' 1 v' n' xs') (hne : e ≠ e') : ∀ g, v.ownBlock = some g → v'.ownBlock ≠ some g := by
  intro g hg
  rcases h.2 with ⟨rfl, _⟩ | ⟨g', cap, cur, rfl, _, hh, _⟩
  · simp [Value.ownBlock] at hg
  · have e2 : g' = g := by simpa [Value.ownBlock] using hg
    subst e2
    exact own_ne h' (t := e) (cs := cur) hh (Ne.symm hne)

/-- The writer behind the note of the length. -/
theorem wnoted {B wb : Nat} {w w1 : World} {room : Int} {quiet direct : Bool} {gv wv v' : Value} {got writes : List Int} (pn : Nat) (h : Wr B w wb room quiet direct gv wv got writes)
    (hown : w1.ownsRow B 3 1 v' (writes.length + 1) (writes.map (Value.int .i64) ++ [.int .i64 pn])) (ht : Turns (fun k => wv.ownBlock = some k) w w1) :
    Wr B (w1.setCell ⟨wb, 4, none⟩ v') wb room quiet direct gv v' got (writes ++ [(pn : Int)]) ∧ Turns (fun k => k = wb ∨ wv.ownBlock = some k) w (w1.setCell ⟨wb, 4, none⟩ v') := by
  have hr : wv.ownBlock ≠ some wb := own_ne h.notes h.blk (by decide)
  have hb1 := h.blk.turns ht hr
  have hv' : v'.ownBlock ≠ some wb := own_ne hown hb1 (by decide)
  have ht2 : Turns (· = wb) w1 (w1.setCell ⟨wb, 4, none⟩ v') := Turns.setCell (S := (· = wb)) (Turns.refl _ _) (fun _ => rfl) _
  refine ⟨⟨hb1.put 4 v', own_turns (own_turns h.got ht (fun g hg e => own_own_ne h.got h.notes (by decide) g hg e)) ht2 (fun g hg e => own_ne h.got h.blk (by decide) (e ▸ hg)),
    own_turns (by simpa using hown) ht2 (fun g hg e => hv' (e ▸ hg)), h.base⟩, (ht.mono (fun _ _ h => .inr h)).trans ht2 (fun _ _ h => .inl h)⟩

/-- The writer behind the bytes. -/
theorem wgot {B wb : Nat} {w w1 : World} {room : Int} {quiet direct : Bool} {gv wv v' : Value} {got writes bs : List Int} (h : Wr B w wb room quiet direct gv wv got writes)
    (hown : w1.ownsRow B 5 1 v' (got.length + bs.length) (got.map (Value.int .u8) ++ bs.map (Value.int .u8))) (ht : Turns (fun k => gv.ownBlock = some k) w w1) :
    Wr B (w1.setCell ⟨wb, 3, none⟩ v') wb room quiet direct v' wv (got ++ bs) writes ∧ Turns (fun k => k = wb ∨ gv.ownBlock = some k) w (w1.setCell ⟨wb, 3, none⟩ v') := by
  have hr : gv.ownBlock ≠ some wb := own_ne h.got h.blk (by decide)
  have hb1 := h.blk.turns ht hr
  have hv' : v'.ownBlock ≠ some wb := own_ne hown hb1 (by decide)
  have ht2 : Turns (· = wb) w1 (w1.setCell ⟨wb, 3, none⟩ v') := Turns.setCell (S := (· = wb)) (Turns.refl _ _) (fun _ => rfl) _
  refine ⟨⟨hb1.put 3 v', own_turns (by simpa using hown) ht2 (fun g hg e => hv' (e ▸ hg)),
    own_turns (own_turns h.notes ht (fun g hg e => own_own_ne h.notes h.got (by decide) g hg e)) ht2 (fun g hg e => own_ne h.notes h.blk (by decide) (e ▸ hg)), h.base⟩, (ht.mono (fun _ _ h => .inr h)).trans ht2 (fun _ _ h => .inl h)⟩

theorem Sl.take {w : World} {ad : Addr} {n k : Nat} {xs : List Value} (h : Sl w 1 (some ad) n xs) (hk : k ≤ n) : Sl w 1 (some ad) k (xs.take k) := by
  refine ⟨by rw [List.length_take, h.1]; omega, fun h0 => ?_⟩
  obtain ⟨ad', e, hb, hc⟩ := h.2 (by omega)
  refine ⟨ad', e, hb, fun j u hu => hc j u ?_⟩
  rw [List.getElem?_take] at hu
  split at hu
  · exact hu
  · cases hu

theorem takes_le (room : Int) (h n : Nat) : takes room h n ≤ n := Nat.min_le_left _ _

set_option maxHeartbeats 1000000 in
theorem write_any {B wb pcap : Nat} {w : World} {room : Int} {quiet direct : Bool} {gv wv : Value} {got writes bs : List Int} {pad : Addr} {E : Nat → Addr} (h : Wr B w wb room quiet direct gv wv got writes) (hE : Env B E w)
    (hp : Sl w 1 (some pad) bs.length (bs.map (Value.int .u8))) (hpc : bs.length ≤ pcap) (hpm : pcap ≤ 9223372036854775807) (hpw : pad.block ≠ wb) (hpv : wv.ownBlock ≠ some pad.block)
    (hroom : (got.length : Int) ≤ imax room 0) (hr1 : -9223372036854775808 ≤ room) (hr2 : room ≤ 9223372036854775807)
    (hg : got.length ≤ 1000000000) (hb : bs.length ≤ 1000000000) (hw : writes.length ≤ 1000000000) :
    Calls Tryd.prog 37 #[.pointer (some ⟨wb, 0, none⟩), .slice (some pad) bs.length pcap] w (WritePost B wb room quiet direct gv wv got writes bs E w) := by
  have c4 : w.cell? ⟨wb, 4, none⟩ = some wv := h.blk.get 4
  have hbs : B ≤ w.heap.size := by have := h.base; have := h.blk.size_lt; omega
  have hnwv : wv.ownBlock ≠ some wb := own_ne h.notes h.blk (by decide)
  have hBwv : ∀ k, wv.ownBlock = some k → B ≤ k := fun k hk => (h.notes.lt k hk).1
  have hBgv : ∀ k, gv.ownBlock = some k → B ≤ k := fun k hk => (h.got.lt k hk).1
  have hgs : ∀ k, gv.ownBlock = some k → k < w.heap.size := fun k hk => (h.got.lt k hk).2
  obtain ⟨AA, ac, rfl, -, -⟩ := Sl.of_own h.notes
  have H := hide h; have HP := hide hp; have HBW := hide hBwv; have HBG := hide hBgv; have HNA := hide hnwv; have HENV := hide hE; have HPV := hide hpv; have HGS := hide hgs
  clear h hp hBwv hBgv hnwv hE hpv hgs
  go_enter Tryd.func37, Tryd.ntmps37
  go_wp2_with (at_builtin; (with_reducible refine wpList_append_one rfl (.tmp 11) (.tmp 14) 23 rfl B 3 (.int .i64 0) 1 8 Tryd.underlying23 winfo3 rfl (by decide) _ _ _ rfl H.out.notes _ _ rfl rfl ?c1 ?c2 ?c3 hbs rfl ?_))
  case c1 => intro u hu; rw [List.mem_singleton.1 hu]; rfl
  case c2 => unfold maxLen; omega
  case c3 => omega
  intro v1 w1 hown htu hnear
  have hb1 := H.out.blk.turns htu HNA.out
  have c41 := hb1.get 4
  have f41 := hb1.soft 4
  obtain ⟨VA, vc, rfl, -, -⟩ := Sl.of_own hown
  obtain ⟨hR, hT⟩ := wnoted bs.length H.out hown htu
  have HR := hide hR; have HT := hide hT; have HN := hide hnear
  have HP2 := hide (HP.out.turns hT (fun ad e h0 => by
    cases e
    rintro (e | e)
    · exact hpw e
    · exact HPV.out e))
  clear hR hT hnear hown htu hb1 HP
  have HE2 := hide (HENV.out.turns HT.out (fun k hk => by
    rcases hk with rfl | hk
    · exact HR.out.base
    · exact HBW.out k hk))
  obtain ⟨GA, gc, rfl, -, -⟩ := Sl.of_own HR.out.got
  go_wp2_with fail
  generalize w1.setCell ⟨wb, 4, none⟩ (.slice VA (writes.length + 1) vc) = w2 at *
  have c0 := HR.out.blk.get 0
  have c3 := HR.out.blk.get 3
  have hsub : (got.length : Int) ≤ imax room 0 := hroom
  have hwrap : IntKind.i64.wrap (room - (got.length : Int)) = room - (got.length : Int) := IntWalk.i64_in _ (by unfold imax at hsub; split at hsub <;> omega)
  have hm1 : imax (room - (got.length : Int)) 0 = (((room - (got.length : Int)).toNat : Nat) : Int) := by have := imax_toNat (room - (got.length : Int)) 0; simpa using this
  have hm2 : imin (bs.length : Int) (((room - (got.length : Int)).toNat : Nat) : Int) = (takes room got.length bs.length : Nat) := imin_nat _ _
  have hle := takes_le room got.length bs.length
  generalize hn : takes room got.length bs.length = n at *
  have HNN := hide hn
  generalize (room - (got.length : Int)).toNat = rn at *
  clear hn hsub hroom c4 c41 f41 HENV
  go_quiet (fail)
  rename Nat => q1
  go_wp2_with fail
  have hnle : (n : Int) ≤ (bs.length : Int) := by omega
  have hn0 : (0 : Int) ≤ (n : Int) := by omega
  have hncap : (n : Int) ≤ (pcap : Int) := by omega
  have HPn := hide (HP2.out.take hle)
  have hGW : (Value.slice GA got.length gc).ownBlock ≠ some wb := own_ne HR.out.got HR.out.blk (by decide)
  have HGW := hide hGW
  have hbs2 : B ≤ w2.heap.size := by have := HR.out.base; have := HR.out.blk.size_lt; omega
  clear hGW hm1 hm2 hwrap c0
  go_region_law
    ((refine step_append_sl (by rfl) (.tmp 37) (.tmp 40) 22 (by rfl) B 5 (.int .u8 0) 1 1 Tryd.underlying22 winfo5 rfl (by decide) _ _ _ (by rfl) (by exact HR.out.got) (some pad) n pcap _ (by rfl) (fun e => by cases e) (by exact HPn.out) (by rw [← List.map_take]; exact ints_oneCell _ _) (by unfold maxLen; omega) (by omega) hbs2 ?_; intro v3 w3 hown3 htu3 hnear3; have hb3 := hide (htu3.at_ (by exact HR.out.blk) HGW.out); have g3 := hb3.out.get 3; have f3 := hb3.out.soft 3; obtain ⟨A3, k3, rfl, -, -⟩ := Sl.of_own hown3))
  have hlt : (bs.take n).length = n := by rw [List.length_take]; omega
  obtain ⟨hR4, hT4⟩ := wgot (bs := bs.take n) HR.out (by rw [hlt, List.map_take]; exact hown3) (by first | exact htu3 | exact htu3.undrew | exact htu3.undrawn | exact htu3.undrew.undrawn | exact htu3.undrawn.undrawn)
  have HE4 := hide (HE2.out.turns hT4 (fun k hk => by
    rcases hk with rfl | hk
    · exact HR.out.base
    · exact HBG.out k hk))
  have HT4 := hide (Turns.trans (S := fun k => k = wb ∨ (Value.slice GA got.length gc).ownBlock = some k ∨ (Value.slice AA writes.length ac).ownBlock = some k) (HT.out.mono (fun _ _ h => by rcases h with h | h <;> simp [h])) hT4 (fun _ _ h => by rcases h with h | h <;> simp [h]))
  have HR4 := hide hR4
  have HN4 : Hid (Near w (.slice GA got.length gc) (.slice A3 (got.length + n) k3)) := by
    have hs := HT.out.size
    rcases hnear3 with h | h
    · exact .inl h
    · exact .inr ⟨_, h, by simpa using hs⟩
  clear hR4 hT4 hown3 htu3 hnear3 HR HE2 HT hb3 g3 f3 HPn HP2 hlt c3
  generalize w3.setCell ⟨wb, 3, none⟩ (.slice A3 (got.length + n) k3) = w4 at *
  have c1 : w4.cell? ⟨wb, 1, none⟩ = some (.bool quiet) := HR4.out.blk.get 1
  have hnot : ∀ (x : Bool) (w : World), (Op.unary .not (.bool x)).run Tryd.prog w = .ok (.bool (!x)) w := fun _ _ => rfl
  have k4 := nErrs_ge
  have e2 : w4.cell? ⟨2, 0, none⟩ = some (.iface 78 (.pointer (some (E 2)))) := HE4.out.cell 2 (by omega)
  have fin : ∀ (m code : Nat), (code = if n < bs.length ∧ quiet = false then 3 else 0) →
      WritePost B wb room quiet direct (.slice GA got.length gc) (.slice AA writes.length ac) got writes bs E w (.returned (.tuple #[.int .i64 (n : Nat), errVal E code])) (w4.drewN m) := by
    intro m code hcode
    unfold WritePost
    rw [HNN.out, ← hcode]
    exact ⟨_, _, rfl, HR4.out.drawn _, HN4.out, HN.out, HT4.out.drawn _⟩
  have HF := hide fin
  clear fin
  by_cases hlt : n < bs.length
  · have hlt' : (n : Int) < (bs.length : Int) := by omega
    cases quiet with
    | false =>
      go_wp2_with fail
      go_quiet (fail)
      rename Nat => q2
      go_wp2
      go_ret2
      exact HF.out _ 3 (by simp [hlt])
    | true =>
      go_wp2
      go_ret2
      exact HF.out 0 0 (by simp)
  · have hge : (bs.length : Int) ≤ (n : Int) := by omega
    go_wp2
    go_ret2
    exact HF.out 0 0 (by rw [if_neg (by omega)])

end Go.Proofs.YtdcdbbcphkhmeaaDoor
