/-
  What (*reader).end and (*reader).Read of the thin package do: a Read hands out what Src.read says, notes the buffer's length, and turns the buffer, the reader and its notes alone.
-/
import Derived.Test.YtdcdbbcphkhmeaaDoorErrs
import Derived.Test.YtdcdbbcphkhmeaaDoorGhost
import Derived.RegionTactic
namespace Go.Proofs.YtdcdbbcphkhmeaaDoor
open Go.RowKit
set_option linter.unusedVariables false
set_option maxRecDepth 100000
attribute [local go_sem 10000] run_imin run_imax

theorem info5 : (Tryd.prog.info? 5).map (fun i => (i.zero, i.size, i.bytes)) = some (some (.int .u8 0), 1, 1) := by kernel_rfl
theorem info3 : (Tryd.prog.info? 3).map (fun i => (i.zero, i.size, i.bytes)) = some (some (.int .i64 0), 1, 8) := by kernel_rfl
theorem size5 : (Tryd.prog.info? 5).map (·.size) = some 1 := by kernel_rfl

/-- A reader in memory: its block, and the rows of its data, pieces and notes. -/
structure Rd (B : Nat) (w : World) (rb : Nat) (s : Src) (dv pv av : Value) (at_ pc : Nat) (asked : List Int) : Prop where
  blk : At w rb 56 #[dv, pv, .bool s.together, .bool s.broken, .bool s.direct, .int .i64 at_, .int .i64 pc, av]
  data : w.ownsRow B 5 1 dv s.data.length (s.data.map (Value.int .u8))
  pieces : w.ownsRow B 3 1 pv s.pieces.length (s.pieces.map (Value.int .i64))
  notes : w.ownsRow B 3 1 av asked.length (asked.map (Value.int .i64))
  apart : ∀ g, av.ownBlock = some g → pv.ownBlock ≠ some g
  base : B ≤ rb

theorem Rd.turns {B rb at_ pc : Nat} {w w' : World} {s : Src} {dv pv av : Value} {asked : List Int} {S : Nat → Prop} (h : Rd B w rb s dv pv av at_ pc asked) (ht : Turns S w w')
    (h1 : ¬ S rb) (h2 : ∀ g, dv.ownBlock = some g → ¬ S g) (h3 : ∀ g, pv.ownBlock = some g → ¬ S g) (h4 : ∀ g, av.ownBlock = some g → ¬ S g) : Rd B w' rb s dv pv av at_ pc asked :=
  ⟨h.blk.turns ht h1, own_turns h.data ht h2, own_turns h.pieces ht h3, own_turns h.notes ht h4, h.apart, h.base⟩

theorem Rd.drawn {B rb at_ pc : Nat} {w : World} {s : Src} {dv pv av : Value} {asked : List Int} (h : Rd B w rb s dv pv av at_ pc asked) (n : Nat) : Rd B (w.drewN n) rb s dv pv av at_ pc asked :=
  ⟨h.blk, h.data, h.pieces, h.notes, h.apart, h.base⟩

theorem end_any {B rb at_ pc : Nat} {w : World} {s : Src} {dv pv av : Value} {E : Nat → Addr} (h : At w rb 56 #[dv, pv, .bool s.together, .bool s.broken, .bool s.direct, .int .i64 at_, .int .i64 pc, av]) (hE : Env B E w) :
    Calls Tryd.prog 32 #[.pointer (some ⟨rb, 0, none⟩)] w fun e w' => e = .returned (errVal E s.endCode) ∧ w = w' := by
  have c3 : w.cell? ⟨rb, 3, none⟩ = some (.bool s.broken) := h.get 3
  have k4 := nErrs_ge
  have e0 : w.cell? ⟨0, 0, none⟩ = some (.iface 78 (.pointer (some (E 0)))) := hE.cell 0 (by omega)
  have e1 : w.cell? ⟨1, 0, none⟩ = some (.iface 78 (.pointer (some (E 1)))) := hE.cell 1 (by omega)
  clear h hE
  cases hb : s.broken with
  | true =>
    have e : s.endCode = 2 := by simp [Src.endCode, hb]
    rw [e]
    rw [hb] at c3
    clear e hb
    go_enter Tryd.func32, Tryd.ntmps32
    go_wp2
    go_ret
    exact ⟨rfl, rfl⟩
  | false =>
    have e : s.endCode = 1 := by simp [Src.endCode, hb]
    rw [e]
    rw [hb] at c3
    clear e hb
    go_enter Tryd.func32, Tryd.ntmps32
    go_wp2
    go_ret
    exact ⟨rfl, rfl⟩

/-- What a Read leaves. -/
def ReadPost (B rb pb : Nat) (s : Src) (dv pv av : Value) (at_ pc : Nat) (asked : List Int) (pn : Nat) (pcur : List Value) (E : Nat → Addr) (w : World) (e : Ending) (w' : World) : Prop :=
  ∃ av', e = .returned (.tuple #[.int .i64 ((s.read at_ pc pn).bytes.length : Nat), errVal E (s.read at_ pc pn).code]) ∧
    Rd B w' rb s dv pv av' (s.read at_ pc pn).at_ (s.read at_ pc pn).pc (asked ++ [(pn : Int)]) ∧ Near w av av' ∧
    Turns (fun k => k = pb ∨ k = rb ∨ av.ownBlock = some k) w w' ∧ At w' pb 5 (splice pcur 0 ((s.read at_ pc pn).bytes.map (Value.int .u8))).toArray

theorem add0 (g j : Nat) : (⟨g, 0, none⟩ : Addr).add j = ⟨g, j, none⟩ := by unfold Addr.add; split <;> simp_all

theorem splice_nil (l : List Value) : splice l 0 [] = l := by simp [splice]

/-- The reader behind the note of the buffer's length. -/
theorem noted {B rb at_ pc : Nat} {w w1 : World} {s : Src} {dv pv av v' : Value} {asked : List Int} (pn : Nat) (h : Rd B w rb s dv pv av at_ pc asked)
    (hown : w1.ownsRow B 3 1 v' (asked.length + 1) (asked.map (Value.int .i64) ++ [.int .i64 pn])) (ht : Turns (fun k => av.ownBlock = some k) w w1) (hn : Near w av v') :
    Rd B (w1.setCell ⟨rb, 7, none⟩ v') rb s dv pv v' at_ pc (asked ++ [(pn : Int)]) ∧ Turns (fun k => k = rb ∨ av.ownBlock = some k) w (w1.setCell ⟨rb, 7, none⟩ v') := by
  have hr : av.ownBlock ≠ some rb := own_ne h.notes h.blk (by decide)
  have hd : ∀ g, dv.ownBlock = some g → av.ownBlock ≠ some g := fun g hg e => by
    rcases h.data.2 with ⟨rfl, _⟩ | ⟨g', cap, cur, rfl, _, hh, _⟩
    · simp [Value.ownBlock] at hg
    · have e2 : g' = g := by simpa [Value.ownBlock] using hg
      subst e2
      exact own_ne h.notes (t := 5) (cs := cur) hh (by decide) e
  have hb1 := h.blk.turns ht hr
  have hsz := ht.size
  have hne1 : ∀ {v : Value} {e : TypeId} {n : Nat} {xs : List Value}, w.ownsRow B e 1 v n xs → e ≠ 56 → ∀ g, v.ownBlock = some g → g ≠ rb := fun hv he g hg e2 => by
    subst e2
    exact own_ne hv h.blk he hg
  have hv' : v'.ownBlock ≠ some rb := own_ne hown hb1 (by decide)
  have ht2 : Turns (· = rb) w1 (w1.setCell ⟨rb, 7, none⟩ v') := Turns.setCell (S := (· = rb)) (Turns.refl _ _) (fun _ => rfl) _
  refine ⟨⟨hb1.put 7 v', own_turns (own_turns h.data ht (fun g hg e => hd g hg e)) ht2 (hne1 h.data (by decide)), own_turns (own_turns h.pieces ht (fun g hg e => h.apart g e hg)) ht2 (hne1 h.pieces (by decide)),
    own_turns (by simpa using hown) ht2 (fun g hg e => hv' (e ▸ hg)), fun g hg e => ?_, h.base⟩, (ht.mono (fun _ _ h => .inr h)).trans ht2 (fun _ _ h => .inl h)⟩
  refine (Near.ne hn (g := g) ?_ ?_) hg
  · exact (h.pieces.lt g e).2
  · exact fun hh => h.apart g hh e

theorem read_zero {B rb at_ pc pb pcap : Nat} {w : World} {s : Src} {dv pv av : Value} {asked : List Int} {E : Nat → Addr} {pcur : List Value} (h : Rd B w rb s dv pv av at_ pc asked)
    (hp : At w pb 5 pcur.toArray) (ha : asked.length ≤ 1000000000) :
    Calls Tryd.prog 31 #[.pointer (some ⟨rb, 0, none⟩), .slice (some ⟨pb, 0, none⟩) 0 pcap] w (ReadPost B rb pb s dv pv av at_ pc asked 0 pcur E w) := by
  have c7 : w.cell? ⟨rb, 7, none⟩ = some av := h.blk.get 7
  have hbs : B ≤ w.heap.size := by have := h.base; have := h.blk.size_lt; omega
  have hne : pb ≠ rb := hp.apart h.blk (by decide)
  have hnav : av.ownBlock ≠ some rb := own_ne h.notes h.blk (by decide)
  have hnpb : av.ownBlock ≠ some pb := own_ne h.notes hp (by decide)
  have hBav : ∀ k, av.ownBlock = some k → B ≤ k := fun k hk => (h.notes.lt k hk).1
  obtain ⟨AA, ac, rfl, -, -⟩ := Sl.of_own h.notes
  have H := hide h; have HP := hide hp; have HB := hide hBav; have HNA := hide hnav; have HNP := hide hnpb
  clear h hp hBav hnav hnpb
  go_enter Tryd.func31, Tryd.ntmps31
  go_wp2_with (at_builtin; (with_reducible refine wpList_append_one rfl (.tmp 11) (.tmp 14) 23 rfl B 3 (.int .i64 0) 1 8 Tryd.underlying23 info3 rfl (by decide) _ _ _ rfl H.out.notes _ _ rfl rfl ?c1 ?c2 ?c3 hbs rfl ?_))
  case c1 => intro u hu; rw [List.mem_singleton.1 hu]; rfl
  case c2 => unfold maxLen; omega
  case c3 => omega
  intro v1 w1 hown htu hnear
  have hb1 := H.out.blk.turns htu HNA.out
  have c71 := hb1.get 7
  have f71 := hb1.soft 7
  obtain ⟨VA, vc, rfl, -, -⟩ := Sl.of_own hown
  obtain ⟨hR, hT⟩ := noted 0 H.out hown htu hnear
  have HR := hide hR; have HT := hide hT; have HN := hide hnear
  have HP2 := hide ((HP.out.turns htu HNP.out).away (p := ⟨rb, 7, none⟩) hne.symm (.slice VA (asked.length + 1) vc))
  clear hR hT hnear hown htu hb1 H HP
  go_wp2
  go_ret2
  have er : s.read at_ pc 0 = ⟨[], 0, at_, pc⟩ := by simp [Src.read]
  unfold ReadPost
  rw [er]
  exact ⟨_, rfl, HR.out, HN.out, HT.out.mono (fun _ _ h => .inr h), by simpa [splice_nil] using HP2.out⟩

theorem read_end {B rb pc pb pn pcap : Nat} {w : World} {s : Src} {dv pv av : Value} {asked : List Int} {E : Nat → Addr} {pcur : List Value} (h : Rd B w rb s dv pv av s.data.length pc asked) (hE : Env B E w)
    (hp : At w pb 5 pcur.toArray) (ha : asked.length ≤ 1000000000) (hpn : 0 < pn) :
    Calls Tryd.prog 31 #[.pointer (some ⟨rb, 0, none⟩), .slice (some ⟨pb, 0, none⟩) pn pcap] w (ReadPost B rb pb s dv pv av s.data.length pc asked pn pcur E w) := by
  have c7 : w.cell? ⟨rb, 7, none⟩ = some av := h.blk.get 7
  have hbs : B ≤ w.heap.size := by have := h.base; have := h.blk.size_lt; omega
  have hne : pb ≠ rb := hp.apart h.blk (by decide)
  have hnav : av.ownBlock ≠ some rb := own_ne h.notes h.blk (by decide)
  have hnpb : av.ownBlock ≠ some pb := own_ne h.notes hp (by decide)
  have hBav : ∀ k, av.ownBlock = some k → B ≤ k := fun k hk => (h.notes.lt k hk).1
  obtain ⟨AA, ac, rfl, -, -⟩ := Sl.of_own h.notes
  have H := hide h; have HP := hide hp; have HB := hide hBav; have HNA := hide hnav; have HNP := hide hnpb
  clear h hp hBav hnav hnpb
  have HEnv := hide hE
  clear hE
  have hpn1 : ((pn : Int) == 0) = false := by simp; omega
  go_enter Tryd.func31, Tryd.ntmps31
  go_wp2_with (at_builtin; (with_reducible refine wpList_append_one rfl (.tmp 11) (.tmp 14) 23 rfl B 3 (.int .i64 0) 1 8 Tryd.underlying23 info3 rfl (by decide) _ _ _ rfl H.out.notes _ _ rfl rfl ?c1 ?c2 ?c3 hbs rfl ?_))
  case c1 => intro u hu; rw [List.mem_singleton.1 hu]; rfl
  case c2 => unfold maxLen; omega
  case c3 => omega
  intro v1 w1 hown htu hnear
  have hb1 := H.out.blk.turns htu HNA.out
  have c71 := hb1.get 7
  have f71 := hb1.soft 7
  obtain ⟨VA, vc, rfl, -, -⟩ := Sl.of_own hown
  obtain ⟨hR, hT⟩ := noted pn H.out hown htu hnear
  have HR := hide hR; have HT := hide hT; have HN := hide hnear
  have HP2 := hide ((HP.out.turns htu HNP.out).away (p := ⟨rb, 7, none⟩) hne.symm (.slice VA (asked.length + 1) vc))
  clear hR hT hnear hown htu hb1 H HP
  have HE2 := hide (HEnv.out.turns HT.out (fun k hk => by
    rcases hk with rfl | hk
    · exact HR.out.base
    · exact HB.out k hk))
  obtain ⟨DA, dc, rfl, -, -⟩ := Sl.of_own HR.out.data
  go_wp2_with fail
  generalize w1.setCell ⟨rb, 7, none⟩ (.slice VA (asked.length + 1) vc) = w2 at *
  have c0 := HR.out.blk.get 0
  have c5 := HR.out.blk.get 5
  clear c7 c71 f71 HEnv
  go_wp2_with fail
  go_quiet (fail)
  go_wp2_with fail
  refine (end_any (HR.out.blk.drawn _) (HE2.out.drawn _)).mono ?_
  rintro e w3 ⟨rfl, rfl⟩
  go_wp2
  go_ret2
  have er : s.read s.data.length pc pn = ⟨[], s.endCode, s.data.length, pc⟩ := by simp [Src.read]; omega
  unfold ReadPost
  rw [er]
  exact ⟨_, rfl, HR.out.drawn _, HN.out, (HT.out.mono (fun _ _ h => .inr h)).drawn _, by simpa [splice_nil] using HP2.out.drawn _⟩

/-- What the bytes of a read leave in the reader and in the buffer. -/
theorem handed {B rb at_ pc pb pc' : Nat} {w w1 : World} {s : Src} {dv pv av : Value} {asked : List Int} {pcur : List Value} (h : Rd B w rb s dv pv av at_ pc asked)
    (hb : At w1 rb 56 #[dv, pv, .bool s.together, .bool s.broken, .bool s.direct, .int .i64 at_, .int .i64 pc', av])
    (ht : Turns (fun k => k = rb ∨ k = pb) w w1) (hpb : dv.ownBlock ≠ some pb) (hp : At w pb 5 pcur.toArray) (a' : Nat) :
    Rd B (w1.setCell ⟨rb, 5, none⟩ (.int .i64 a')) rb s dv pv av a' pc' asked ∧ Turns (fun k => k = rb ∨ k = pb) w (w1.setCell ⟨rb, 5, none⟩ (.int .i64 a')) := by
  have ht2 : Turns (fun k => k = rb ∨ k = pb) w (w1.setCell ⟨rb, 5, none⟩ (.int .i64 a')) := ht.setCell (fun _ => .inl rfl) _
  refine ⟨⟨hb.put 5 _, own_turns h.data ht2 ?_, own_turns h.pieces ht2 ?_, own_turns h.notes ht2 ?_, h.apart, h.base⟩, ht2⟩
  · rintro g hg (e | e)
    · subst e; exact own_ne h.data h.blk (by decide) hg
    · subst e; exact hpb hg
  · rintro g hg (e | e)
    · subst e; exact own_ne h.pieces h.blk (by decide) hg
    · subst e; exact own_ne h.pieces hp (by decide) hg
  · rintro g hg (e | e)
    · subst e; exact own_ne h.notes h.blk (by decide) hg
    · subst e; exact own_ne h.notes hp (by decide) hg

set_option maxHeartbeats 1000000 in
theorem read_piece {B rb at_ pc pb pn pcap : Nat} {w : World} {s : Src} {dv pv av : Value} {asked : List Int} {E : Nat → Addr} {pcur : List Value} (h : Rd B w rb s dv pv av at_ pc asked) (hE : Env B E w)
    (hp : At w pb 5 pcur.toArray) (ha : asked.length ≤ 1000000000) (hpn : 0 < pn) (hpl : pn ≤ pcur.length) (hlt : at_ < s.data.length) (hd : s.data.length ≤ 1000000000) (hpp : s.pieces.length ≤ 1000000000)
    (hpb : dv.ownBlock ≠ some pb) (hBp : B ≤ pb) (hpc : pc < s.pieces.length) :
    Calls Tryd.prog 31 #[.pointer (some ⟨rb, 0, none⟩), .slice (some ⟨pb, 0, none⟩) pn pcap] w (ReadPost B rb pb s dv pv av at_ pc asked pn pcur E w) := by
  have c7 : w.cell? ⟨rb, 7, none⟩ = some av := h.blk.get 7
  have hbs : B ≤ w.heap.size := by have := h.base; have := h.blk.size_lt; omega
  have hne : pb ≠ rb := hp.apart h.blk (by decide)
  have hnav : av.ownBlock ≠ some rb := own_ne h.notes h.blk (by decide)
  have hnpb : av.ownBlock ≠ some pb := own_ne h.notes hp (by decide)
  have hBav : ∀ k, av.ownBlock = some k → B ≤ k := fun k hk => (h.notes.lt k hk).1
  obtain ⟨AA, ac, rfl, -, -⟩ := Sl.of_own h.notes
  have H := hide h; have HP := hide hp; have HB := hide hBav; have HNA := hide hnav; have HNP := hide hnpb
  clear h hp hBav hnav hnpb
  have HEnv := hide hE
  have HDP := hide hpb
  clear hE hpb
  have hpn1 : ((pn : Int) == 0) = false := by simp; omega
  go_enter Tryd.func31, Tryd.ntmps31
  go_wp2_with (at_builtin; (with_reducible refine wpList_append_one rfl (.tmp 11) (.tmp 14) 23 rfl B 3 (.int .i64 0) 1 8 Tryd.underlying23 info3 rfl (by decide) _ _ _ rfl H.out.notes _ _ rfl rfl ?c1 ?c2 ?c3 hbs rfl ?_))
  case c1 => intro u hu; rw [List.mem_singleton.1 hu]; rfl
  case c2 => unfold maxLen; omega
  case c3 => omega
  intro v1 w1 hown htu hnear
  have hb1 := H.out.blk.turns htu HNA.out
  have c71 := hb1.get 7
  have f71 := hb1.soft 7
  obtain ⟨VA, vc, rfl, -, -⟩ := Sl.of_own hown
  obtain ⟨hR, hT⟩ := noted pn H.out hown htu hnear
  have HR := hide hR; have HT := hide hT; have HN := hide hnear
  have HP2 := hide ((HP.out.turns htu HNP.out).away (p := ⟨rb, 7, none⟩) hne.symm (.slice VA (asked.length + 1) vc))
  clear hR hT hnear hown htu hb1 H HP
  have HE2 := hide (HEnv.out.turns HT.out (fun k hk => by
    rcases hk with rfl | hk
    · exact HR.out.base
    · exact HB.out k hk))
  rcases HR.out.data.2 with ⟨_, h0⟩ | ⟨dg, dc, dcur, rfl, hdB, hdg, hdc, hdm, hdcs, htake⟩
  · omega
  rcases HR.out.pieces.2 with ⟨_, h0⟩ | ⟨pg, pcp, ppcur, rfl, hpB, hpg, hpgc, hpm, hpcs, hptake⟩
  · omega
  unfold maxLen at hdm hpm
  have HX := hide (And.intro hdg (And.intro hdcs (And.intro htake (And.intro hpg (And.intro hpcs hptake)))))
  clear hdg hdcs htake hpg hpcs hptake
  go_wp2_with fail
  generalize w1.setCell ⟨rb, 7, none⟩ (.slice VA (asked.length + 1) vc) = w2 at *
  have c0 := HR.out.blk.get 0
  have c1 := HR.out.blk.get 1
  have c5 := HR.out.blk.get 5
  have c6 := HR.out.blk.get 6
  have f6 := HR.out.blk.soft 6
  have cz : w2.cell? ⟨pg, pc, none⟩ = some (.int .i64 s.pieces[pc]) := by
    have := HR.out.pieces.cells (g := pg) rfl pc (.int .i64 s.pieces[pc]) (by simp [hpc])
    rwa [add0] at this
  clear c7 c71 f71 HEnv
  have hat1 : ((at_ : Int) == (s.data.length : Int)) = false := by simp; omega
  have hsub : (s.data.length : Int) - (at_ : Int) = ((s.data.length - at_ : Nat) : Int) := by omega
  have hm1 : imin (pn : Int) ((s.data.length : Int) - (at_ : Int)) = (Nat.min pn (s.data.length - at_) : Nat) := by rw [hsub]; exact imin_nat _ _
  have hm2 : imax s.pieces[pc] 1 = (Nat.max s.pieces[pc].toNat 1 : Nat) := imax_toNat _ 1
  have hm3 : imin ((Nat.min pn (s.data.length - at_) : Nat) : Int) ((Nat.max s.pieces[pc].toNat 1 : Nat) : Int) = (s.amount at_ pc pn : Nat) := by
    rw [imin_nat]; unfold Src.amount; rw [dif_pos hpc]
  generalize s.pieces[pc] = z at *
  generalize Nat.min pn (s.data.length - at_) = n0 at *
  generalize Nat.max z.toNat 1 = zm at *
  have hal := s.amount_le at_ pc pn
  generalize hn : s.amount at_ pc pn = n at *
  have HNN := hide hn
  clear hn hsub
  obtain ⟨hal1, hal2⟩ := hal
  go_wp2_with fail
  go_quiet (fail)
  rename Nat => q1
  go_wp2_with fail
  go_quiet (fail)
  rename Nat => q2
  go_wp2_with fail
  go_quiet (fail)
  rename Nat => q3
  go_wp2_with fail
  have hpi : (pc : Int) < (s.pieces.length : Int) := by omega
  have hp0 : (0 : Int) ≤ (pc : Int) := by omega
  go_quiet (fail)
  rename Nat => q4
  go_wp2_with fail
  have hb9 := (HR.out.blk.drawn (q1 + q2 + q3 + q4)).put 6 (.int .i64 ((pc : Int) + 1))
  have ht9 : Turns (fun k => k = rb ∨ k = pb) w2 ((w2.drewN (q1 + q2 + q3 + q4)).setCell ⟨rb, 6, none⟩ (.int .i64 ((pc : Int) + 1))) := Turns.setCell ((Turns.refl _ _).drawn _) (fun _ => .inl rfl) _
  have HP9' := (HP2.out.drawn (q1 + q2 + q3 + q4)).away (p := ⟨rb, 6, none⟩) hne.symm (.int .i64 ((pc : Int) + 1))
  generalize (w2.drewN (q1 + q2 + q3 + q4)).setCell ⟨rb, 6, none⟩ (.int .i64 ((pc : Int) + 1)) = w9 at *
  have hal2' : at_ + n ≤ s.data.length := by omega
  have hR9 := own_turns HR.out.data ht9 (fun g hg e => by
    rcases e with e | e
    · subst e; exact own_ne HR.out.data HR.out.blk (by decide) hg
    · subst e; exact HDP.out hg)
  obtain ⟨cs, hcs⟩ : ∃ cs : List Value, cs = ((s.data.drop at_).take n).map (Value.int .u8) := ⟨_, rfl⟩
  have HL : Hid (cs.length = n) := by
    show cs.length = n
    rw [hcs, List.length_map, List.length_take, List.length_drop]; omega
  have HO : Hid (∀ v ∈ cs, v.oneCell' = true) := by rw [hcs]; exact ints_oneCell _ _
  have HS : Hid (∀ j v, cs[j]? = some v → w9.cell? ((⟨dg, at_, none⟩ : Addr).add j) = some v) := by
    intro j v hv
    rw [show (⟨dg, at_, none⟩ : Addr).add j = (⟨dg, 0, none⟩ : Addr).add (at_ + j) by unfold Addr.add; simp only; split <;> split <;> simp_all <;> omega]
    refine hR9.cells (g := dg) rfl _ _ ?_
    rw [hcs, List.getElem?_map, List.getElem?_take] at hv
    split at hv
    · rw [List.getElem?_map]
      rw [List.getElem?_drop] at hv
      exact hv
    · cases hv
  have HCS := hide hcs
  have HB9 := hide hb9
  have HP9 := hide (show At w9 pb 5 pcur.toArray from HP9')
  have d0 := hb9.get 0
  have d5 := hb9.get 5
  have HT9 := hide ht9
  clear hcs hb9 ht9 hR9 c0 c1 c5 c6 f6 cz hm1 hm2 hm3
  have s1 : (0 : Int) ≤ (at_ : Int) := by omega
  have s2 : (at_ : Int) ≤ (at_ : Int) + (n : Int) := by omega
  have s3 : (at_ : Int) + (n : Int) ≤ (dc : Int) := by omega
  have s4 : (0 : Int) ≤ (at_ : Int) + (n : Int) := by omega
  have s5 : ((at_ : Int) + (n : Int)).toNat = at_ + n := by omega
  have s6 : IntKind.i64.wrap ((at_ : Int) + (n : Int)) = (at_ : Int) + (n : Int) := IntWalk.i64_in _ (by omega)
  have s7 : ¬ dc = at_ := by omega
  go_region_held3 (fun w' => w'.cell? ⟨rb, 0, none⟩ = some (.slice (some ⟨dg, 0, none⟩) s.data.length dc) ∧ w'.cell? ⟨rb, 5, none⟩ = some (.int .i64 at_)) (go_keep)
    ((refine step_copy_at (by rfl) (.tmp 80) (.tmp 96) 22 22 (by rfl) 5 Tryd.underlying22 size5 _ _ _ _ _ _ (by rfl) (by rfl) pb 0 pcur 5 (by exact HP9.out) cs (by rw [HL.out]; simp only [Nat.min_def]; split <;> omega) (by exact fun _ => ⟨rfl, ⟨dg, at_, none⟩, by first | rfl | exact if_neg s7, HS.out⟩) (by rw [HL.out]; omega) HO.out ?_; intro w10 hat10 htu10; have hb10 := hide (htu10.at_ (by exact HB9.out) hne.symm); have g0 := hb10.out.get 0; have g5 := hb10.out.get 5))
  have f5 := hb10.out.soft 5
  have HA10 := hide hat10
  have HT10 := hide htu10
  clear s1 s2 s3 s4 s5 s6 s7 hat10 htu10 d0 d5
  go_wp2_with fail
  have hT2 : Turns (fun k => k = rb ∨ k = pb) w2 w10 := HT9.out.trans (S := fun k => k = rb ∨ k = pb) (T := (· = pb)) (by first | exact HT10.out.undrew | exact HT10.out.undrawn) (fun _ _ h => .inr h)
  obtain ⟨hR11, hT11⟩ := handed (pc' := (pc + 1)) HR.out (by exact hb10.out) hT2 HDP.out HP2.out (at_ + n)
  have HE11 := hide (HE2.out.turns hT11 (fun k hk => by
    rcases hk with rfl | rfl
    · exact HR.out.base
    · exact hBp))
  have HA11 := hide (HA10.out.away (p := ⟨rb, 5, none⟩) hne.symm (.int .i64 ((at_ + n : Nat) : Int)))
  have esum : (at_ : Int) + (n : Int) = ((at_ + n : Nat) : Int) := by omega
  rw [esum]
  have HT11 := hide (Turns.trans (S := fun k => k = pb ∨ k = rb ∨ (Value.slice AA asked.length ac).ownBlock = some k) (HT.out.mono (fun _ _ h => .inr h)) hT11 (fun _ _ h => by rcases h with h | h <;> simp [h]))
  have HR11 := hide hR11
  clear hT2 hT11 hR11 HT9 HT10 HT HB9 HP9 HA10 hb10 HE2 HP2 HR g0 g5 f5 esum HS HO
  generalize w10.setCell ⟨rb, 5, none⟩ (.int .i64 ((at_ + n : Nat) : Int)) = w11 at *
  have c0 := HR11.out.blk.get 0
  have c2 := HR11.out.blk.get 2
  have c5 := HR11.out.blk.get 5
  have HLT := hide hlt
  have HPN := hide hpn
  have fin : ∀ (W : World) (m code : Nat), W = w11.drewN m → (code = if at_ + n = s.data.length ∧ s.together = true then s.endCode else 0) →
      ReadPost B rb pb s (.slice (some ⟨dg, 0, none⟩) s.data.length dc) (.slice (some ⟨pg, 0, none⟩) s.pieces.length pcp) (.slice AA asked.length ac) at_ pc asked pn pcur E w (.returned (.tuple #[.int .i64 (n : Nat), errVal E code])) W := by
    intro W m code hW hcode
    subst hW
    have er : s.read at_ pc pn = ⟨(s.data.drop at_).take n, code, at_ + n, (pc + 1)⟩ := by
      unfold Src.read
      rw [if_neg (by omega), if_neg (by omega), HNN.out, hcode]
      simp [hpc]
    unfold ReadPost
    rw [er]
    have hlen : ((s.data.drop at_).take n).length = n := by rw [List.length_take, List.length_drop]; omega
    refine ⟨_, by simp only [hlen], HR11.out.drawn _, HN.out, HT11.out.drawn _, ?_⟩
    have := HA11.out.drawn m
    rw [HCS.out] at this
    exact this
  have HF := hide fin
  clear fin
  by_cases he : at_ + n = s.data.length
  · rw [he] at c5
    cases htg : s.together with
    | true =>
      rw [htg] at c2
      go_quiet (fail)
      rename Nat => q5
      go_wp2_with fail
      refine (end_any (HR11.out.blk.drawn _) (HE11.out.drawn _)).mono ?_
      rintro e w12 ⟨rfl, rfl⟩
      go_wp2
      go_ret2
      exact HF.out _ _ _ rfl (by rw [if_pos ⟨he, htg⟩])
    | false =>
      rw [htg] at c2
      go_quiet (fail)
      rename Nat => q5
      go_wp2
      go_ret2
      exact HF.out _ _ 0 rfl (by rw [if_neg (by rw [htg]; simp)])
  · have hlt2 : at_ + n < s.data.length := by omega
    have hg : ((at_ : Int) + (n : Int) == (s.data.length : Int)) = false := by simp; omega
    go_quiet (fail)
    rename Nat => q5
    go_wp2
    go_ret2
    exact HF.out _ _ 0 rfl (by rw [if_neg (by omega)])

set_option maxHeartbeats 1000000 in
theorem read_free {B rb at_ pc pb pn pcap : Nat} {w : World} {s : Src} {dv pv av : Value} {asked : List Int} {E : Nat → Addr} {pcur : List Value} (h : Rd B w rb s dv pv av at_ pc asked) (hE : Env B E w)
    (hp : At w pb 5 pcur.toArray) (ha : asked.length ≤ 1000000000) (hpn : 0 < pn) (hpl : pn ≤ pcur.length) (hlt : at_ < s.data.length) (hd : s.data.length ≤ 1000000000) (hpp : s.pieces.length ≤ 1000000000)
    (hpb : dv.ownBlock ≠ some pb) (hBp : B ≤ pb) (hpc : ¬ pc < s.pieces.length) :
    Calls Tryd.prog 31 #[.pointer (some ⟨rb, 0, none⟩), .slice (some ⟨pb, 0, none⟩) pn pcap] w (ReadPost B rb pb s dv pv av at_ pc asked pn pcur E w) := by
  have c7 : w.cell? ⟨rb, 7, none⟩ = some av := h.blk.get 7
  have hbs : B ≤ w.heap.size := by have := h.base; have := h.blk.size_lt; omega
  have hne : pb ≠ rb := hp.apart h.blk (by decide)
  have hnav : av.ownBlock ≠ some rb := own_ne h.notes h.blk (by decide)
  have hnpb : av.ownBlock ≠ some pb := own_ne h.notes hp (by decide)
  have hBav : ∀ k, av.ownBlock = some k → B ≤ k := fun k hk => (h.notes.lt k hk).1
  obtain ⟨AA, ac, rfl, -, -⟩ := Sl.of_own h.notes
  have H := hide h; have HP := hide hp; have HB := hide hBav; have HNA := hide hnav; have HNP := hide hnpb
  clear h hp hBav hnav hnpb
  have HEnv := hide hE
  have HDP := hide hpb
  clear hE hpb
  have hpn1 : ((pn : Int) == 0) = false := by simp; omega
  go_enter Tryd.func31, Tryd.ntmps31
  go_wp2_with (at_builtin; (with_reducible refine wpList_append_one rfl (.tmp 11) (.tmp 14) 23 rfl B 3 (.int .i64 0) 1 8 Tryd.underlying23 info3 rfl (by decide) _ _ _ rfl H.out.notes _ _ rfl rfl ?c1 ?c2 ?c3 hbs rfl ?_))
  case c1 => intro u hu; rw [List.mem_singleton.1 hu]; rfl
  case c2 => unfold maxLen; omega
  case c3 => omega
  intro v1 w1 hown htu hnear
  have hb1 := H.out.blk.turns htu HNA.out
  have c71 := hb1.get 7
  have f71 := hb1.soft 7
  obtain ⟨VA, vc, rfl, -, -⟩ := Sl.of_own hown
  obtain ⟨hR, hT⟩ := noted pn H.out hown htu hnear
  have HR := hide hR; have HT := hide hT; have HN := hide hnear
  have HP2 := hide ((HP.out.turns htu HNP.out).away (p := ⟨rb, 7, none⟩) hne.symm (.slice VA (asked.length + 1) vc))
  clear hR hT hnear hown htu hb1 H HP
  have HE2 := hide (HEnv.out.turns HT.out (fun k hk => by
    rcases hk with rfl | hk
    · exact HR.out.base
    · exact HB.out k hk))
  rcases HR.out.data.2 with ⟨_, h0⟩ | ⟨dg, dc, dcur, rfl, hdB, hdg, hdc, hdm, hdcs, htake⟩
  · omega
  obtain ⟨PA, pcp, rfl, -, -⟩ := Sl.of_own HR.out.pieces
  unfold maxLen at hdm
  clear hdg hdcs htake
  go_wp2_with fail
  generalize w1.setCell ⟨rb, 7, none⟩ (.slice VA (asked.length + 1) vc) = w2 at *
  have c0 := HR.out.blk.get 0
  have c1 := HR.out.blk.get 1
  have c5 := HR.out.blk.get 5
  have c6 := HR.out.blk.get 6
  clear c7 c71 f71 HEnv
  have hat1 : ((at_ : Int) == (s.data.length : Int)) = false := by simp; omega
  have hsub : (s.data.length : Int) - (at_ : Int) = ((s.data.length - at_ : Nat) : Int) := by omega
  have hm1 : imin (pn : Int) ((s.data.length : Int) - (at_ : Int)) = (Nat.min pn (s.data.length - at_) : Nat) := by rw [hsub]; exact imin_nat _ _
  have hm3 : Nat.min pn (s.data.length - at_) = s.amount at_ pc pn := by unfold Src.amount; rw [dif_neg hpc]
  rw [hm3] at hm1
  clear hm3
  have hal := s.amount_le at_ pc pn
  generalize hn : s.amount at_ pc pn = n at *
  have HNN := hide hn
  clear hn hsub
  obtain ⟨hal1, hal2⟩ := hal
  go_wp2_with fail
  go_quiet (fail)
  rename Nat => q1
  go_wp2_with fail
  go_quiet (fail)
  rename Nat => q2
  go_wp2_with fail
  go_quiet (fail)
  rename Nat => q3
  go_wp2_with fail
  have hb9 := ((HR.out.blk.drawn q1).drawn q2).drawn q3
  have ht9 : Turns (fun k => k = rb ∨ k = pb) w2 (((w2.drewN q1).drewN q2).drewN q3) := (((Turns.refl _ _).drawn _).drawn _).drawn _
  have HP9' := ((HP2.out.drawn q1).drawn q2).drawn q3
  generalize ((w2.drewN q1).drewN q2).drewN q3 = w9 at *
  have hal2' : at_ + n ≤ s.data.length := by omega
  have hR9 := own_turns HR.out.data ht9 (fun g hg e => by
    rcases e with e | e
    · subst e; exact own_ne HR.out.data HR.out.blk (by decide) hg
    · subst e; exact HDP.out hg)
  obtain ⟨cs, hcs⟩ : ∃ cs : List Value, cs = ((s.data.drop at_).take n).map (Value.int .u8) := ⟨_, rfl⟩
  have HL : Hid (cs.length = n) := by
    show cs.length = n
    rw [hcs, List.length_map, List.length_take, List.length_drop]; omega
  have HO : Hid (∀ v ∈ cs, v.oneCell' = true) := by rw [hcs]; exact ints_oneCell _ _
  have HS : Hid (∀ j v, cs[j]? = some v → w9.cell? ((⟨dg, at_, none⟩ : Addr).add j) = some v) := by
    intro j v hv
    rw [show (⟨dg, at_, none⟩ : Addr).add j = (⟨dg, 0, none⟩ : Addr).add (at_ + j) by unfold Addr.add; simp only; split <;> split <;> simp_all <;> omega]
    refine hR9.cells (g := dg) rfl _ _ ?_
    rw [hcs, List.getElem?_map, List.getElem?_take] at hv
    split at hv
    · rw [List.getElem?_map]
      rw [List.getElem?_drop] at hv
      exact hv
    · cases hv
  have HCS := hide hcs
  have HB9 := hide hb9
  have HP9 := hide (show At w9 pb 5 pcur.toArray from HP9')
  have d0 := hb9.get 0
  have d5 := hb9.get 5
  have HT9 := hide ht9
  clear hcs hb9 ht9 hR9 c0 c1 c5 c6 hm1
  have s1 : (0 : Int) ≤ (at_ : Int) := by omega
  have s2 : (at_ : Int) ≤ (at_ : Int) + (n : Int) := by omega
  have s3 : (at_ : Int) + (n : Int) ≤ (dc : Int) := by omega
  have s4 : (0 : Int) ≤ (at_ : Int) + (n : Int) := by omega
  have s5 : ((at_ : Int) + (n : Int)).toNat = at_ + n := by omega
  have s6 : IntKind.i64.wrap ((at_ : Int) + (n : Int)) = (at_ : Int) + (n : Int) := IntWalk.i64_in _ (by omega)
  have s7 : ¬ dc = at_ := by omega
  go_region_held3 (fun w' => w'.cell? ⟨rb, 0, none⟩ = some (.slice (some ⟨dg, 0, none⟩) s.data.length dc) ∧ w'.cell? ⟨rb, 5, none⟩ = some (.int .i64 at_)) (go_keep)
    ((refine step_copy_at (by rfl) (.tmp 80) (.tmp 96) 22 22 (by rfl) 5 Tryd.underlying22 size5 _ _ _ _ _ _ (by rfl) (by rfl) pb 0 pcur 5 (by exact HP9.out) cs (by rw [HL.out]; simp only [Nat.min_def]; split <;> omega) (by exact fun _ => ⟨rfl, ⟨dg, at_, none⟩, by first | rfl | exact if_neg s7, HS.out⟩) (by rw [HL.out]; omega) HO.out ?_; intro w10 hat10 htu10; have hb10 := hide (htu10.at_ (by exact HB9.out) hne.symm); have g0 := hb10.out.get 0; have g5 := hb10.out.get 5))
  have f5 := hb10.out.soft 5
  have HA10 := hide hat10
  have HT10 := hide htu10
  clear s1 s2 s3 s4 s5 s6 s7 hat10 htu10 d0 d5
  go_wp2_with fail
  have hT2 : Turns (fun k => k = rb ∨ k = pb) w2 w10 := HT9.out.trans (S := fun k => k = rb ∨ k = pb) (T := (· = pb)) (by first | exact HT10.out.undrew | exact HT10.out.undrawn) (fun _ _ h => .inr h)
  obtain ⟨hR11, hT11⟩ := handed (pc' := pc) HR.out (by exact hb10.out) hT2 HDP.out HP2.out (at_ + n)
  have HE11 := hide (HE2.out.turns hT11 (fun k hk => by
    rcases hk with rfl | rfl
    · exact HR.out.base
    · exact hBp))
  have HA11 := hide (HA10.out.away (p := ⟨rb, 5, none⟩) hne.symm (.int .i64 ((at_ + n : Nat) : Int)))
  have esum : (at_ : Int) + (n : Int) = ((at_ + n : Nat) : Int) := by omega
  rw [esum]
  have HT11 := hide (Turns.trans (S := fun k => k = pb ∨ k = rb ∨ (Value.slice AA asked.length ac).ownBlock = some k) (HT.out.mono (fun _ _ h => .inr h)) hT11 (fun _ _ h => by rcases h with h | h <;> simp [h]))
  have HR11 := hide hR11
  clear hT2 hT11 hR11 HT9 HT10 HT HB9 HP9 HA10 hb10 HE2 HP2 HR g0 g5 f5 esum HS HO
  generalize w10.setCell ⟨rb, 5, none⟩ (.int .i64 ((at_ + n : Nat) : Int)) = w11 at *
  have c0 := HR11.out.blk.get 0
  have c2 := HR11.out.blk.get 2
  have c5 := HR11.out.blk.get 5
  have HLT := hide hlt
  have HPN := hide hpn
  have fin : ∀ (W : World) (m code : Nat), W = w11.drewN m → (code = if at_ + n = s.data.length ∧ s.together = true then s.endCode else 0) →
      ReadPost B rb pb s (.slice (some ⟨dg, 0, none⟩) s.data.length dc) (.slice PA s.pieces.length pcp) (.slice AA asked.length ac) at_ pc asked pn pcur E w (.returned (.tuple #[.int .i64 (n : Nat), errVal E code])) W := by
    intro W m code hW hcode
    subst hW
    have er : s.read at_ pc pn = ⟨(s.data.drop at_).take n, code, at_ + n, pc⟩ := by
      unfold Src.read
      rw [if_neg (by omega), if_neg (by omega), HNN.out, hcode]
      simp [hpc]
    unfold ReadPost
    rw [er]
    have hlen : ((s.data.drop at_).take n).length = n := by rw [List.length_take, List.length_drop]; omega
    refine ⟨_, by simp only [hlen], HR11.out.drawn _, HN.out, HT11.out.drawn _, ?_⟩
    have := HA11.out.drawn m
    rw [HCS.out] at this
    exact this
  have HF := hide fin
  clear fin
  by_cases he : at_ + n = s.data.length
  · rw [he] at c5
    cases htg : s.together with
    | true =>
      rw [htg] at c2
      go_quiet (fail)
      rename Nat => q5
      go_wp2_with fail
      refine (end_any (HR11.out.blk.drawn _) (HE11.out.drawn _)).mono ?_
      rintro e w12 ⟨rfl, rfl⟩
      go_wp2
      go_ret2
      exact HF.out _ _ _ rfl (by rw [if_pos ⟨he, htg⟩])
    | false =>
      rw [htg] at c2
      go_quiet (fail)
      rename Nat => q5
      go_wp2
      go_ret2
      exact HF.out _ _ 0 rfl (by rw [if_neg (by rw [htg]; simp)])
  · have hlt2 : at_ + n < s.data.length := by omega
    have hg : ((at_ : Int) + (n : Int) == (s.data.length : Int)) = false := by simp; omega
    go_quiet (fail)
    rename Nat => q5
    go_wp2
    go_ret2
    exact HF.out _ _ 0 rfl (by rw [if_neg (by omega)])

/-- A Read, whatever the buffer and wherever the source stands. -/
theorem read_any {B rb at_ pc pb pn pcap : Nat} {w : World} {s : Src} {dv pv av : Value} {asked : List Int} {E : Nat → Addr} {pcur : List Value} (h : Rd B w rb s dv pv av at_ pc asked) (hE : Env B E w)
    (hp : At w pb 5 pcur.toArray) (ha : asked.length ≤ 1000000000) (hpl : pn ≤ pcur.length) (hle : at_ ≤ s.data.length) (hd : s.data.length ≤ 1000000000) (hpp : s.pieces.length ≤ 1000000000)
    (hpb : dv.ownBlock ≠ some pb) (hBp : B ≤ pb) :
    Calls Tryd.prog 31 #[.pointer (some ⟨rb, 0, none⟩), .slice (some ⟨pb, 0, none⟩) pn pcap] w (ReadPost B rb pb s dv pv av at_ pc asked pn pcur E w) := by
  rcases Nat.eq_zero_or_pos pn with rfl | h0
  · exact read_zero h hp ha
  · rcases Nat.eq_or_lt_of_le hle with rfl | hlt
    · exact read_end h hE hp ha h0
    · by_cases hpc : pc < s.pieces.length
      · exact read_piece h hE hp ha h0 hpl hlt hd hpp hpb hBp hpc
      · exact read_free h hE hp ha h0 hpl hlt hd hpp hpb hBp hpc

end Go.Proofs.YtdcdbbcphkhmeaaDoor
