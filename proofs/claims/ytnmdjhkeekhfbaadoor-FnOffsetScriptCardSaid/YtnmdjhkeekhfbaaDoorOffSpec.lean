/-
  What spec.Offsets does: what runG says, one call behind the other.
-/
import Derived.Test.YtnmdjhkeekhfbaaDoorScript
import Derived.Deep.Cut
import Derived.Test.YtnmdjhkeekhfbaaDoorCallsG
namespace Go.Proofs.YtnmdjhkeekhfbaaDoor
open Go.RowKit
set_option linter.unusedVariables false
set_option maxRecDepth 100000

theorem infoSMoved : (Tryd.prog.info? 68).map (fun i => (i.zero, i.size, i.bytes)) = some (some (.agg #[.int .i64 0, .int .i64 0]), 2, 16) := by kernel_rfl
theorem infoSCall : (Tryd.prog.info? 65).map (fun i => (i.zero, i.size, i.bytes)) = some (some (.agg #[.int .i64 0, .slice none 0 0]), 2, 32) := by kernel_rfl

theorem under_any (limit off : Int) (n : Nat) (w : World) (h1 : -1125899906842624 ≤ limit) (h2 : limit ≤ 1125899906842624) (h3 : 0 ≤ off) (h4 : off ≤ 9007199254740992) (h5 : n ≤ 65536) :
    Calls Tryd.prog 22 #[.int .i64 limit, .int .i64 off, .int .i64 (n : Int)] w fun e w' => e = .returned (.tuple #[.int .i64 (underG limit off n).n, .int .i64 ((underG limit off n).code : Nat)]) ∧ w = w' := by
  have s1 : IntKind.i64.wrap (off + (n : Int)) = off + (n : Int) := IntWalk.i64_in _ (by omega)
  have s2 : IntKind.i64.wrap (limit - off) = limit - off := IntWalk.i64_in _ (by omega)
  by_cases hc : off + (n : Int) ≤ limit
  · have hu : underG limit off n = ⟨n, 0⟩ := by unfold underG; rw [if_neg (by omega)]
    rw [hu]
    go_enter Tryd.func22, Tryd.ntmps22
    go_wp2
    go_ret2
    exact ⟨rfl, rfl⟩
  · by_cases hd : off < limit
    · have hu : underG limit off n = ⟨limit - off, 3⟩ := by
        unfold underG imax
        rw [if_pos (by omega), if_neg (by omega)]
      rw [hu]
      go_enter Tryd.func22, Tryd.ntmps22
      go_wp2
      go_ret2
      exact ⟨rfl, rfl⟩
    · have hu : underG limit off n = ⟨0, 3⟩ := by
        unfold underG imax
        rw [if_pos (by omega)]
        split
        · rfl
        · congr 1; omega
      rw [hu]
      go_enter Tryd.func22, Tryd.ntmps22
      go_wp2
      go_ret2
      exact ⟨rfl, rfl⟩

theorem mv_write {base limit a : Int} {p : PlaceG} (h : p.kind = 0) : moveG base limit (base + a) p = (underG limit (base + a) p.data.length, base + (a + (underG limit (base + a) p.data.length).n), [⟨base + a, p.data⟩]) := by
  simp [moveG, h, Int.add_assoc]
theorem mv_atneg {base limit a : Int} {p : PlaceG} (h : p.kind = 1) (h2 : p.off < 0) : moveG base limit (base + a) p = (⟨0, 5⟩, base + a, []) := by
  simp [moveG, h, h2]
theorem mv_at {base limit a : Int} {p : PlaceG} (h : p.kind = 1) (h2 : ¬ p.off < 0) : moveG base limit (base + a) p = (underG limit (base + p.off) p.data.length, base + a, [⟨base + p.off, p.data⟩]) := by
  simp [moveG, h, h2, Int.add_comm]
theorem mv_bad {base limit a : Int} {p : PlaceG} (h : p.kind ≠ 0) (h1 : p.kind ≠ 1) (h2 : p.whence ≠ 0) (h3 : p.whence ≠ 1) : moveG base limit (base + a) p = (⟨0, 5⟩, base + a, []) := by
  simp [moveG, h, h1, h2, h3]
theorem mv_seek0_neg {base limit a : Int} {p : PlaceG} (h : p.kind ≠ 0) (h1 : p.kind ≠ 1) (h2 : p.whence = 0) (h3 : p.off < 0) : moveG base limit (base + a) p = (⟨0, 5⟩, base + a, []) := by
  have : seekG base (base + a) (p.off + base) = (⟨0, 5⟩, base + a, []) := by unfold seekG; rw [if_pos (by omega)]
  simp [moveG, h, h1, h2, this]
theorem mv_seek0 {base limit a : Int} {p : PlaceG} (h : p.kind ≠ 0) (h1 : p.kind ≠ 1) (h2 : p.whence = 0) (h3 : ¬ p.off < 0) : moveG base limit (base + a) p = (⟨p.off, 0⟩, base + p.off, []) := by
  have : seekG base (base + a) (p.off + base) = (⟨p.off, 0⟩, base + p.off, []) := by unfold seekG; rw [if_neg (by omega)]; simp; omega
  simp [moveG, h, h1, h2, this]
theorem mv_seek1_neg {base limit a : Int} {p : PlaceG} (h : p.kind ≠ 0) (h1 : p.kind ≠ 1) (h2 : p.whence = 1) (h3 : a + p.off < 0) : moveG base limit (base + a) p = (⟨0, 5⟩, base + a, []) := by
  have : seekG base (base + a) (p.off + (base + a)) = (⟨0, 5⟩, base + a, []) := by unfold seekG; rw [if_pos (by omega)]
  simp [moveG, h, h1, h2, this]
theorem mv_seek1 {base limit a : Int} {p : PlaceG} (h : p.kind ≠ 0) (h1 : p.kind ≠ 1) (h2 : p.whence = 1) (h3 : ¬ a + p.off < 0) : moveG base limit (base + a) p = (⟨a + p.off, 0⟩, base + (a + p.off), []) := by
  have : seekG base (base + a) (p.off + (base + a)) = (⟨a + p.off, 0⟩, base + (a + p.off), []) := by unfold seekG; rw [if_neg (by omega)]; simp; omega
  simp [moveG, h, h1, h2, this]

/-- What spec.Offsets has handed out, or holds so far. -/
structure SRan (B : Nat) (w : World) (ms : List MovedG) (cs : List CallG) (mv cv : Value) (css : List (List Value)) : Prop where
  moved : w.ownsRow B 68 2 mv ms.length (movedCells ms)
  calls : w.ownsRow B 65 2 cv cs.length css.flatten
  each : CallsAt B w cs css
  two : ∀ c ∈ css, c.length = 2

theorem SRan.new {B : Nat} {w w' : World} {ms : List MovedG} {cs : List CallG} {mv cv : Value} {css : List (List Value)} (h : SRan B w ms cs mv cv css) (hn : New w w') : SRan B w' ms cs mv cv css :=
  ⟨own_new h.moved hn, own_new h.calls hn, h.each.turns (Turns.of_new hn (fun _ => False)) (fun _ _ _ h => h), h.two⟩

theorem SRan.movedMore {B : Nat} {w w' : World} {ms : List MovedG} {cs : List CallG} {mv cv mv' : Value} {css : List (List Value)} {r : MovedG} (h : SRan B w ms cs mv cv css)
    (hown : w'.ownsRow B 68 2 mv' (ms.length + 1) (movedCells ms ++ [.int .i64 r.n, .int .i64 (r.code : Nat)])) (ht : Turns (fun k => mv.ownBlock = some k) w w') : SRan B w' (ms ++ [r]) cs mv' cv css :=
  ⟨by rw [movedCells_snoc, List.length_append]; exact hown, own_turns h.calls ht (fun g hg e => own_apart h.calls h.moved (by decide) g hg e), h.each.turns ht (fun k cs' hc e => own_ne h.moved hc (by decide) e), h.two⟩

theorem SRan.callMore {B kA : Nat} {w wA wB : World} {ms : List MovedG} {cs : List CallG} {mv cv vB : Value} {css : List (List Value)} {off : Int} {bs : List Int} {aA : Option Addr} (h : SRan B w ms cs mv cv css) (hBw : B ≤ w.heap.size) (nA : New w wA)
    (hA : wA.ownsRow w.heap.size 5 1 (.slice aA bs.length kA) bs.length (bs.map (Value.int .u8))) (hAn : aA = none → kA = 0) (hAs : Sl wA 1 aA bs.length (bs.map (Value.int .u8)))
    (hB : wB.ownsRow B 65 2 vB (cs.length + 1) (css.flatten ++ [.int .i64 off, .slice aA bs.length kA])) (tB : Turns (fun k => cv.ownBlock = some k) wA wB) :
    SRan B wB ms (cs ++ [⟨off, bs⟩]) mv vB (css ++ [[.int .i64 off, .slice aA bs.length kA]]) := by
  have h1 := h.new nA
  have h5 : ∀ k cs', At wA k 5 cs' → cv.ownBlock ≠ some k := fun k cs' hc => own_ne h1.calls hc (by decide)
  refine ⟨own_turns h1.moved tB (fun g hg e => own_apart h1.moved h1.calls (by decide) g hg e), ?_, (h1.each.turns tB (fun k cs' hc e => h5 k cs' hc e)).snoc ?_, ?_⟩
  · rw [List.length_append, List.flatten_append]
    simpa using hB
  · have hblk : ∀ ad, aA = some ad → w.heap.size ≤ ad.block ∧ ∃ cs', At wA ad.block 5 cs' := fun ad e => by
      subst e
      rcases hA.2 with ⟨e, _⟩ | ⟨g, cap, cur, e, hg, hh, _⟩
      · cases e
      · cases e
        exact ⟨hg, cur, hh⟩
    refine ⟨aA, kA, rfl, hAs.turns tB (fun ad e _ => ?_), hAn, fun ad e => ?_⟩
    · obtain ⟨_, cs', hc⟩ := hblk ad e
      exact h5 _ _ hc
    · obtain ⟨h6, cs', hc⟩ := hblk ad e
      exact ⟨Nat.le_trans hBw h6, cs', hc.turns tB (h5 _ _ hc)⟩
  · intro c hc
    rcases List.mem_append.1 hc with hc | hc
    · exact h.two c hc
    · rw [List.mem_singleton.1 hc]; rfl

theorem SRan.slices {B : Nat} {w : World} {ms : List MovedG} {cs : List CallG} {mv cv : Value} {css : List (List Value)} (h : SRan B w ms cs mv cv css) : ∃ MA mc CA cc, mv = .slice MA ms.length mc ∧ cv = .slice CA cs.length cc := by
  obtain ⟨MA, mc, e1, -, -⟩ := Sl.of_own h.moved
  obtain ⟨CA, cc, e2, -, -⟩ := Sl.of_own h.calls
  exact ⟨MA, mc, CA, cc, e1, e2⟩

set_option maxHeartbeats 8000000 in
theorem specOffsets_any {w w0 : World} {base limit : Int} {ps : List PlaceG} {SA : Option Addr} {sc B0 : Nat} (hp : SPlaced B0 w w0 ps (.slice SA ps.length sc)) (hN0 : New w w0) (hl : ps.length ≤ 1024)
    (hf : ∀ p ∈ ps, Fits p) (hfo : ∀ p ∈ ps, -1099511627776 ≤ p.off ∧ p.off ≤ 1099511627776) (hl1 : -1125899906842624 ≤ limit) (hl2 : limit ≤ 1125899906842624) (hb0 : 0 ≤ base) (hb1 : base ≤ 1099511627776) :
    Calls Tryd.prog 17 #[.int .i64 base, .int .i64 limit, .slice SA ps.length sc] w0 fun e w' => ∃ MA mc CA cc css, e = .returned (.tuple #[.slice MA (runG base limit ps).1.length mc, .slice CA (runG base limit ps).2.2.length cc]) ∧
      SRan w0.heap.size w' (runG base limit ps).1 (runG base limit ps).2.2 (.slice MA (runG base limit ps).1.length mc) (.slice CA (runG base limit ps).2.2.length cc) css ∧ New w0 w' := by
  obtain ⟨pss, hs, hps, hc4⟩ := hp
  have HS := hide hs; have HPS := hide hps; have HC4 := hide hc4; have HFT := hide hf; have HFO := hide hfo; have HN0 := hide hN0
  clear hs hps hc4 hf hfo hN0
  go_enter Tryd.func17, Tryd.ntmps17
  go_wp2_with fail
  have HI0 : Hid (∃ css, SRan w0.heap.size ((w0.alloc (.cells #[] 68)).alloc (.cells #[] 65)) (runG base limit (ps.take 0)).1 (runG base limit (ps.take 0)).2.2 (.slice (some ⟨w0.heap.size, 0, none⟩) 0 0) (.slice (some ⟨w0.heap.size + 1, 0, none⟩) 0 0) css) := by
    refine ⟨[], lit_own _ _ ((At.made _ _ _).laid _) (Nat.le_refl _), lit_own _ _ (At.made' (by simp) _ _) (by omega), ⟨rfl, fun i g cells h => by simp [runG] at h⟩, by simp⟩
  have HN1 : Hid (New w0 ((w0.alloc (.cells #[] 68)).alloc (.cells #[] 65))) := hide (new_al (new_alloc _ _) _)
  go_loopw [8, 9, 10, 22] (fun s8 mv cv i wr => ∃ (k : Nat) (a : Int), k ≤ ps.length ∧ i = .int .i64 k ∧ s8 = .int .i64 a ∧ (runG base limit (ps.take k)).2.1 = base + a ∧ Hid (∃ css, SRan w0.heap.size wr (runG base limit (ps.take k)).1 (runG base limit (ps.take k)).2.2 mv cv css) ∧ Hid (New w0 wr)) (fun _ _ _ i _ => ps.length - (intOf i).toNat)
  case atStart => exact ⟨0, 0, Nat.zero_le _, rfl, rfl, by simp [runG], HI0.out, HN1.out⟩
  case round =>
    clear HI0 HN1
    obtain ⟨k, a, hk, rfl, rfl, hcur, HR, HN⟩ := hrel
    obtain ⟨css, hR⟩ := HR.out
    obtain ⟨MA, mc, CA, cc, rfl, rfl⟩ := hR.slices
    have hrs := runG_stays base limit ps ⟨hb0, by omega⟩ HFT.out k hk
    obtain ⟨hrs1, hrs2, hrs3, hrs4⟩ := hrs
    rw [hcur] at hrs1 hrs2
    by_cases hlt : k < ps.length
    · rcases HS.out.2 with ⟨_, h0⟩ | ⟨g, scap, scur, hsv, _, hsg, hsc1, hsm, _⟩
      · omega
      cases hsv
      have hgs0 : g < w0.heap.size := (Array.getElem?_eq_some_iff.1 hsg).1
      have hcell : ∀ j u, pss.flatten[j]? = some u → w0.cell? ⟨g, j, none⟩ = some u := fun j u hu => add0 g j ▸ HS.out.cells (g := g) rfl j u hu
      clear hsg
      unfold maxLen at hsm
      obtain ⟨p, hst⟩ : ∃ p, ps[k]? = some p := ⟨ps[k], List.getElem?_eq_getElem hlt⟩
      have hfo := HFO.out p (List.mem_of_getElem? hst)
      have hft := (HFT.out p (List.mem_of_getElem? hst)).1
      obtain ⟨cells, hcs⟩ : ∃ c, pss[k]? = some c := ⟨pss[k]'(by rw [HPS.out.1]; exact hlt), List.getElem?_eq_getElem (by rw [HPS.out.1]; exact hlt)⟩
      obtain ⟨PA, pc, rfl, hpsl, hPn⟩ := HPS.out.2 k p cells hst hcs
      have fl := fun i hi => flatten4_get pss HC4.out k i hi
      rw [hcs] at fl
      have q0 : wr.cell? ⟨g, k * 4, none⟩ = some (.int .i64 p.kind) := (HN.out.cell (p := ⟨g, k * 4, none⟩) hgs0).trans (hcell _ _ (fl 0 (by omega)))
      have q1 : wr.cell? ⟨g, k * 4 + 1, none⟩ = some (.slice PA p.data.length pc) := (HN.out.cell (p := ⟨g, k * 4 + 1, none⟩) hgs0).trans (hcell _ _ (fl 1 (by omega)))
      have q2 : wr.cell? ⟨g, k * 4 + 2, none⟩ = some (.int .i64 p.off) := (HN.out.cell (p := ⟨g, k * 4 + 2, none⟩) hgs0).trans (hcell _ _ (fl 2 (by omega)))
      have q3 : wr.cell? ⟨g, k * 4 + 3, none⟩ = some (.int .i64 p.whence) := (HN.out.cell (p := ⟨g, k * 4 + 3, none⟩) hgs0).trans (hcell _ _ (fl 3 (by omega)))
      have HST : Hid (∀ r c' cs', moveG base limit (base + a) p = (r, c', cs') → runG base limit (ps.take (k + 1)) = ((runG base limit (ps.take k)).1 ++ [r], c', (runG base limit (ps.take k)).2.2 ++ cs')) := by
        intro r c' cs' h
        have e : ps.take (k + 1) = ps.take k ++ [p] := by rw [List.take_add_one, hst]; rfl
        rw [e, runG_snoc, hcur, h]
      have HPW := hide ((hpsl.new HN0.out).new HN.out); have HPN := hide hPn
      generalize (runG base limit (ps.take k)).1 = ms at *
      generalize (runG base limit (ps.take k)).2.2 = cs at *
      have HRR := hide hR
      have hBw := HN.out.size
      have hi : (k : Int) < (ps.length : Int) := by omega
      have hi0 : (0 : Int) ≤ (k : Int) := by omega
      rw [hrs3] at HRR ⊢
      have HM3 := hide hrs3
      clear hR HR hcs hpsl hcell fl hst hPn hcur hrs3
      have hlm : cs.length ≤ 2000 := by omega
      have ha0 : 0 ≤ a := by omega
      have ha1 : a ≤ 2251799813685248 := by omega
      go_upto_region 5 with (fail)
      have HX := hide (At.made wr 64 #[.int .i64 p.kind, .slice PA p.data.length pc, .int .i64 p.off, .int .i64 p.whence])
      have HR1 := hide (HRR.out.new (new_alloc wr (.cells #[.int .i64 p.kind, .slice PA p.data.length pc, .int .i64 p.off, .int .i64 p.whence] 64)))
      have HN1 := hide (new_al HN.out (.cells #[.int .i64 p.kind, .slice PA p.data.length pc, .int .i64 p.off, .int .i64 p.whence] 64))
      have HPW1 := hide (HPW.out.laid (.cells #[.int .i64 p.kind, .slice PA p.data.length pc, .int .i64 p.off, .int .i64 p.whence] 64))
      generalize wr.alloc (.cells #[.int .i64 p.kind, .slice PA p.data.length pc, .int .i64 p.off, .int .i64 p.whence] 64) = w1 at *
      generalize wr.heap.size = X at *
      have b0 : w1.cell? ⟨X, 0, none⟩ = some (.int .i64 p.kind) := HX.out.get 0
      have b1 : w1.cell? ⟨X, 1, none⟩ = some (.slice PA p.data.length pc) := HX.out.get 1
      have b2 : w1.cell? ⟨X, 2, none⟩ = some (.int .i64 p.off) := HX.out.get 2
      have b3 : w1.cell? ⟨X, 3, none⟩ = some (.int .i64 p.whence) := HX.out.get 3
      have hBw1 := HN1.out.size
      have hXlt := HX.out.size_lt
      have hXne : ¬ X = w1.heap.size := by omega
      have HOWM := hide HR1.out.moved
      have HOWC := hide HR1.out.calls
      rw [HM3.out] at HOWM
      clear q0 q1 q2 q3 HRR HN HPW
      by_cases hk0 : p.kind = 0
      · rw [hk0] at b0
        have hmv := mv_write (base := base) (limit := limit) (a := a) hk0
        have s1 : IntKind.i64.wrap (base + a) = base + a := IntWalk.i64_in _ (by omega)
        go_wp2_with (at_builtin; (with_reducible refine wpList_append_empty rfl (.tmp 65) (.tmp 67) 26 rfl 5 (.int .u8 0) 1 1 Tryd.underlying26 info5 rfl (by decide) _ rfl PA p.data.length pc (p.data.map (Value.int .u8)) rfl HPN.out ?c1 (ints_oneCell _ _) ?c3 ?c4 ?c5 ?_))
        case c1 => exact HPW1.out
        case c3 => unfold maxLen; omega
        case c4 => omega
        case c5 => rfl
        intro vA wA hA nA hAl
        obtain ⟨aA, kA, rfl, hAn, hAs⟩ := Sl.of_own hA
        have HA := hide hA; have HAN := hide hAn; have HAS := hide hAs; have NA := hide nA
        have HOWC2 := hide (own_new HR1.out.calls nA)
        have hBwA : w0.heap.size ≤ wA.heap.size := Nat.le_trans hBw1 nA.size
        clear hA hAn hAs nA
        go_wp2_with (at_builtin; (with_reducible refine wpList_append_one rfl (.tmp 61) (.tmp 70) 50 rfl w0.heap.size 65 _ 2 32 Tryd.underlying50 infoSCall rfl (by decide) _ _ _ rfl HOWC2.out [.int .i64 (base + a), .slice aA p.data.length kA] _ rfl rfl ?c1 ?c2 ?c3 hBwA rfl ?_))
        case c1 => first | exact ⟨rfl, rfl⟩ | (intro u hu; simp at hu; rcases hu with rfl | rfl <;> rfl)
        case c2 => unfold maxLen; omega
        case c3 => omega
        intro vB wB hB tB nB
        have HRB := hide (SRan.callMore HR1.out hBw1 NA.out HA.out HAN.out HAS.out hB tB)
        have HNB : Hid (New w0 wB) := hide (new_turns (new_trans HN1.out NA.out) tB (fun g hg => (HR1.out.calls.lt g hg).1))
        have hXB := (HX.out.new NA.out).turns tB (fun h => own_ne (HR1.out.new NA.out).calls (HX.out.new NA.out) (by decide) h)
        have hBwB := HNB.out.size
        have HOWMB := hide HRB.out.moved
        rw [HM3.out] at HOWMB
        have d1 : wB.cell? ⟨X, 1, none⟩ = some (.slice PA p.data.length pc) := hXB.get 1
        have d2 : wB.cell? ⟨X, 2, none⟩ = some (.int .i64 p.off) := hXB.get 2
        obtain ⟨aB, kB, rfl, -, -⟩ := Sl.of_own hB
        clear hB tB nB hXB HA HAN HAS NA HOWC2 b0 b1 b2 b3 HOWM HOWC
        go_wp2_with fail
        refine (under_any limit (base + a) p.data.length _ hl1 hl2 (by omega) (by omega) hft).mono ?_
        rintro e w4 ⟨rfl, rfl⟩
        have hun := underG_n limit (base + a) p.data.length
        obtain ⟨hun1, hun2, hun3⟩ := hun
        generalize underG limit (base + a) p.data.length = U at *
        obtain ⟨un, uc⟩ := U
        simp only at hmv hun1 hun2 ⊢
        have s2 : IntKind.i64.wrap (a + un) = a + un := IntWalk.i64_in _ (by omega)
        go_wp2_with (at_builtin; (with_reducible refine wpList_append_one rfl (.tmp 86) (.tmp 90) 49 rfl w0.heap.size 68 _ 2 16 Tryd.underlying49 infoSMoved rfl (by decide) _ _ _ rfl HOWMB.out [.int .i64 un, .int .i64 (uc : Nat)] _ rfl rfl ?c1 ?c2 ?c3 hBwB rfl ?_))
        case c1 => first | exact ⟨rfl, rfl⟩ | (intro u hu; simp at hu; rcases hu with rfl | rfl <;> rfl)
        case c2 => unfold maxLen; omega
        case c3 => omega
        intro v5 w5 hown5 ht5 hn5
        have HR5 : Hid (∃ css, SRan w0.heap.size w5 (runG base limit (ps.take (k + 1))).1 (runG base limit (ps.take (k + 1))).2.2 v5 (.slice aB (cs.length + 1) kB) css) := by
          rw [HST.out _ _ _ hmv]
          try rw [List.append_nil]
          exact ⟨_, HRB.out.movedMore (r := ⟨un, uc⟩) (by rw [HM3.out]; exact hown5) ht5⟩
        have hc5 : (runG base limit (ps.take (k + 1))).2.1 = base + (a + un) := by rw [HST.out _ _ _ hmv]
        have HN5 : Hid (New w0 w5) := hide (new_turns HNB.out ht5 (fun g hg => (HRB.out.moved.lt g hg).1))
        have HC5 := hide hc5
        clear hown5 ht5 hn5 hc5 hmv
        go_wp2
        go_roundw
        case rel => exact ⟨k + 1, (a + un), by omega, by go_num, by go_num, HC5.out, HR5.out, HN5.out⟩
        case measure => simp [intOf]; omega
      · by_cases hk1 : p.kind = 1
        · rw [hk1] at b0
          by_cases hneg : p.off < 0
          · have hmv := mv_atneg (base := base) (limit := limit) (a := a) hk1 hneg
            go_wp2_with (at_builtin; (with_reducible refine wpList_append_one rfl (.tmp 97) (.tmp 99) 49 rfl w0.heap.size 68 _ 2 16 Tryd.underlying49 infoSMoved rfl (by decide) _ _ _ rfl HOWM.out [.int .i64 0, .int .i64 5] _ rfl rfl ?c1 ?c2 ?c3 hBw1 rfl ?_))
            case c1 => first | exact ⟨rfl, rfl⟩ | (intro u hu; simp at hu; rcases hu with rfl | rfl <;> rfl)
            case c2 => unfold maxLen; omega
            case c3 => omega
            intro v5 w5 hown5 ht5 hn5
            have HR5 : Hid (∃ css, SRan w0.heap.size w5 (runG base limit (ps.take (k + 1))).1 (runG base limit (ps.take (k + 1))).2.2 v5 (.slice CA cs.length cc) css) := by
              rw [HST.out _ _ _ hmv]
              try rw [List.append_nil]
              exact ⟨_, HR1.out.movedMore (r := ⟨0, 5⟩) (by rw [HM3.out]; exact hown5) ht5⟩
            have hc5 : (runG base limit (ps.take (k + 1))).2.1 = base + a := by rw [HST.out _ _ _ hmv]
            have HN5 : Hid (New w0 w5) := hide (new_turns HN1.out ht5 (fun g hg => (HR1.out.moved.lt g hg).1))
            have HC5 := hide hc5
            clear hown5 ht5 hn5 hc5 hmv
            go_wp2
            go_roundw
            case rel => exact ⟨k + 1, a, by omega, by go_num, rfl, HC5.out, HR5.out, HN5.out⟩
            case measure => simp [intOf]; omega
          · have hmv := mv_at (base := base) (limit := limit) (a := a) hk1 hneg
            have s1 : IntKind.i64.wrap (base + p.off) = base + p.off := IntWalk.i64_in _ (by omega)
            have tokA : True := trivial
            have tokB : True := trivial
            go_wp2_with fail
            go_region_law
              (first
                | (have _t := tokA; refine step_append_lit (by rfl) (.tmp 106) (.tmp 108) 26 (by rfl) w1.heap.size 5 (.int .u8 0) 1 1 Tryd.underlying26 info5 rfl (by decide) _ (by rfl) (by repeat (with_reducible first | exact At.made' (by simp) _ _ | apply At.laid | apply At.drew | apply At.drawn)) (Nat.le_refl _) PA p.data.length pc _ (by rfl) HPN.out (by exact HPW1.out.new (by repeat (with_reducible first | exact new_refl _ | apply new_al | apply new_dr | apply new_drN))) (ints_oneCell _ _) (by unfold maxLen; omega) (by omega) ?_; intro vA wA hA mA; have nA : Hid (New w1 wA) := hide (new_trans (by repeat (with_reducible first | exact new_refl _ | apply new_al | apply new_dr | apply new_drN)) mA); have hxA := HX.out.new nA.out; have x1 := hxA.get 1; have x2 := hxA.get 2; have hXlA := hxA.size_lt; have hXnA : ¬ X = wA.heap.size := (by omega); obtain ⟨aA, kA, rfl, hAn, hAs⟩ := Sl.of_own hA; have HA := hide hA; have HAN := hide hAn; have HAS := hide hAs; clear hA mA hxA hAn hAs tokA)
                | (have _t := tokB; refine step_append_sl (by rfl) (.tmp 101) (.tmp 111) 50 (by rfl) w0.heap.size 65 _ 2 32 Tryd.underlying50 infoSCall rfl (by decide) (.slice CA cs.length cc) _ _ (by rfl) (by exact own_new HR1.out.calls (new_trans nA.out (by repeat (with_reducible first | exact new_refl _ | apply new_al | apply new_dr | apply new_drN)))) (some ⟨wA.heap.size, 0, none⟩) 1 1 [.int .i64 (base + p.off), .slice aA p.data.length kA] (by rfl) (fun e => by cases e) (by first | exact Sl.one _ _ _ _ rfl | exact (Sl.one _ _ _ _ rfl).drawn 1) (by intro u hu; simp at hu; rcases hu with rfl | rfl <;> rfl) (by unfold maxLen; omega) (by omega) (by have := Below.size nA.out; simp; omega) ?_; intro vB wB hB tB nB; have TB : Hid (Turns (fun k => (Value.slice CA cs.length cc).ownBlock = some k) wA wB) := (by first | exact Turns.trans (Turns.of_new (new_alloc wA _) _) tB (fun _ _ h => h) | exact Turns.trans (Turns.of_new (new_alloc wA _) _) tB.undrew (fun _ _ h => h) | exact Turns.trans (Turns.of_new (new_alloc wA _) _) tB.undrawn (fun _ _ h => h)); clear tokB tB nB))
            all_goals
              have HRB := hide (SRan.callMore HR1.out hBw1 nA.out HA.out HAN.out HAS.out hB TB.out)
              have HNB : Hid (New w0 wB) := hide (new_turns (new_trans HN1.out nA.out) TB.out (fun g hg => (HR1.out.calls.lt g hg).1))
              have hXB := (HX.out.new nA.out).turns TB.out (fun h => own_ne (HR1.out.new nA.out).calls (HX.out.new nA.out) (by decide) h)
              have hBwB := HNB.out.size
              have HOWMB := hide HRB.out.moved
              rw [HM3.out] at HOWMB
              have d1 : wB.cell? ⟨X, 1, none⟩ = some (.slice PA p.data.length pc) := hXB.get 1
              have d2 : wB.cell? ⟨X, 2, none⟩ = some (.int .i64 p.off) := hXB.get 2
              obtain ⟨aB, kB, rfl, -, -⟩ := Sl.of_own hB
              clear hB hXB HA HAN HAS b0 b1 b2 b3 HOWM HOWC TB nA x1 x2
              go_wp2_with fail
              refine (under_any limit (base + p.off) p.data.length _ hl1 hl2 (by omega) (by omega) hft).mono ?_
              rintro e w4 ⟨rfl, rfl⟩
              have hun := underG_n limit (base + p.off) p.data.length
              obtain ⟨hun1, hun2, hun3⟩ := hun
              generalize underG limit (base + p.off) p.data.length = U at *
              obtain ⟨un, uc⟩ := U
              simp only at hmv hun1 hun2 ⊢
              go_wp2_with (at_builtin; (with_reducible refine wpList_append_one rfl (.tmp 125) (.tmp 129) 49 rfl w0.heap.size 68 _ 2 16 Tryd.underlying49 infoSMoved rfl (by decide) _ _ _ rfl HOWMB.out [.int .i64 un, .int .i64 (uc : Nat)] _ rfl rfl ?c1 ?c2 ?c3 hBwB rfl ?_))
              case c1 => first | exact ⟨rfl, rfl⟩ | (intro u hu; simp at hu; rcases hu with rfl | rfl <;> rfl)
              case c2 => unfold maxLen; omega
              case c3 => omega
              intro v5 w5 hown5 ht5 hn5
              have HR5 : Hid (∃ css, SRan w0.heap.size w5 (runG base limit (ps.take (k + 1))).1 (runG base limit (ps.take (k + 1))).2.2 v5 (.slice aB (cs.length + 1) kB) css) := by
                rw [HST.out _ _ _ hmv]
                try rw [List.append_nil]
                exact ⟨_, HRB.out.movedMore (r := ⟨un, uc⟩) (by rw [HM3.out]; exact hown5) ht5⟩
              have hc5 : (runG base limit (ps.take (k + 1))).2.1 = base + a := by rw [HST.out _ _ _ hmv]
              have HN5 : Hid (New w0 w5) := hide (new_turns HNB.out ht5 (fun g hg => (HRB.out.moved.lt g hg).1))
              have HC5 := hide hc5
              clear hown5 ht5 hn5 hc5 hmv
              go_wp2
              go_roundw
              case rel => exact ⟨k + 1, a, by omega, by go_num, by go_num, HC5.out, HR5.out, HN5.out⟩
              case measure => simp [intOf]; omega
        · have k0 : (p.kind == 0) = false := by simp [hk0]
          have k1 : (p.kind == 1) = false := by simp [hk1]
          have s1 : IntKind.i64.wrap (a + p.off) = a + p.off := IntWalk.i64_in _ (by omega)
          by_cases hw0 : p.whence = 0
          · by_cases hneg : p.off < 0
            · have hmv := mv_seek0_neg (base := base) (limit := limit) (a := a) hk0 hk1 hw0 hneg
              rw [hw0] at b3
              go_wp2_with (at_builtin; (with_reducible refine wpList_append_one rfl (.tmp 49) (.tmp 51) 49 rfl w0.heap.size 68 _ 2 16 Tryd.underlying49 infoSMoved rfl (by decide) _ _ _ rfl HOWM.out [.int .i64 0, .int .i64 5] _ rfl rfl ?c1 ?c2 ?c3 hBw1 rfl ?_))
              case c1 => first | exact ⟨rfl, rfl⟩ | (intro u hu; simp at hu; rcases hu with rfl | rfl <;> rfl)
              case c2 => unfold maxLen; omega
              case c3 => omega
              intro v5 w5 hown5 ht5 hn5
              have HR5 : Hid (∃ css, SRan w0.heap.size w5 (runG base limit (ps.take (k + 1))).1 (runG base limit (ps.take (k + 1))).2.2 v5 (.slice CA cs.length cc) css) := by
                rw [HST.out _ _ _ hmv]
                try rw [List.append_nil]
                exact ⟨_, HR1.out.movedMore (r := ⟨0, 5⟩) (by rw [HM3.out]; exact hown5) ht5⟩
              have hc5 : (runG base limit (ps.take (k + 1))).2.1 = base + a := by rw [HST.out _ _ _ hmv]
              have HN5 : Hid (New w0 w5) := hide (new_turns HN1.out ht5 (fun g hg => (HR1.out.moved.lt g hg).1))
              have HC5 := hide hc5
              clear hown5 ht5 hn5 hc5 hmv
              go_wp2
              go_roundw
              case rel => exact ⟨k + 1, a, by omega, by go_num, rfl, HC5.out, HR5.out, HN5.out⟩
              case measure => simp [intOf]; omega
            · have hmv := mv_seek0 (base := base) (limit := limit) (a := a) hk0 hk1 hw0 hneg
              rw [hw0] at b3
              go_wp2_with (at_builtin; (with_reducible refine wpList_append_one rfl (.tmp 54) (.tmp 57) 49 rfl w0.heap.size 68 _ 2 16 Tryd.underlying49 infoSMoved rfl (by decide) _ _ _ rfl HOWM.out [.int .i64 p.off, .int .i64 0] _ rfl rfl ?c1 ?c2 ?c3 hBw1 rfl ?_))
              case c1 => first | exact ⟨rfl, rfl⟩ | (intro u hu; simp at hu; rcases hu with rfl | rfl <;> rfl)
              case c2 => unfold maxLen; omega
              case c3 => omega
              intro v5 w5 hown5 ht5 hn5
              have HR5 : Hid (∃ css, SRan w0.heap.size w5 (runG base limit (ps.take (k + 1))).1 (runG base limit (ps.take (k + 1))).2.2 v5 (.slice CA cs.length cc) css) := by
                rw [HST.out _ _ _ hmv]
                try rw [List.append_nil]
                exact ⟨_, HR1.out.movedMore (r := ⟨p.off, 0⟩) (by rw [HM3.out]; exact hown5) ht5⟩
              have hc5 : (runG base limit (ps.take (k + 1))).2.1 = base + p.off := by rw [HST.out _ _ _ hmv]
              have HN5 : Hid (New w0 w5) := hide (new_turns HN1.out ht5 (fun g hg => (HR1.out.moved.lt g hg).1))
              have HC5 := hide hc5
              clear hown5 ht5 hn5 hc5 hmv
              go_wp2
              go_roundw
              case rel => exact ⟨k + 1, p.off, by omega, by go_num, rfl, HC5.out, HR5.out, HN5.out⟩
              case measure => simp [intOf]; omega
          · by_cases hw1 : p.whence = 1
            · by_cases hneg : a + p.off < 0
              · have hmv := mv_seek1_neg (base := base) (limit := limit) (a := a) hk0 hk1 hw1 hneg
                rw [hw1] at b3
                go_wp2_with (at_builtin; (with_reducible refine wpList_append_one rfl (.tmp 49) (.tmp 51) 49 rfl w0.heap.size 68 _ 2 16 Tryd.underlying49 infoSMoved rfl (by decide) _ _ _ rfl HOWM.out [.int .i64 0, .int .i64 5] _ rfl rfl ?c1 ?c2 ?c3 hBw1 rfl ?_))
                case c1 => first | exact ⟨rfl, rfl⟩ | (intro u hu; simp at hu; rcases hu with rfl | rfl <;> rfl)
                case c2 => unfold maxLen; omega
                case c3 => omega
                intro v5 w5 hown5 ht5 hn5
                have HR5 : Hid (∃ css, SRan w0.heap.size w5 (runG base limit (ps.take (k + 1))).1 (runG base limit (ps.take (k + 1))).2.2 v5 (.slice CA cs.length cc) css) := by
                  rw [HST.out _ _ _ hmv]
                  try rw [List.append_nil]
                  exact ⟨_, HR1.out.movedMore (r := ⟨0, 5⟩) (by rw [HM3.out]; exact hown5) ht5⟩
                have hc5 : (runG base limit (ps.take (k + 1))).2.1 = base + a := by rw [HST.out _ _ _ hmv]
                have HN5 : Hid (New w0 w5) := hide (new_turns HN1.out ht5 (fun g hg => (HR1.out.moved.lt g hg).1))
                have HC5 := hide hc5
                clear hown5 ht5 hn5 hc5 hmv
                go_wp2
                go_roundw
                case rel => exact ⟨k + 1, a, by omega, by go_num, rfl, HC5.out, HR5.out, HN5.out⟩
                case measure => simp [intOf]; omega
              · have hmv := mv_seek1 (base := base) (limit := limit) (a := a) hk0 hk1 hw1 hneg
                rw [hw1] at b3
                go_wp2_with (at_builtin; (with_reducible refine wpList_append_one rfl (.tmp 54) (.tmp 57) 49 rfl w0.heap.size 68 _ 2 16 Tryd.underlying49 infoSMoved rfl (by decide) _ _ _ rfl HOWM.out [.int .i64 (a + p.off), .int .i64 0] _ rfl rfl ?c1 ?c2 ?c3 hBw1 rfl ?_))
                case c1 => first | exact ⟨rfl, rfl⟩ | (intro u hu; simp at hu; rcases hu with rfl | rfl <;> rfl)
                case c2 => unfold maxLen; omega
                case c3 => omega
                intro v5 w5 hown5 ht5 hn5
                have HR5 : Hid (∃ css, SRan w0.heap.size w5 (runG base limit (ps.take (k + 1))).1 (runG base limit (ps.take (k + 1))).2.2 v5 (.slice CA cs.length cc) css) := by
                  rw [HST.out _ _ _ hmv]
                  try rw [List.append_nil]
                  exact ⟨_, HR1.out.movedMore (r := ⟨(a + p.off), 0⟩) (by rw [HM3.out]; exact hown5) ht5⟩
                have hc5 : (runG base limit (ps.take (k + 1))).2.1 = base + (a + p.off) := by rw [HST.out _ _ _ hmv]
                have HN5 : Hid (New w0 w5) := hide (new_turns HN1.out ht5 (fun g hg => (HR1.out.moved.lt g hg).1))
                have HC5 := hide hc5
                clear hown5 ht5 hn5 hc5 hmv
                go_wp2
                go_roundw
                case rel => exact ⟨k + 1, (a + p.off), by omega, by go_num, rfl, HC5.out, HR5.out, HN5.out⟩
                case measure => simp [intOf]; omega
            · have hmv := mv_bad (base := base) (limit := limit) (a := a) hk0 hk1 hw0 hw1
              have w0' : (p.whence == 1) = false := by simp [hw1]
              have w1' : (p.whence != 0) = true := by simp [hw0]
              have w2' : (p.whence != 1) = true := by simp [hw1]
              go_wp2_with (at_builtin; (with_reducible refine wpList_append_one rfl (.tmp 49) (.tmp 51) 49 rfl w0.heap.size 68 _ 2 16 Tryd.underlying49 infoSMoved rfl (by decide) _ _ _ rfl HOWM.out [.int .i64 0, .int .i64 5] _ rfl rfl ?c1 ?c2 ?c3 hBw1 rfl ?_))
              case c1 => first | exact ⟨rfl, rfl⟩ | (intro u hu; simp at hu; rcases hu with rfl | rfl <;> rfl)
              case c2 => unfold maxLen; omega
              case c3 => omega
              intro v5 w5 hown5 ht5 hn5
              have HR5 : Hid (∃ css, SRan w0.heap.size w5 (runG base limit (ps.take (k + 1))).1 (runG base limit (ps.take (k + 1))).2.2 v5 (.slice CA cs.length cc) css) := by
                rw [HST.out _ _ _ hmv]
                try rw [List.append_nil]
                exact ⟨_, HR1.out.movedMore (r := ⟨0, 5⟩) (by rw [HM3.out]; exact hown5) ht5⟩
              have hc5 : (runG base limit (ps.take (k + 1))).2.1 = base + a := by rw [HST.out _ _ _ hmv]
              have HN5 : Hid (New w0 w5) := hide (new_turns HN1.out ht5 (fun g hg => (HR1.out.moved.lt g hg).1))
              have HC5 := hide hc5
              clear hown5 ht5 hn5 hc5 hmv
              go_wp2
              go_roundw
              case rel => exact ⟨k + 1, a, by omega, by go_num, rfl, HC5.out, HR5.out, HN5.out⟩
              case measure => simp [intOf]; omega
    · obtain rfl : k = ps.length := by omega
      rw [List.take_length] at hR ⊢
      have HRR := hide hR
      clear hR HR
      go_wp2
      go_ret2
      exact ⟨MA, mc, CA, cc, css, rfl, HRR.out, HN.out⟩

end Go.Proofs.YtnmdjhkeekhfbaaDoor
