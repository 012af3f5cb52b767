/-
  What impl.Outer does: whatever the data and the sizes, it returns true and both numbers.
-/
import Derived.Test.YtpcndmemfjnfaaaDoorRead
namespace Go.Proofs.YtpcndmemfjnfaaaDoor
open Go.RowKit
set_option linter.unusedVariables false

theorem info5 : (Tryd.prog.info? 5).map (fun i => (i.zero, i.size, i.bytes)) = some (some (.int .u8 0), 1, 1) := by kernel_rfl
theorem comp27 : (Tryd.prog.info? 27).map (·.comparable) = some true := by kernel_rfl
theorem size29 : (Tryd.prog.info? 29).map (·.size) = some 1 := by kernel_rfl

/-- The state between two reads. -/
def Mid (B sb tb dn lim : Nat) (off n : Int) (v eof : Value) (xs : List Value) (w wr : World) : Prop :=
  ∃ k : Nat, At wr sb 41 #[.iface 27 (.pointer (some ⟨tb, 0, none⟩)), .int .i64 off, .int .i64 k, .int .i64 lim, .int .i64 n] ∧ At wr tb 29 #[v] ∧
    wr.ownsRow B 5 1 v dn xs ∧ B ≤ sb ∧ B ≤ tb ∧ Below B w wr

theorem mid_read {B sb tb dn lim : Nat} {off n : Int} {v eof : Value} {xs : List Value} {w wr : World} (h : Mid B sb tb dn lim off n v eof xs w wr) (h1 : ∀ v ∈ xs, v.oneCell' = true) (hd : dn ≤ 65536) (hB : 0 < B)
    (hE : w.cell? ⟨0, 0, none⟩ = some eof) (hl : lim ≤ 9223372036854775807) (pn : Nat) (hp : pn ≤ 65536) :
    Calls Tryd.prog 6 #[.pointer (some ⟨sb, 0, none⟩), .slice (some ⟨wr.heap.size, 0, none⟩) pn pn] (wr.alloc (.cells (zeros pn).toArray 5)) fun e w' =>
      ∃ (a b : Value), e = .returned (.tuple #[a, b]) ∧ Mid B sb tb dn lim off n v eof xs w w' := by
  obtain ⟨k, hs, ht, hv, hBs, hBt, hb⟩ := h
  have hsz : wr.heap.size ≠ 0 := by have := hs.size_lt; omega
  refine (read sb tb wr.heap.size dn B pn pn k lim off n v xs (zeros pn) eof _ (hs.laid _) (ht.laid _) (hv.alloc _) h1 hd (At.made _ _ _) (by rw [zeros_length]; exact Nat.le_refl _) (Nat.le_refl _) (by omega)
    (((hb.alloc (by have := hs.size_lt; omega) _).cell (p := ⟨0, 0, none⟩) hB).trans hE) hsz (by have := hs.size_lt; omega) hl).mono ?_
  rintro e w1 ⟨k', a, b, rfl, _, hs1, htu⟩
  have hne : ¬ (tb = wr.heap.size ∨ tb = sb) := by
    rintro (e | e)
    · have := ht.size_lt; omega
    · exact (ht.apart hs (by decide)) e
  refine ⟨a, b, rfl, k', hs1, (ht.laid _).turns htu hne, own_turns (hv.alloc _) htu ?_, hBs, hBt, ?_⟩
  · rintro g hg (e | e)
    · have := (hv.lt g hg).2; omega
    · subst e; exact own_ne hv hs (by decide) hg
  · refine (hb.alloc (by have := hs.size_lt; omega) _).trans (htu.below (by have := hb.size; have := hs.size_lt; simp; omega) ?_)
    rintro i hi (e | e)
    · have := hs.size_lt; omega
    · omega

theorem run_mk (m : Nat) (hm : m ≤ 65536) (W : World) : (Instr.makeSlice 22 (.int .i64 (m : Int)) (.int .i64 (m : Int))).run Tryd.prog W = .ok (.slice (some ⟨W.heap.size, 0, none⟩) m m) (W.alloc (.cells (zeros m).toArray 5)) :=
  run_make_bytes 22 5 Tryd.underlying22 info5 m (by omega) W
theorem run_mk0 (W : World) : (Instr.makeSlice 22 (.int .i64 0) (.int .i64 0)).run Tryd.prog W = .ok (.slice (some ⟨W.heap.size, 0, none⟩) 0 0) (W.alloc (.cells (zeros 0).toArray 5)) :=
  run_mk 0 (by omega) W

theorem outerImpl (A SA : Option Addr) (dn dc sn sc : Nat) (off n : Int) (xs : List Value) (zs : List Int) (eof : Value) (w : World)
    (hd : Sl w 1 A dn xs) (hA : A = none → dc = 0) (h1 : ∀ u ∈ xs, u.oneCell' = true) (hdn : dn ≤ 65536)
    (hs : Sl w 1 SA sn (zs.map (Value.int .i64))) (hz : ∀ z ∈ zs, z ≤ 65536) (hsn : sn ≤ 1024)
    (ho0 : 0 ≤ off) (hn0 : 0 ≤ n) (ho : off ≤ 9223372036854775807) (hn : n ≤ 9223372036854775807)
    (hE : w.cell? ⟨0, 0, none⟩ = some eof) :
    Calls Tryd.prog 4 #[.slice A dn dc, .int .i64 off, .int .i64 n, .slice SA sn sc] w fun e w' => e = .returned (.tuple #[.bool true, .int .i64 off, .int .i64 n]) ∧ New w w' := by
  have HD := hide hd; have H1 := hide h1; have HS := hide hs; have HZ := hide hz; have HA := hide hA
  clear hd h1 hs hz hA
  obtain ⟨k0, rfl⟩ := Int.eq_ofNat_of_zero_le ho0
  go_enter Tryd.func4, Tryd.ntmps4
  go_wp2_with (at_builtin; (with_reducible refine wpList_append_empty rfl (.tmp 17) (.tmp 18) 22 rfl 5 (.int .u8 0) 1 1 Tryd.underlying22 info5 rfl (by decide) rfl A dn dc xs rfl HA.out HD.out H1.out ?c3 ?c4 ?_))
  case c3 => unfold maxLen; omega
  case c4 => omega
  intro v w1 hv hN hlt
  obtain ⟨VA, vc, rfl, -, -⟩ := Sl.of_own hv
  have HV := hide hv
  clear hv
  go_wp2_with fail
  refine (newSection _ _ _ _ ho0 hn0 ho hn _).mono ?_
  rintro e w2 ⟨rem, hr0, hr1, rfl, rfl⟩
  go_wp2_with fail
  obtain ⟨lim, rfl⟩ := Int.eq_ofNat_of_zero_le hr0
  have hM : Mid w.heap.size (w1.heap.size + 1) w1.heap.size dn lim k0 n (.slice VA dn vc) eof xs w ((w1.alloc (.cells #[.slice VA dn vc] 29)).alloc (.cells #[.iface 27 (.pointer (some ⟨w1.heap.size, 0, none⟩)), .int .i64 k0, .int .i64 k0, .int .i64 lim, .int .i64 n] 41)) :=
    ⟨k0, At.made' (by simp) _ _, (At.made' rfl _ _).laid _, (HV.out.alloc _).alloc _, by omega, by omega, (hN.alloc (by omega) _).alloc (by simp; omega) _⟩
  go_loopw [13] (fun i wr => ∃ j : Nat, j ≤ sn ∧ i = .int .i64 j ∧ Mid w.heap.size (w1.heap.size + 1) w1.heap.size dn lim k0 n (.slice VA dn vc) eof xs w wr) (fun i _ => sn - (intOf i).toNat)
  case atStart => exact ⟨0, Nat.zero_le _, rfl, hM⟩
  case round =>
    obtain ⟨j, hj, rfl, hmid⟩ := hrel
    have HM := hide hmid
    clear hmid hM
    by_cases hlt2 : j < sn
    · obtain ⟨ad, rfl, hadb, hcell⟩ := HS.out.2 (by omega)
      obtain ⟨z, hz⟩ : ∃ z, zs[j]? = some z := ⟨zs[j]'(by have := HS.out.1; simp at this; omega), List.getElem?_eq_getElem _⟩
      have hcz : wr.cell? (ad.add j) = some (.int .i64 z) := by
        obtain ⟨k, _, _, _, _, _, hb⟩ := HM.out
        rw [hb.cell (p := ad.add j) (by rw [block_add]; exact hadb)]
        exact hcell j _ (by simp [hz])
      clear hcell
      have hjn : (j : Int) < (sn : Int) := by omega
      have hzb := HZ.out z (List.mem_of_getElem? hz)
      have HZ1 := hide hz
      clear hz
      have hpos : 0 < w.heap.size := by have := World.block_lt_of_cell? w _ hE; simpa using this
      by_cases hz0 : 0 ≤ z
      · obtain ⟨m, rfl⟩ := Int.eq_ofNat_of_zero_le hz0
        have hmk := run_mk m (by omega)
        go_wp2_with fail
        refine (mid_read HM.out H1.out hdn hpos hE (by omega) m (by omega)).mono ?_
        rintro e w3 ⟨ra, rb, rfl, hM3⟩
        have HM3 := hide hM3
        clear hM3
        go_wp2
        go_roundw
        case rel => exact ⟨j + 1, by omega, by go_num, HM3.out⟩
        case measure => simp [intOf]; omega
      · have hmk := run_mk0
        go_wp2_with fail
        refine (mid_read HM.out H1.out hdn hpos hE (by omega) 0 (by omega)).mono ?_
        rintro e w3 ⟨ra, rb, rfl, hM3⟩
        have HM3 := hide hM3
        clear hM3
        go_wp2
        go_roundw
        case rel => exact ⟨j + 1, by omega, by go_num, HM3.out⟩
        case measure => simp [intOf]; omega
    · obtain ⟨i, hi, hcmp⟩ := Option.map_eq_some_iff.1 comp27
      obtain ⟨jj, hjj, _⟩ := Option.map_eq_some_iff.1 size29
      have heq := fun (w : World) (a : Addr) => run_eql_iface_ptr_same w a Tryd.underlying37 Tryd.underlying27 hi hcmp hjj
      obtain ⟨k, hs, ht, hv, hBs, hBt, hb⟩ := HM.out
      have HB := hide hb
      have HSS := hide hs
      clear hb hs ht hv
      go_wp2_with fail
      refine (outer _ _ _ _ _ _ _ HSS.out).mono ?_
      rintro e w2 ⟨rfl, m, rfl⟩
      go_wp2
      go_ret3
      exact ⟨rfl, below_drawn HB.out m⟩

end Go.Proofs.YtpcndmemfjnfaaaDoor
