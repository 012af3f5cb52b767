/-
  What the reference's (*Reader).Read returns: what Src.read says.
-/
import Derived.Test.YtdcdbbcphkhmeaaDoorReader
import Derived.Deep.DeepCutAuto
namespace Go.Proofs.YtdcdbbcphkhmeaaDoor
open Go.RowKit
set_option linter.unusedVariables false
set_option maxRecDepth 100000

/-- The reference's reader in memory; its rows came in. -/
structure SRd (w : World) (sb : Nat) (s : Src) (DA PA : Option Addr) (dc pcc at_ pc : Nat) : Prop where
  blk : At w sb 33 #[.slice DA s.data.length dc, .slice PA s.pieces.length pcc, .bool s.together, .bool s.broken, .int .i64 at_, .int .i64 pc]
  data : Sl w 1 DA s.data.length (s.data.map (Value.int .u8))
  pieces : Sl w 1 PA s.pieces.length (s.pieces.map (Value.int .i64))
  dataNe : ∀ ad, DA = some ad → 0 < s.data.length → ad.block ≠ sb
  piecesNe : ∀ ad, PA = some ad → 0 < s.pieces.length → ad.block ≠ sb

theorem SRd.turns {w w' : World} {sb : Nat} {s : Src} {DA PA : Option Addr} {dc pcc at_ pc : Nat} {S : Nat → Prop} (h : SRd w sb s DA PA dc pcc at_ pc) (ht : Turns S w w') (h1 : ¬ S sb)
    (h2 : ∀ ad, DA = some ad → 0 < s.data.length → ¬ S ad.block) (h3 : ∀ ad, PA = some ad → 0 < s.pieces.length → ¬ S ad.block) : SRd w' sb s DA PA dc pcc at_ pc :=
  ⟨h.blk.turns ht h1, h.data.turns ht h2, h.pieces.turns ht h3, h.dataNe, h.piecesNe⟩

theorem nmin_l {a b : Nat} (h : a ≤ b) : Nat.min a b = a := Nat.min_eq_left h
theorem nmin_r {a b : Nat} (h : b ≤ a) : Nat.min a b = b := Nat.min_eq_right h

theorem ended_any {w : World} {sb at_ pc dc pcc : Nat} {s : Src} {DA PA : Option Addr} (h : At w sb 33 #[.slice DA s.data.length dc, .slice PA s.pieces.length pcc, .bool s.together, .bool s.broken, .int .i64 at_, .int .i64 pc]) :
    Calls Tryd.prog 14 #[.pointer (some ⟨sb, 0, none⟩)] w fun e w' => e = .returned (.int .i64 (s.endCode : Nat)) ∧ w = w' := by
  have c3 : w.cell? ⟨sb, 3, none⟩ = some (.bool s.broken) := h.get 3
  clear h
  cases hb : s.broken with
  | true =>
    have e : s.endCode = 2 := by simp [Src.endCode, hb]
    rw [e]
    rw [hb] at c3
    clear e hb
    go_enter Tryd.func14, Tryd.ntmps14
    go_wp2
    go_ret
    exact ⟨rfl, rfl⟩
  | false =>
    have e : s.endCode = 1 := by simp [Src.endCode, hb]
    rw [e]
    rw [hb] at c3
    clear e hb
    go_enter Tryd.func14, Tryd.ntmps14
    go_wp2
    go_ret
    exact ⟨rfl, rfl⟩

def SReadPost (sb : Nat) (s : Src) (DA PA : Option Addr) (dc pcc at_ pc size : Nat) (w : World) (e : Ending) (w' : World) : Prop :=
  ∃ v, e = .returned (.tuple #[v, .int .i64 ((s.read at_ pc size).code : Nat)]) ∧ w'.ownsRow w.heap.size 5 1 v (s.read at_ pc size).bytes.length ((s.read at_ pc size).bytes.map (Value.int .u8)) ∧
    At w' sb 33 #[.slice DA s.data.length dc, .slice PA s.pieces.length pcc, .bool s.together, .bool s.broken, .int .i64 ((s.read at_ pc size).at_ : Nat), .int .i64 ((s.read at_ pc size).pc : Nat)] ∧ Turns (· = sb) w w'

theorem sread_zero {w : World} {sb : Nat} {s : Src} {DA PA : Option Addr} {dc pcc at_ pc : Nat} {z : Int} (h : SRd w sb s DA PA dc pcc at_ pc) (hz : z ≤ 0) :
    Calls Tryd.prog 9 #[.pointer (some ⟨sb, 0, none⟩), .int .i64 z] w (SReadPost sb s DA PA dc pcc at_ pc z.toNat w) := by
  have H := hide h
  clear h
  go_enter Tryd.func9, Tryd.ntmps9
  go_wp2
  go_ret2
  have er : s.read at_ pc z.toNat = ⟨[], 0, at_, pc⟩ := by unfold Src.read; rw [if_pos (by omega)]
  unfold SReadPost
  rw [er]
  exact ⟨_, rfl, lit_own 5 1 (At.made _ _ _) (Nat.le_refl _), H.out.blk.laid _, (Turns.refl _ _).alloc _⟩

theorem sread_end {w : World} {sb : Nat} {s : Src} {DA PA : Option Addr} {dc pcc pc : Nat} {z : Int} (h : SRd w sb s DA PA dc pcc s.data.length pc) (hz : 0 < z) :
    Calls Tryd.prog 9 #[.pointer (some ⟨sb, 0, none⟩), .int .i64 z] w (SReadPost sb s DA PA dc pcc s.data.length pc z.toNat w) := by
  have c0 := h.blk.get 0
  have c4 := h.blk.get 4
  have H := hide h
  clear h
  go_enter Tryd.func9, Tryd.ntmps9
  go_wp2_with fail
  go_quiet (fail)
  rename Nat => q1
  go_wp2_with fail
  refine (ended_any ((H.out.blk.laid _).drawn _)).mono ?_
  rintro e w1 ⟨rfl, rfl⟩
  go_wp2
  go_ret2
  have er : s.read s.data.length pc z.toNat = ⟨[], s.endCode, s.data.length, pc⟩ := by unfold Src.read; rw [if_neg (by omega), if_pos rfl]
  unfold SReadPost
  rw [er]
  exact ⟨_, rfl, lit_own 5 1 (by first | exact At.made _ _ _ | exact (At.made _ _ _).drawn _) (Nat.le_refl _), (H.out.blk.laid _).drawn _, ((Turns.refl _ _).alloc _).drawn _⟩

set_option maxHeartbeats 1000000 in
theorem sread_some {w : World} {sb : Nat} {s : Src} {DA PA : Option Addr} {dc pcc at_ pc : Nat} {m : Nat} (h : SRd w sb s DA PA dc pcc at_ pc) (hm : 0 < m) (hlt : at_ < s.data.length) (hdc : s.data.length ≤ dc) (hdm : dc ≤ 9223372036854775807)
    (hd : s.data.length ≤ 1000000000) (hpl : s.pieces.length ≤ 1000000000) (hml : m ≤ 1000000000) :
    Calls Tryd.prog 9 #[.pointer (some ⟨sb, 0, none⟩), .int .i64 (m : Int)] w (SReadPost sb s DA PA dc pcc at_ pc m w) := by
  have c0 := h.blk.get 0
  have c1 := h.blk.get 1
  have c4 := h.blk.get 4
  have c5 := h.blk.get 5
  have f5 := h.blk.soft 5
  have H := hide h
  clear h
  have hm1 : (0 : Int) < (m : Int) := by omega
  have hat1 : ((at_ : Int) == (s.data.length : Int)) = false := by simp; omega
  go_enter Tryd.func9, Tryd.ntmps9
  go_wp2_with fail
  go_quiet (fail)
  rename Nat => q1
  go_wp2_with fail
  go_quiet (fail)
  rename Nat => q2
  go_upto_if 37 with (fail)
  go_cut [6] (fun s6 wx => s6 = .int .i64 ((Nat.min m (s.data.length - at_) : Nat) : Int) ∧ wx = w.drewN (q1 + q2))
  case first =>
    by_cases hc : m < s.data.length - at_
    · have hc' : (m : Int) < (s.data.length : Int) - (at_ : Int) := by omega
      go_wp2_with fail
      go_meet
      case rel => exact ⟨congrArg (Value.int .i64) (by rw [nmin_l (by omega)]), rfl⟩
    · have hc' : (s.data.length : Int) - (at_ : Int) ≤ (m : Int) := by omega
      go_wp2_with fail
      go_meet
      case rel => exact ⟨congrArg (Value.int .i64) (by rw [nmin_r (by omega)]; omega), rfl⟩
  case rest =>
    obtain ⟨rfl, rfl⟩ := hcut
    have hnd : s.amount at_ pc m = if h : pc < s.pieces.length then Nat.min (Nat.min m (s.data.length - at_)) (Nat.max s.pieces[pc].toNat 1) else Nat.min m (s.data.length - at_) := rfl
    have HND := hide hnd
    clear hnd
    have hn0 : Nat.min m (s.data.length - at_) ≤ m ∧ Nat.min m (s.data.length - at_) ≤ s.data.length - at_ := ⟨Nat.min_le_left _ _, Nat.min_le_right _ _⟩
    generalize Nat.min m (s.data.length - at_) = n0 at *
    obtain ⟨hn1, hn2⟩ := hn0
    have hal := s.amount_le at_ pc m
    have hap := s.amount_pos at_ pc m hm hlt
    generalize hn : s.amount at_ pc m = n at *
    have HNN := hide hn
    clear hn
    obtain ⟨hal1, hal2⟩ := hal
    go_wp2_with fail
    go_quiet (fail)
    rename Nat => q3
    go_upto_if 48 with (fail)
    go_cut [6, 7] (fun s6 s7 wx => s6 = .int .i64 (n : Int) ∧ Hid (Sole w wx sb 33 #[.slice DA s.data.length dc, .slice PA s.pieces.length pcc, .bool s.together, .bool s.broken, .int .i64 at_, .int .i64 ((if pc < s.pieces.length then pc + 1 else pc : Nat) : Int)]))
    case first =>
      by_cases hpc : pc < s.pieces.length
      · obtain ⟨pad, rfl, hpadb, hpcell⟩ := H.out.pieces.2 (by omega)
        have cz : w.cell? (pad.add pc) = some (.int .i64 s.pieces[pc]) := hpcell pc _ (by simp [hpc])
        have hpi : (pc : Int) < (s.pieces.length : Int) := by omega
        have hp0 : (0 : Int) ≤ (pc : Int) := by omega
        have HV : Hid (n = Nat.min n0 (Nat.max s.pieces[pc].toNat 1)) := by
          show n = Nat.min n0 (Nat.max s.pieces[pc].toNat 1)
          rw [HND.out, dif_pos hpc]
        have hSole : ∀ q : Nat, Sole w ((w.drewN q).setCell ⟨sb, 5, none⟩ (.int .i64 ((pc : Int) + 1))) sb 33 #[.slice DA s.data.length dc, .slice (some pad) s.pieces.length pcc, .bool s.together, .bool s.broken, .int .i64 at_, .int .i64 ((if pc < s.pieces.length then pc + 1 else pc : Nat) : Int)] := fun q => by
          rw [if_pos hpc]
          exact ⟨(H.out.blk.drawn q).put 5 _, Turns.setCell (S := (· = sb)) ((Turns.refl _ _).drawn _) (fun _ => rfl) _⟩
        have HSO := hide hSole
        clear hSole
        clear hpcell
        generalize s.pieces[pc] = z at *
        go_wp2_with fail
        go_quiet (fail)
        rename Nat => q4
        by_cases hz1 : z < 1
        · have hm1 : Nat.max z.toNat 1 = 1 := Nat.max_eq_right (by omega)
          have HV1 : Hid (n = Nat.min n0 1) := by have := HV.out; rw [hm1] at this; exact this
          clear hm1
          by_cases hgt : 1 < n0
          · have hgt' : (1 : Int) < (n0 : Int) := by omega
            go_wp2_with fail
            go_meet
            case rel => exact ⟨congrArg (Value.int .i64) (by have := HV1.out; rw [nmin_r (by omega)] at this; omega), by first | exact HSO.out _ | skip⟩
          · have hgt' : (n0 : Int) ≤ 1 := by omega
            go_wp2_with fail
            go_meet
            case rel => exact ⟨congrArg (Value.int .i64) (by have := HV1.out; rw [nmin_l (by omega)] at this; omega), HSO.out _⟩
        · have hm1 : ((Nat.max z.toNat 1 : Nat) : Int) = z := by have : Nat.max z.toNat 1 = z.toNat := Nat.max_eq_left (by omega); rw [this]; omega
          have hz2 : 1 ≤ z := by omega
          by_cases hgt : z < (n0 : Int)
          · go_wp2_with fail
            go_meet
            case rel => exact ⟨congrArg (Value.int .i64) (by have := HV.out; rw [nmin_r (by omega)] at this; omega), HSO.out _⟩
          · have hgt' : (n0 : Int) ≤ z := by omega
            go_wp2_with fail
            go_meet
            case rel => exact ⟨congrArg (Value.int .i64) (by have := HV.out; rw [nmin_l (by omega)] at this; omega), HSO.out _⟩
      · go_wp2_with fail
        go_meet
        case rel =>
          refine ⟨congrArg (Value.int .i64) (by rw [HND.out, dif_neg hpc]), ?_⟩
          rw [if_neg hpc]
          exact ⟨(H.out.blk.drawn _).drawn _, ((Turns.refl _ _).drawn _).drawn _⟩
    case rest =>
      obtain ⟨rfl, hcut⟩ := hcut
      obtain ⟨ad, rfl, hadb, hdcell⟩ := H.out.data.2 (by omega)
      have hadne := H.out.dataNe ad rfl (by omega)
      generalize hp' : (if pc < s.pieces.length then pc + 1 else pc) = p' at *
      have HP' := hide hp'
      have d0 := hcut.out.at_.get 0
      have d2 := hcut.out.at_.get 2
      have d4 := hcut.out.at_.get 4
      have e4 := hcut.out.at_.soft 4
      have HSrc : Hid (Sl wc 1 (some (ad.add at_)) n (((s.data.drop at_).take n).map (Value.int .u8))) := by
        refine ⟨by simp; omega, fun _ => ⟨_, rfl, by rw [block_add]; have := hcut.out.turns.size; omega, fun j u hu => ?_⟩⟩
        have e1 : (ad.add at_).add j = ad.add (at_ + j) := by unfold Addr.add; by_cases h1 : at_ = 0 <;> by_cases h2 : j = 0 <;> simp [h1, h2, Nat.add_assoc]
        rw [e1, hcut.out.turns.cell (p := ad.add (at_ + j)) (by rw [block_add]; exact hadb) (by rw [block_add]; exact hadne)]
        refine hdcell _ _ ?_
        rw [List.getElem?_map, List.getElem?_take] at hu
        split at hu
        · rw [List.getElem?_map]
          rw [List.getElem?_drop] at hu
          exact hu
        · cases hu
      have hws := hcut.out.turns.size
      have hsbl := hcut.out.at_.size_lt
      clear hdcell c0 c1 c4 c5 f5 hp' hat1
      go_wp2_with fail
      have s1 : (0 : Int) ≤ (at_ : Int) := by omega
      have s2 : (at_ : Int) ≤ (at_ : Int) + (n : Int) := by omega
      have s3 : (at_ : Int) + (n : Int) ≤ (dc : Int) := by omega
      have s4 : (0 : Int) ≤ (at_ : Int) + (n : Int) := by omega
      have s5 : ((at_ : Int) + (n : Int)).toNat = at_ + n := by omega
      have s6 : IntKind.i64.wrap ((at_ : Int) + (n : Int)) = (at_ : Int) + (n : Int) := IntWalk.i64_in _ (by omega)
      have s7 : ¬ dc = at_ := by omega
      go_region_held3 (fun w' => w'.cell? ⟨sb, 0, none⟩ = some (.slice (some ad) s.data.length dc) ∧ w'.cell? ⟨sb, 4, none⟩ = some (.int .i64 at_)) (go_keep)
        ((refine step_append_lit (by rfl) (.tmp 72) (.tmp 87) 22 (by rfl) w.heap.size 5 (.int .u8 0) 1 1 Tryd.underlying22 info5 rfl (by decide) _ (by rfl) (by repeat (first | exact At.made' (by simp) _ _ | apply At.laid | apply At.drew | apply At.drawn)) (by exact hws) (some (ad.add at_)) n (dc - at_) _ (by rfl) (fun e => by cases e) (by exact HSrc.out.new (by repeat (first | exact new_refl _ | apply new_al | apply new_dr | apply new_drN))) (ints_oneCell _ _) (by unfold maxLen; omega) (by omega) ?_; intro v5 w5 h5 m5; have n5 : Hid (New wc w5) := hide (new_trans (by repeat (first | exact new_refl _ | apply new_al | apply new_dr | apply new_drN)) m5); have hX := hide (hcut.out.at_.new n5.out); have x0 := hX.out.get 0; have x4 := hX.out.get 4; obtain ⟨a5, k5, rfl, -, -⟩ := Sl.of_own h5; have H5 := hide h5; clear h5 m5))
      have f4 := hX.out.soft 4
      clear s1 s2 s3 s4 s5 s6 s7 d0 d2 d4 e4
      go_wp2_with fail
      have hA6 := (Sole.start hX.out).put 4 (.int .i64 ((at_ + n : Nat) : Int))
      have esum : (at_ : Int) + (n : Int) = ((at_ + n : Nat) : Int) := by omega
      rw [esum]
      have h5 : (Value.slice a5 n k5).ownBlock ≠ some sb := own_ne H5.out hX.out (by decide)
      have hlen : ((s.data.drop at_).take n).length = n := by rw [List.length_take, List.length_drop]; omega
      have hO6 := own_turns H5.out hA6.turns (fun g hg e => h5 (e ▸ hg))
      have hT6 : Turns (· = sb) w (w5.setCell ⟨sb, 4, none⟩ (.int .i64 ((at_ + n : Nat) : Int))) := (hcut.out.turns.trans (Turns.of_new n5.out (· = sb)) (fun _ _ h => h)).trans hA6.turns (fun _ _ h => h)
      have HA6 := hide hA6.at_; have HO6 := hide hO6; have HT6 := hide hT6
      clear hA6 hO6 hT6 x0 x4 f4 hX n5 h5 esum
      generalize w5.setCell ⟨sb, 4, none⟩ (.int .i64 ((at_ + n : Nat) : Int)) = w6 at *
      have b0 := HA6.out.get 0
      have b2 := HA6.out.get 2
      have b4 := HA6.out.get 4
      have fin : ∀ (q code : Nat), (code = if at_ + n = s.data.length ∧ s.together = true then s.endCode else 0) →
          SReadPost sb s (some ad) PA dc pcc at_ pc m w (.returned (.tuple #[.slice a5 n k5, .int .i64 (code : Nat)])) (w6.drewN q) := by
        intro q code hcode
        have er : s.read at_ pc m = ⟨(s.data.drop at_).take n, code, at_ + n, p'⟩ := by
          unfold Src.read
          rw [if_neg (by omega), if_neg (by omega), HNN.out, hcode, HP'.out]
        unfold SReadPost
        rw [er]
        exact ⟨_, rfl, by rw [hlen]; exact HO6.out, HA6.out.drawn _, HT6.out.drawn _⟩
      have HF := hide fin
      clear fin
      by_cases he : at_ + n = s.data.length
      · rw [he] at b4
        cases htg : s.together with
        | true =>
          rw [htg] at b2
          go_quiet (fail)
          rename Nat => q5
          go_wp2_with fail
          refine (ended_any (HA6.out.drawn _)).mono ?_
          rintro e w12 ⟨rfl, rfl⟩
          go_wp2
          go_ret2
          exact HF.out _ _ (by rw [if_pos ⟨he, htg⟩])
        | false =>
          rw [htg] at b2
          go_quiet (fail)
          rename Nat => q5
          go_wp2
          go_ret2
          exact HF.out _ 0 (by rw [if_neg (by rw [htg]; simp)])
      · have hg : ((at_ : Int) + (n : Int) == (s.data.length : Int)) = false := by simp; omega
        go_quiet (fail)
        rename Nat => q5
        go_wp2
        go_ret2
        exact HF.out _ 0 (by rw [if_neg (by omega)])

/-- The reference's Read, whatever the size and wherever it stands. -/
theorem sread_any {w : World} {sb : Nat} {s : Src} {DA PA : Option Addr} {dc pcc at_ pc : Nat} {z : Int} (h : SRd w sb s DA PA dc pcc at_ pc) (hle : at_ ≤ s.data.length) (hdc : s.data.length ≤ dc) (hdm : dc ≤ 9223372036854775807)
    (hd : s.data.length ≤ 1000000000) (hpl : s.pieces.length ≤ 1000000000) (hz : z ≤ 1000000000) :
    Calls Tryd.prog 9 #[.pointer (some ⟨sb, 0, none⟩), .int .i64 z] w (SReadPost sb s DA PA dc pcc at_ pc z.toNat w) := by
  by_cases h0 : z ≤ 0
  · exact sread_zero h h0
  · rcases Nat.eq_or_lt_of_le hle with rfl | hlt
    · exact sread_end h (by omega)
    · obtain ⟨m, rfl⟩ := Int.eq_ofNat_of_zero_le (show 0 ≤ z by omega)
      rw [Int.toNat_natCast]
      exact sread_some h (by omega) hlt hdc hdm hd hpl (by omega)

end Go.Proofs.YtdcdbbcphkhmeaaDoor
