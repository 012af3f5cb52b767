/-
  What the reference's Copy returns.
-/
import Derived.Test.YtnbhhckempbimaaDoorPair
import Derived.Test.YtnbhhckempbimaaDoorReader
namespace Go.Proofs.YtnbhhckempbimaaDoor
open Go.RowKit
set_option linter.unusedVariables false
set_option maxRecDepth 100000

def SpecPost (s : Src) (room : Int) (quiet : Bool) (w : World) (e : Ending) (w' : World) : Prop :=
  ∃ v, e = .returned (.tuple #[.int .i64 (s.most room : Nat), v, .int .i64 (s.copyCode room quiet : Nat)]) ∧ w'.ownsRow w.heap.size 5 1 v (s.most room) ((s.data.take (s.most room)).map (Value.int .u8)) ∧ New w w'

theorem core_full_true {w : World} {DA : Option Addr} {n : Nat} {room : Int} {quiet : Bool} (hr : 0 ≤ room) (hl : (n : Int) ≤ room) (hn : n ≤ 1000000) {xs : List Value} {dc : Nat} (hs : Sl w 1 DA n xs) (hDn : DA = none → dc = 0) (hx1 : ∀ u ∈ xs, u.oneCell' = true) :
    Calls Tryd.prog 16 #[.slice DA n dc, .bool true, .int .i64 room, .bool quiet] w fun e w' => ∃ v, e = .returned (.tuple #[.int .i64 (n : Nat), v, .int .i64 2]) ∧ w'.ownsRow w.heap.size 5 1 v n xs ∧ New w w' := by
  have HS := hide hs; have HDN := hide hDn; have HX := hide hx1
  clear hs hDn hx1
  go_enter Tryd.func16, Tryd.ntmps16
  go_wp2_with (at_builtin; (with_reducible refine wpList_append_empty rfl (.tmp 23) (.tmp 24) 22 rfl 5 (.int .u8 0) 1 1 Tryd.underlying22 info5 rfl (by decide) _ rfl DA n dc xs rfl HDN.out ?c1 HX.out ?c3 ?c4 rfl ?_))
  case c1 => exact HS.out
  case c3 => unfold maxLen; omega
  case c4 => omega
  intro v w1 hv hN hlt
  have HV := hide hv; have HN := hide hN
  clear hv hN hlt
  go_wp2
  go_ret3
  exact ⟨v, rfl, HV.out, HN.out⟩

theorem core_zero_true {w : World} {DA : Option Addr} {room : Int} {quiet : Bool} (hr : room < 0) {xs : List Value} {dc : Nat} (hs : Sl w 1 DA 0 xs) (hDn : DA = none → dc = 0) (hx1 : ∀ u ∈ xs, u.oneCell' = true) :
    Calls Tryd.prog 16 #[.slice DA 0 dc, .bool true, .int .i64 room, .bool quiet] w fun e w' => ∃ v, e = .returned (.tuple #[.int .i64 0, v, .int .i64 2]) ∧ w'.ownsRow w.heap.size 5 1 v 0 xs ∧ New w w' := by
  have HS := hide hs; have HDN := hide hDn; have HX := hide hx1
  clear hs hDn hx1
  go_enter Tryd.func16, Tryd.ntmps16
  go_wp2_with (at_builtin; (with_reducible refine wpList_append_empty rfl (.tmp 23) (.tmp 24) 22 rfl 5 (.int .u8 0) 1 1 Tryd.underlying22 info5 rfl (by decide) _ rfl DA 0 dc xs rfl HDN.out ?c1 HX.out ?c3 ?c4 rfl ?_))
  case c1 => exact HS.out
  case c3 => unfold maxLen; omega
  case c4 => omega
  intro v w1 hv hN hlt
  have HV := hide hv; have HN := hide hN
  clear hv hN hlt
  go_wp2
  go_ret3
  exact ⟨v, rfl, HV.out, HN.out⟩

theorem core_full_false {w : World} {DA : Option Addr} {n : Nat} {room : Int} {quiet : Bool} (hr : 0 ≤ room) (hl : (n : Int) ≤ room) (hn : n ≤ 1000000) {xs : List Value} {dc : Nat} (hs : Sl w 1 DA n xs) (hDn : DA = none → dc = 0) (hx1 : ∀ u ∈ xs, u.oneCell' = true) :
    Calls Tryd.prog 16 #[.slice DA n dc, .bool false, .int .i64 room, .bool quiet] w fun e w' => ∃ v, e = .returned (.tuple #[.int .i64 (n : Nat), v, .int .i64 0]) ∧ w'.ownsRow w.heap.size 5 1 v n xs ∧ New w w' := by
  have HS := hide hs; have HDN := hide hDn; have HX := hide hx1
  clear hs hDn hx1
  go_enter Tryd.func16, Tryd.ntmps16
  go_wp2_with (at_builtin; (with_reducible refine wpList_append_empty rfl (.tmp 33) (.tmp 34) 22 rfl 5 (.int .u8 0) 1 1 Tryd.underlying22 info5 rfl (by decide) _ rfl DA n dc xs rfl HDN.out ?c1 HX.out ?c3 ?c4 rfl ?_))
  case c1 => exact HS.out
  case c3 => unfold maxLen; omega
  case c4 => omega
  intro v w1 hv hN hlt
  have HV := hide hv; have HN := hide hN
  clear hv hN hlt
  go_wp2
  go_ret3
  exact ⟨v, rfl, HV.out, HN.out⟩

theorem core_zero_false {w : World} {DA : Option Addr} {room : Int} {quiet : Bool} (hr : room < 0) {xs : List Value} {dc : Nat} (hs : Sl w 1 DA 0 xs) (hDn : DA = none → dc = 0) (hx1 : ∀ u ∈ xs, u.oneCell' = true) :
    Calls Tryd.prog 16 #[.slice DA 0 dc, .bool false, .int .i64 room, .bool quiet] w fun e w' => ∃ v, e = .returned (.tuple #[.int .i64 0, v, .int .i64 0]) ∧ w'.ownsRow w.heap.size 5 1 v 0 xs ∧ New w w' := by
  have HS := hide hs; have HDN := hide hDn; have HX := hide hx1
  clear hs hDn hx1
  go_enter Tryd.func16, Tryd.ntmps16
  go_wp2_with (at_builtin; (with_reducible refine wpList_append_empty rfl (.tmp 33) (.tmp 34) 22 rfl 5 (.int .u8 0) 1 1 Tryd.underlying22 info5 rfl (by decide) _ rfl DA 0 dc xs rfl HDN.out ?c1 HX.out ?c3 ?c4 rfl ?_))
  case c1 => exact HS.out
  case c3 => unfold maxLen; omega
  case c4 => omega
  intro v w1 hv hN hlt
  have HV := hide hv; have HN := hide hN
  clear hv hN hlt
  go_wp2
  go_ret3
  exact ⟨v, rfl, HV.out, HN.out⟩

theorem core_part_true {w : World} {ad : Addr} {n m : Nat} {br : Bool} (hl : (m : Int) < (n : Int)) (hn : n ≤ 1000000) {xs : List Value} {dc : Nat} (hs : Sl w 1 (some ad) m xs) (hDn : some ad = none → dc = 0) (hmd : (m : Int) ≤ (dc : Int)) (hx1 : ∀ u ∈ xs, u.oneCell' = true) :
    Calls Tryd.prog 16 #[.slice (some ad) n dc, .bool br, .int .i64 (m : Int), .bool true] w fun e w' => ∃ v, e = .returned (.tuple #[.int .i64 (m : Int), v, .int .i64 4]) ∧ w'.ownsRow w.heap.size 5 1 v m xs ∧ New w w' := by
  have HS := hide hs; have HDN := hide hDn; have HX := hide hx1
  clear hs hDn hx1
  go_enter Tryd.func16, Tryd.ntmps16
  go_wp2_with (at_builtin; (with_reducible refine wpList_append_empty rfl (.tmp 39) (.tmp 42) 22 rfl 5 (.int .u8 0) 1 1 Tryd.underlying22 info5 rfl (by decide) _ rfl (some ad) m dc xs rfl HDN.out ?c1 HX.out ?c3 ?c4 rfl ?_))
  case c1 => exact HS.out
  case c3 => unfold maxLen; omega
  case c4 => omega
  intro v w1 hv hN hlt
  have HV := hide hv; have HN := hide hN
  clear hv hN hlt
  go_wp2
  go_ret3
  exact ⟨v, rfl, HV.out, HN.out⟩

theorem core_neg_true {w : World} {ad : Addr} {n : Nat} {room : Int} {br : Bool} (hr : room < 0) (hl : (0 : Int) < (n : Int)) (hn : n ≤ 1000000) {xs : List Value} {dc : Nat} (hs : Sl w 1 (some ad) 0 xs) (hDn : some ad = none → dc = 0) (hx1 : ∀ u ∈ xs, u.oneCell' = true) :
    Calls Tryd.prog 16 #[.slice (some ad) n dc, .bool br, .int .i64 room, .bool true] w fun e w' => ∃ v, e = .returned (.tuple #[.int .i64 0, v, .int .i64 4]) ∧ w'.ownsRow w.heap.size 5 1 v 0 xs ∧ New w w' := by
  have HS := hide hs; have HDN := hide hDn; have HX := hide hx1
  clear hs hDn hx1
  go_enter Tryd.func16, Tryd.ntmps16
  go_wp2_with (at_builtin; (with_reducible refine wpList_append_empty rfl (.tmp 39) (.tmp 42) 22 rfl 5 (.int .u8 0) 1 1 Tryd.underlying22 info5 rfl (by decide) _ rfl (some ad) 0 dc xs rfl HDN.out ?c1 HX.out ?c3 ?c4 rfl ?_))
  case c1 => exact HS.out
  case c3 => unfold maxLen; omega
  case c4 => omega
  intro v w1 hv hN hlt
  have HV := hide hv; have HN := hide hN
  clear hv hN hlt
  go_wp2
  go_ret3
  exact ⟨v, rfl, HV.out, HN.out⟩

theorem core_part_false {w : World} {ad : Addr} {n m : Nat} {br : Bool} (hl : (m : Int) < (n : Int)) (hn : n ≤ 1000000) {xs : List Value} {dc : Nat} (hs : Sl w 1 (some ad) m xs) (hDn : some ad = none → dc = 0) (hmd : (m : Int) ≤ (dc : Int)) (hx1 : ∀ u ∈ xs, u.oneCell' = true) :
    Calls Tryd.prog 16 #[.slice (some ad) n dc, .bool br, .int .i64 (m : Int), .bool false] w fun e w' => ∃ v, e = .returned (.tuple #[.int .i64 (m : Int), v, .int .i64 3]) ∧ w'.ownsRow w.heap.size 5 1 v m xs ∧ New w w' := by
  have HS := hide hs; have HDN := hide hDn; have HX := hide hx1
  clear hs hDn hx1
  go_enter Tryd.func16, Tryd.ntmps16
  go_wp2_with (at_builtin; (with_reducible refine wpList_append_empty rfl (.tmp 45) (.tmp 48) 22 rfl 5 (.int .u8 0) 1 1 Tryd.underlying22 info5 rfl (by decide) _ rfl (some ad) m dc xs rfl HDN.out ?c1 HX.out ?c3 ?c4 rfl ?_))
  case c1 => exact HS.out
  case c3 => unfold maxLen; omega
  case c4 => omega
  intro v w1 hv hN hlt
  have HV := hide hv; have HN := hide hN
  clear hv hN hlt
  go_wp2
  go_ret3
  exact ⟨v, rfl, HV.out, HN.out⟩

theorem core_neg_false {w : World} {ad : Addr} {n : Nat} {room : Int} {br : Bool} (hr : room < 0) (hl : (0 : Int) < (n : Int)) (hn : n ≤ 1000000) {xs : List Value} {dc : Nat} (hs : Sl w 1 (some ad) 0 xs) (hDn : some ad = none → dc = 0) (hx1 : ∀ u ∈ xs, u.oneCell' = true) :
    Calls Tryd.prog 16 #[.slice (some ad) n dc, .bool br, .int .i64 room, .bool false] w fun e w' => ∃ v, e = .returned (.tuple #[.int .i64 0, v, .int .i64 3]) ∧ w'.ownsRow w.heap.size 5 1 v 0 xs ∧ New w w' := by
  have HS := hide hs; have HDN := hide hDn; have HX := hide hx1
  clear hs hDn hx1
  go_enter Tryd.func16, Tryd.ntmps16
  go_wp2_with (at_builtin; (with_reducible refine wpList_append_empty rfl (.tmp 45) (.tmp 48) 22 rfl 5 (.int .u8 0) 1 1 Tryd.underlying22 info5 rfl (by decide) _ rfl (some ad) 0 dc xs rfl HDN.out ?c1 HX.out ?c3 ?c4 rfl ?_))
  case c1 => exact HS.out
  case c3 => unfold maxLen; omega
  case c4 => omega
  intro v w1 hv hN hlt
  have HV := hide hv; have HN := hide hN
  clear hv hN hlt
  go_wp2
  go_ret3
  exact ⟨v, rfl, HV.out, HN.out⟩

theorem spec_any {w : World} {s : Src} {DA : Option Addr} {dc : Nat} {room : Int} {quiet : Bool} (hd : Sl w 1 DA s.data.length (s.data.map (Value.int .u8))) (hDn : DA = none → dc = 0) (hdc : s.data.length ≤ dc) (hdm : dc ≤ 9223372036854775807) (hdl : s.data.length ≤ 1000000) (hr2 : room ≤ 9223372036854775807) :
    Calls Tryd.prog 16 #[.slice DA s.data.length dc, .bool s.broken, .int .i64 room, .bool quiet] w (SpecPost s room quiet w) := by
  by_cases hl : s.data.length ≤ room.toNat
  · have hm : s.most room = s.data.length := Nat.min_eq_right hl
    have fin : ∀ e w', (∃ v, e = .returned (.tuple #[.int .i64 (s.data.length : Nat), v, .int .i64 (s.copyCode room quiet : Nat)]) ∧ w'.ownsRow w.heap.size 5 1 v s.data.length (s.data.map (Value.int .u8)) ∧ New w w') → SpecPost s room quiet w e w' := by
      rintro e w' ⟨v, he, hv, hN⟩
      refine ⟨v, by rw [hm]; exact he, ?_, hN⟩
      rw [hm, List.take_length]
      exact hv
    by_cases hr : room < 0
    · have h0 : s.data.length = 0 := by omega
      cases hb : s.broken with
      | true =>
        have hcode : s.copyCode room quiet = 2 := by unfold Src.copyCode; rw [if_pos hl, hb]; rfl
        rw [hcode] at fin
        rw [h0] at fin hd ⊢
        exact (core_zero_true hr hd hDn (ints_oneCell _ _)).mono fin
      | false =>
        have hcode : s.copyCode room quiet = 0 := by unfold Src.copyCode; rw [if_pos hl, hb]; rfl
        rw [hcode] at fin
        rw [h0] at fin hd ⊢
        exact (core_zero_false hr hd hDn (ints_oneCell _ _)).mono fin
    · cases hb : s.broken with
      | true =>
        have hcode : s.copyCode room quiet = 2 := by unfold Src.copyCode; rw [if_pos hl, hb]; rfl
        rw [hcode] at fin
        exact (core_full_true (by omega) (by omega) hdl hd hDn (ints_oneCell _ _)).mono fin
      | false =>
        have hcode : s.copyCode room quiet = 0 := by unfold Src.copyCode; rw [if_pos hl, hb]; rfl
        rw [hcode] at fin
        exact (core_full_false (by omega) (by omega) hdl hd hDn (ints_oneCell _ _)).mono fin
  · obtain ⟨ad, rfl, hab, hcell⟩ := hd.2 (by omega)
    by_cases hr : room < 0
    · have hm : s.most room = 0 := by unfold Src.most; rw [show room.toNat = 0 by omega]; exact Nat.min_eq_left (Nat.zero_le _)
      have fin : ∀ e w', (∃ v, e = .returned (.tuple #[.int .i64 0, v, .int .i64 (s.copyCode room quiet : Nat)]) ∧ w'.ownsRow w.heap.size 5 1 v 0 [] ∧ New w w') → SpecPost s room quiet w e w' := by
        rintro e w' ⟨v, he, hv, hN⟩
        refine ⟨v, by rw [hm]; exact he, ?_, hN⟩
        rw [hm]
        exact hv
      cases quiet with
      | true =>
        have hcode : s.copyCode room true = 4 := by unfold Src.copyCode; rw [if_neg hl]; rfl
        rw [hcode] at fin
        exact (core_neg_true (xs := []) hr (by omega) hdl (Sl.none_ _ _ _) hDn (by simp)).mono fin
      | false =>
        have hcode : s.copyCode room false = 3 := by unfold Src.copyCode; rw [if_neg hl]; rfl
        rw [hcode] at fin
        exact (core_neg_false (xs := []) hr (by omega) hdl (Sl.none_ _ _ _) hDn (by simp)).mono fin
    · obtain ⟨m, rfl⟩ := Int.eq_ofNat_of_zero_le (show 0 ≤ room by omega)
      have hl' : ¬ s.data.length ≤ m := by rw [Int.toNat_natCast] at hl; exact hl
      have hm : s.most (m : Int) = m := by unfold Src.most; rw [Int.toNat_natCast]; exact Nat.min_eq_left (by omega)
      have hs : Sl w 1 (some ad) m ((s.data.take m).map (Value.int .u8)) := by
        refine ⟨by simp; omega, fun _ => ⟨ad, rfl, hab, fun j u hu => hcell j u ?_⟩⟩
        rw [List.getElem?_map, List.getElem?_take] at hu
        split at hu
        · rw [List.getElem?_map]; exact hu
        · cases hu
      have fin : ∀ e w', (∃ v, e = .returned (.tuple #[.int .i64 (m : Int), v, .int .i64 (s.copyCode (m : Int) quiet : Nat)]) ∧ w'.ownsRow w.heap.size 5 1 v m ((s.data.take m).map (Value.int .u8)) ∧ New w w') → SpecPost s (m : Int) quiet w e w' := by
        rintro e w' ⟨v, he, hv, hN⟩
        refine ⟨v, by rw [hm]; exact he, ?_, hN⟩
        rw [hm]
        exact hv
      cases quiet with
      | true =>
        have hcode : s.copyCode (m : Int) true = 4 := by unfold Src.copyCode; rw [if_neg hl]; rfl
        rw [hcode] at fin
        exact (core_part_true (by omega) hdl hs hDn (by omega) (ints_oneCell _ _)).mono fin
      | false =>
        have hcode : s.copyCode (m : Int) false = 3 := by unfold Src.copyCode; rw [if_neg hl]; rfl
        rw [hcode] at fin
        exact (core_part_false (by omega) hdl hs hDn (by omega) (ints_oneCell _ _)).mono fin

end Go.Proofs.YtnbhhckempbimaaDoor
