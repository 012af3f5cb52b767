/-
  What io.NewSectionReader, (*SectionReader).Read, (*SectionReader).Outer and (*text).ReadAt do.
-/
import Derived.Test.YtpcndmemfjnfaaaDoorProg
import Derived.Test.YtpcndmemfjnfaaaDoorWords
import Derived.WalkLawsBesides
import Derived.Deep.QuietTactic
import Derived.BigQuiet
import Derived.LaidEql
import Derived.Deep.RegionHeld3
namespace Go.Proofs.YtpcndmemfjnfaaaDoor
open Go.RowKit
set_option linter.unusedVariables false

/-- What a ReadAt of the text leaves: a number that leads no further than the data's end, some error value, and only block pb turned. -/
def ReadAtPost (pb dn k : Nat) (w : World) (e : Ending) (w' : World) : Prop :=
  ∃ (n : Nat) (ev : Value), e = .returned (.tuple #[.int .i64 n, ev]) ∧ (n = 0 ∨ k + n ≤ dn) ∧ Turns (· = pb) w w'

theorem readAt_past (tb pb dn dc pn pc k : Nat) (A : Option Addr) (eof : Value) (w : World) (ht : At w tb 29 #[.slice A dn dc])
    (hE : w.cell? ⟨0, 0, none⟩ = some eof) (hk : dn ≤ k) :
    Calls Tryd.prog 23 #[.pointer (some ⟨tb, 0, none⟩), .slice (some ⟨pb, 0, none⟩) pn pc, .int .i64 k] w (ReadAtPost pb dn k w) := by
  have h0 : w.cell? ⟨tb, 0, none⟩ = some (.slice A dn dc) := ht.get 0
  clear ht
  have hk' : (dn : Int) ≤ (k : Int) := by omega
  go_enter Tryd.func23, Tryd.ntmps23
  go_wp2
  go_quiet (fail)
  go_wp2
  go_ret2
  exact ⟨0, eof, rfl, .inl rfl, (Turns.refl _ _).drawn _⟩

theorem size5 : (Tryd.prog.info? 5).map (·.size) = some 1 := by kernel_rfl

theorem readAt_in (tb g pb dn dc pn pc k : Nat) (xs pcur : List Value) (eof : Value) (w : World) (ht : At w tb 29 #[.slice (some ⟨g, 0, none⟩) dn dc])
    (hg : ∀ j u, xs[j]? = some u → w.cell? ⟨g, j, none⟩ = some u) (h1 : ∀ v ∈ xs, v.oneCell' = true) (hdc : dn ≤ dc) (hcur : xs.length = dn) (hmx : dc ≤ 9223372036854775807)
    (hp : At w pb 5 pcur.toArray) (hpn : pn ≤ pcur.length)
    (hE : w.cell? ⟨0, 0, none⟩ = some eof) (hpb : pb ≠ 0) (hk : k < dn) :
    Calls Tryd.prog 23 #[.pointer (some ⟨tb, 0, none⟩), .slice (some ⟨pb, 0, none⟩) pn pc, .int .i64 k] w (ReadAtPost pb dn k w) := by
  have h0 : w.cell? ⟨tb, 0, none⟩ = some (.slice (some ⟨g, 0, none⟩) dn dc) := ht.get 0
  have hk' : (k : Int) < (dn : Int) := by omega
  have hk0 : (0 : Int) ≤ (k : Int) := by omega
  obtain ⟨cs, hcs⟩ : ∃ cs : List Value, cs = (xs.drop k).take (Nat.min (dn - k) pn) := ⟨_, rfl⟩
  have hlen : cs.length = Nat.min (dn - k) pn := by rw [hcs, List.length_take, List.length_drop, hcur]; simp only [Nat.min_def]; split <;> split <;> omega
  have hle : cs.length ≤ dn - k ∧ cs.length ≤ pn := by rw [hlen]; exact ⟨Nat.min_le_left _ _, Nat.min_le_right _ _⟩
  have hone : ∀ v ∈ cs, v.oneCell' = true := fun v hv => h1 v (List.mem_of_mem_drop (List.mem_of_mem_take (hcs ▸ hv)))
  have hsrc : ∀ j v, cs[j]? = some v → w.cell? ⟨g, k + j, none⟩ = some v := by
    intro j v hv
    refine hg _ _ ?_
    rw [hcs, List.getElem?_take] at hv
    split at hv
    · simpa using hv
    · cases hv
  have HL := hide hlen; have HO := hide hone; have HS := hide hsrc; have HP := hide hp
  clear hcs hlen hone hsrc h1 hp hg hcur ht
  obtain ⟨hle1, hle2⟩ := hle
  go_enter Tryd.func23, Tryd.ntmps23
  go_wp2_with (with_reducible refine wpList_copy_at rfl (.tmp 21) (.tmp 27) 22 22 rfl 5 Tryd.underlying22 size5 _ _ _ _ _ _ rfl rfl pb 0 pcur 5 HP.out cs ?c1 ?c2 ?c3 HO.out ?_)
  case c1 => exact HL.out
  case c2 => exact fun _ => HS.out
  case c3 => omega
  intro w1 hat htu
  have hE1 : w1.cell? ⟨0, 0, none⟩ = some eof := (htu.cell (p := ⟨0, 0, none⟩) (World.block_lt_of_cell? w _ hE) (Ne.symm hpb)).trans hE
  clear hat HP HS HO HL h0 hE
  by_cases hlt : cs.length < pn
  · go_wp2
    go_quiet (fail)
    go_wp2
    go_ret2
    exact ⟨cs.length, eof, rfl, .inr (by omega), htu.drawn _⟩
  · go_wp2
    go_ret2
    exact ⟨cs.length, .nilIface, rfl, .inr (by omega), htu⟩

theorem add0 (g j : Nat) : (⟨g, 0, none⟩ : Addr).add j = ⟨g, j, none⟩ := by unfold Addr.add; split <;> simp_all

theorem readAt (tb pb dn base pn pc k : Nat) (v : Value) (xs pcur : List Value) (eof : Value) (w : World) (ht : At w tb 29 #[v])
    (hv : w.ownsRow base 5 1 v dn xs) (h1 : ∀ v ∈ xs, v.oneCell' = true)
    (hp : At w pb 5 pcur.toArray) (hpn : pn ≤ pcur.length)
    (hE : w.cell? ⟨0, 0, none⟩ = some eof) (hpb : pb ≠ 0) :
    Calls Tryd.prog 23 #[.pointer (some ⟨tb, 0, none⟩), .slice (some ⟨pb, 0, none⟩) pn pc, .int .i64 k] w (ReadAtPost pb dn k w) := by
  rcases hv.2 with ⟨rfl, rfl⟩ | ⟨g, cap, cur, rfl, hb, hg, hnc, hcm, r⟩
  · exact readAt_past tb pb 0 0 pn pc k none eof w ht hE (Nat.zero_le _)
  · by_cases hk : k < dn
    · exact readAt_in tb g pb dn cap pn pc k xs pcur eof w ht (fun j u hu => add0 g j ▸ hv.cells (g := g) rfl j u hu) h1 hnc (by simpa using hv.1) (by unfold maxLen at hcm; omega) hp hpn hE hpb hk
    · exact readAt_past tb pb dn cap pn pc k _ eof w ht hE (by omega)

theorem newSection (t : TypeId) (a : Addr) (off n : Int) (h0 : 0 ≤ off) (h1 : 0 ≤ n) (h2 : off ≤ 9223372036854775807) (h3 : n ≤ 9223372036854775807) (w : World) :
    Calls Tryd.prog 5 #[.iface t (.pointer (some a)), .int .i64 off, .int .i64 n] w fun e w' => ∃ rem : Int, 0 ≤ rem ∧ rem ≤ 9223372036854775807 ∧ e = .returned (.pointer (some ⟨w.heap.size, 0, none⟩)) ∧
      w' = w.alloc (.cells #[.iface t (.pointer (some a)), .int .i64 off, .int .i64 off, .int .i64 rem, .int .i64 n] 41) := by
  go_enter Tryd.func5, Tryd.ntmps5
  go_wp2
  · go_ret
    exact ⟨n + off, by omega, by omega, rfl, rfl⟩
  · go_ret
    exact ⟨9223372036854775807, by omega, by omega, rfl, rfl⟩

theorem outer (b : Nat) (r x y : Value) (off n : Int) (w : World) (h : At w b 41 #[r, .int .i64 off, x, y, .int .i64 n]) :
    Calls Tryd.prog 7 #[.pointer (some ⟨b, 0, none⟩)] w fun e w' => e = .returned (.tuple #[r, .int .i64 off, .int .i64 n]) ∧ ∃ m, w' = w.drewN m := by
  have h0 : w.cell? ⟨b, 0, none⟩ = some r := h.get 0
  have h1 : w.cell? ⟨b, 1, none⟩ = some (.int .i64 off) := h.get 1
  have h4 : w.cell? ⟨b, 4, none⟩ = some (.int .i64 n) := h.get 4
  clear h
  go_enter Tryd.func7, Tryd.ntmps7
  go_wp2
  go_quiet (fail)
  go_wp2
  go_ret3
  exact ⟨rfl, _, rfl⟩

end Go.Proofs.YtpcndmemfjnfaaaDoor
