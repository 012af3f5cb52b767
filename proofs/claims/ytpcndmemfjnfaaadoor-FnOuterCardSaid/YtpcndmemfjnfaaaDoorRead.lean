/-
  What (*SectionReader).Read does over a text: it turns the buffer and the reader's offset alone, and never leads the offset past the data's end.
-/
import Derived.Test.YtpcndmemfjnfaaaDoorBase
namespace Go.Proofs.YtpcndmemfjnfaaaDoor
open Go.RowKit
set_option linter.unusedVariables false

def ReadPost (sb pb tb dn k lim : Nat) (base n : Int) (w : World) (e : Ending) (w' : World) : Prop :=
  ∃ (k' : Nat) (v ev : Value), e = .returned (.tuple #[v, ev]) ∧ (k' = k ∨ k' ≤ dn) ∧
    At w' sb 41 #[.iface 27 (.pointer (some ⟨tb, 0, none⟩)), .int .i64 base, .int .i64 k', .int .i64 lim, .int .i64 n] ∧ Turns (fun b => b = pb ∨ b = sb) w w'

theorem read_end (sb pb tb dn pn pc k lim : Nat) (base n : Int) (eof : Value) (w : World)
    (hs : At w sb 41 #[.iface 27 (.pointer (some ⟨tb, 0, none⟩)), .int .i64 base, .int .i64 k, .int .i64 lim, .int .i64 n])
    (hE : w.cell? ⟨0, 0, none⟩ = some eof) (hk : lim ≤ k) :
    Calls Tryd.prog 6 #[.pointer (some ⟨sb, 0, none⟩), .slice (some ⟨pb, 0, none⟩) pn pc] w (ReadPost sb pb tb dn k lim base n w) := by
  have h2 : w.cell? ⟨sb, 2, none⟩ = some (.int .i64 k) := hs.get 2
  have h3 : w.cell? ⟨sb, 3, none⟩ = some (.int .i64 lim) := hs.get 3
  have H := hide hs
  clear hs
  go_enter Tryd.func6, Tryd.ntmps6
  go_wp2
  go_quiet (fail)
  go_wp2
  go_quiet (fail)
  go_wp2
  go_ret2
  exact ⟨k, _, _, rfl, .inl rfl, H.out, ((Turns.refl _ _).drawn _).drawn _⟩

theorem method_readAt (a : Addr) (w : World) : (method 165 27 (.pointer (some a)) "ReadAt").run Tryd.prog w = .ok (23, .pointer (some a)) w := by kernel_rfl

theorem call_readAt (args : Array Value) (w : World) : (callFunc 23 args).run Tryd.prog w = .ok (.enter 23 args) w := by kernel_rfl

theorem read_go (sb tb pb dn B pn pc k lim : Nat) (base n : Int) (v : Value) (xs pcur : List Value) (eof : Value) (w : World)
    (hs : At w sb 41 #[.iface 27 (.pointer (some ⟨tb, 0, none⟩)), .int .i64 base, .int .i64 k, .int .i64 lim, .int .i64 n])
    (ht : At w tb 29 #[v]) (hv : w.ownsRow B 5 1 v dn xs) (h1 : ∀ v ∈ xs, v.oneCell' = true) (hd : dn ≤ 65536)
    (hp : At w pb 5 pcur.toArray) (hpn : pn ≤ pcur.length) (hpc : pn ≤ pc) (hpm : pc ≤ 9223372036854775807)
    (hE : w.cell? ⟨0, 0, none⟩ = some eof) (hpb : pb ≠ 0) (hsp : sb ≠ pb) (hk : k < lim) (hl : lim ≤ 9223372036854775807) :
    Calls Tryd.prog 6 #[.pointer (some ⟨sb, 0, none⟩), .slice (some ⟨pb, 0, none⟩) pn pc] w (ReadPost sb pb tb dn k lim base n w) := by
  have c0 : w.cell? ⟨sb, 0, none⟩ = some (.iface 27 (.pointer (some ⟨tb, 0, none⟩))) := hs.get 0
  have c2 : w.cell? ⟨sb, 2, none⟩ = some (.int .i64 k) := hs.get 2
  have c3 : w.cell? ⟨sb, 3, none⟩ = some (.int .i64 lim) := hs.get 3
  have H := hide hs
  have HT := hide ht; have HG := hide hv; have HP := hide hp; have H1 := hide h1
  clear hs ht hv hp h1
  by_cases hlt : pn ≤ lim - k
  · go_enter Tryd.func6, Tryd.ntmps6
    go_wp2
    go_quiet (fail)
    go_wp2
    go_quiet (fail)
    go_wp2_with fail
    have hm := method_readAt
    have hf := call_readAt
    go_region_held3 (fun w' => w'.cell? ⟨sb, 0, none⟩ = some (.iface 27 (.pointer (some ⟨tb, 0, none⟩))) ∧ w'.cell? ⟨sb, 2, none⟩ = some (.int .i64 k)) (go_keep)
      (first | (go_at_call 23; refine (readAt tb pb dn B pn pc k v xs pcur eof _ (by exact HT.out) (by exact HG.out) H1.out (by exact HP.out) (by omega) (by exact hE) hpb).mono ?_; rintro e w1 ⟨m, ev, rfl, hm, htu⟩; have hs1 := hide ((H.out.drawn _).turns htu hsp); have d0 := hs1.out.get 0; have d2 := hs1.out.get 2))
    have f2 := hs1.out.soft 2
    go_wp2
    go_ret2
    have e : (k : Int) + (m : Int) = ((k + m : Nat) : Int) := by omega
    rw [e]
    exact ⟨k + m, _, _, rfl, by omega, hs1.out.put 2 _, Turns.setCell (Turns.mono htu.undrawn (fun i _ h => .inl h)) (fun _ => .inr rfl) _⟩
  · have hlt' : (lim : Int) - (k : Int) < (pn : Int) := by omega
    go_enter Tryd.func6, Tryd.ntmps6
    go_wp2
    go_quiet (fail)
    go_wp2
    go_quiet (fail)
    go_wp2_with fail
    have hm := method_readAt
    have hf := call_readAt
    go_region_held3 (fun w' => w'.cell? ⟨sb, 0, none⟩ = some (.iface 27 (.pointer (some ⟨tb, 0, none⟩))) ∧ w'.cell? ⟨sb, 2, none⟩ = some (.int .i64 k)) (go_keep)
      (first | (go_at_call 23; refine (readAt tb pb dn B (lim - k) pc k v xs pcur eof _ (by exact HT.out) (by exact HG.out) H1.out (by exact HP.out) (by omega) (by exact hE) hpb).mono ?_; rintro e w1 ⟨m, ev, rfl, hm, htu⟩; have hs1 := hide ((H.out.drawn _).turns htu hsp); have d0 := hs1.out.get 0; have d2 := hs1.out.get 2))
    have f2 := hs1.out.soft 2
    go_wp2
    go_ret2
    have e : (k : Int) + (m : Int) = ((k + m : Nat) : Int) := by omega
    rw [e]
    exact ⟨k + m, _, _, rfl, by omega, hs1.out.put 2 _, Turns.setCell (Turns.mono htu.undrawn (fun i _ h => .inl h)) (fun _ => .inr rfl) _⟩

theorem read (sb tb pb dn B pn pc k lim : Nat) (base n : Int) (v : Value) (xs pcur : List Value) (eof : Value) (w : World)
    (hs : At w sb 41 #[.iface 27 (.pointer (some ⟨tb, 0, none⟩)), .int .i64 base, .int .i64 k, .int .i64 lim, .int .i64 n])
    (ht : At w tb 29 #[v]) (hv : w.ownsRow B 5 1 v dn xs) (h1 : ∀ v ∈ xs, v.oneCell' = true) (hd : dn ≤ 65536)
    (hp : At w pb 5 pcur.toArray) (hpn : pn ≤ pcur.length) (hpc : pn ≤ pc) (hpm : pc ≤ 9223372036854775807)
    (hE : w.cell? ⟨0, 0, none⟩ = some eof) (hpb : pb ≠ 0) (hsp : sb ≠ pb) (hl : lim ≤ 9223372036854775807) :
    Calls Tryd.prog 6 #[.pointer (some ⟨sb, 0, none⟩), .slice (some ⟨pb, 0, none⟩) pn pc] w (ReadPost sb pb tb dn k lim base n w) := by
  by_cases hk : k < lim
  · exact read_go sb tb pb dn B pn pc k lim base n v xs pcur eof w hs ht hv h1 hd hp hpn hpc hpm hE hpb hsp hk hl
  · exact read_end sb pb tb dn pn pc k lim base n eof w hs hE (by omega)

end Go.Proofs.YtpcndmemfjnfaaaDoor
