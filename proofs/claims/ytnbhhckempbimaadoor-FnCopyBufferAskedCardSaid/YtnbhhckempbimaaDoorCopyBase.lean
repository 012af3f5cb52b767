/-
  What io.copyBuffer asks of the program's tables: the assertions, the methods, and two errors that are compared.
-/
import Derived.Test.YtnbhhckempbimaaDoorPair
import Derived.Test.YtnbhhckempbimaaDoorOpen
import Derived.Stop.Asserts
namespace Go.Proofs.YtnbhhckempbimaaDoor
open Go.RowKit
set_option linter.unusedVariables false
set_option maxRecDepth 100000

theorem neq_same (w : World) (a : Addr) : (binOp .neq 65 (.iface 87 (.pointer (some a))) (.iface 87 (.pointer (some a)))).run Tryd.prog w = .ok (.bool false) w := by
  obtain ⟨i, hi, hcmp⟩ := Option.map_eq_some_iff.1 compErr
  obtain ⟨j, hj, _⟩ := Option.map_eq_some_iff.1 sizeErr
  simp only [binOp]
  simp [Op.equal, Op.maxDepth, run_equalIn_iface_ptr_same w 9998 a Tryd.underlying65 Tryd.underlying87 hi hcmp hj]

theorem neq_other {B : Nat} {E : Nat → Addr} {w : World} (h : Env B E w) {n m : Nat} (hn : n < nErrs) (hm : m < nErrs) (hne : n ≠ m) :
    (binOp .neq 65 (.iface 87 (.pointer (some (E n)))) (.iface 87 (.pointer (some (E m))))).run Tryd.prog w = .ok (.bool true) w := by
  obtain ⟨i, hi, hcmp⟩ := Option.map_eq_some_iff.1 compErr
  obtain ⟨j, hj, hjs⟩ := Option.map_eq_some_iff.1 sizeErr
  obtain ⟨c, t, ha⟩ := h.blk n hn
  obtain ⟨c', t', hb⟩ := h.blk m hm
  simp only [binOp]
  simp [Op.equal, Op.maxDepth, run_equalIn_iface_ptr_other w 9998 Tryd.underlying65 Tryd.underlying87 hi hcmp hj (by rw [hjs]; decide) (fun e => hne (h.inj n m hn hm e)) ha hb]

theorem as_wt_plain (v : Value) (w : World) : (Instr.typeAssert (.iface 49 v) 51 74 true).run Tryd.prog w = .ok (.tuple #[.nilIface, .bool false]) w := run_typeAssert_lacksB Tryd.underlying74 (by kernel_rfl) (by kernel_rfl) v _ w
theorem as_wt_direct (v : Value) (w : World) : (Instr.typeAssert (.iface 72 v) 51 74 true).run Tryd.prog w = .ok (.tuple #[.iface 72 v, .bool true]) w := by kernel_rfl
theorem as_rf_plain (v : Value) (w : World) : (Instr.typeAssert (.iface 55 v) 59 78 true).run Tryd.prog w = .ok (.tuple #[.nilIface, .bool false]) w := run_typeAssert_lacksB Tryd.underlying78 (by kernel_rfl) (by kernel_rfl) v _ w
theorem as_rf_taker (v : Value) (w : World) : (Instr.typeAssert (.iface 61 v) 59 78 true).run Tryd.prog w = .ok (.tuple #[.iface 61 v, .bool true]) w := by kernel_rfl
theorem as_lim (v : Value) (w : World) : (Instr.typeAssert (.iface 49 v) 51 81 true).run Tryd.prog w = .ok (.tuple #[.pointer none, .bool false]) w := by kernel_rfl

theorem m_read (a : Addr) (w : World) : (method 208 49 (.pointer (some a)) "Read").run Tryd.prog w = .ok (41, .pointer (some a)) w := by kernel_rfl
theorem m_write (a : Addr) (w : World) : (method 208 55 (.pointer (some a)) "Write").run Tryd.prog w = .ok (43, .pointer (some a)) w := by kernel_rfl
theorem m_write_taker (a : Addr) (r : Value) (w : World) : (method 208 61 (.agg #[.pointer (some a), r]) "Write").run Tryd.prog w = .ok (43, .pointer (some a)) w := by kernel_rfl
theorem m_writeTo (x r : Value) (w : World) : (method 208 72 (.agg #[x, r]) "WriteTo").run Tryd.prog w = .ok (45, .agg #[x, r]) w := by kernel_rfl
theorem m_readFrom (x r : Value) (w : World) : (method 208 61 (.agg #[x, r]) "ReadFrom").run Tryd.prog w = .ok (44, .agg #[x, r]) w := by kernel_rfl
theorem c_read (args : Array Value) (w : World) : (callFunc 41 args).run Tryd.prog w = .ok (.enter 41 args) w := by kernel_rfl
theorem c_write (args : Array Value) (w : World) : (callFunc 43 args).run Tryd.prog w = .ok (.enter 43 args) w := by kernel_rfl
theorem c_writeTo (args : Array Value) (w : World) : (callFunc 45 args).run Tryd.prog w = .ok (.enter 45 args) w := by kernel_rfl
theorem c_readFrom (args : Array Value) (w : World) : (callFunc 44 args).run Tryd.prog w = .ok (.enter 44 args) w := by kernel_rfl
theorem n_write (a : Addr) (w : World) : (nilAhead 208 55 (.pointer (some a)) "Write").run Tryd.prog w = .ok (some false) w := by kernel_rfl
theorem n_write_taker (a : Addr) (r : Value) (w : World) : (nilAhead 208 61 (.agg #[.pointer (some a), r]) "Write").run Tryd.prog w = .ok (some false) w := by kernel_rfl
theorem mkF (fn : Fn) (first cap : Array Value) (w : World) : (Instr.makeFunc fn first cap).run Tryd.prog w = .ok (.func fn first cap) w := rfl

theorem sl_splice {w : World} {g : Nat} {cur : List Value} {bs : List Int} (h : At w g 5 (splice cur 0 (bs.map (Value.int .u8))).toArray) : Sl w 1 (some ⟨g, 0, none⟩) bs.length (bs.map (Value.int .u8)) := by
  refine ⟨by simp, fun _ => ⟨_, rfl, h.size_lt, fun j u hu => ?_⟩⟩
  rw [add0, h.get]
  have hj : j < (bs.map (Value.int .u8)).length := (List.getElem?_eq_some_iff.1 hu).1
  simp only [splice, List.take_zero, List.nil_append, List.getElem?_toArray]
  rw [List.getElem?_append_left hj]
  exact hu

/-- The state of a copy ahead of its k-th read. -/
def CopyInv (B : Nat) (w0 : World) (rb wb pb size : Nat) (s : Src) (dv pv av0 : Value) (room : Int) (quiet direct : Bool) (gv0 wv0 : Value) (plen : Nat) (E : Nat → Addr) (k : Nat) (w : World) : Prop :=
  ∃ av gv wv pcur, Pair B w rb wb pb s dv pv av (s.pos size k).1 (s.pos size k).2 (List.replicate k (size : Int)) room quiet direct gv wv (s.data.take (s.pos size k).1) (s.lens size k) pcur ∧ pcur.length = plen ∧
    Since w0 w pb rb wb av0 gv0 wv0 av gv wv ∧ Env B E w ∧ ∀ j, j < k → ¬ s.stops room size j

/-- What a copy in pieces returns and leaves. -/
def CopyPost (B : Nat) (rb wb pb size : Nat) (s : Src) (dv pv av0 : Value) (room : Int) (quiet direct : Bool) (gv0 wv0 : Value) (plen : Nat) (E : Nat → Addr) (w0 : World) (e : Ending) (w : World) : Prop :=
  ∃ K av gv wv pcur, e = .returned (.tuple #[.int .i64 (s.most room : Nat), errVal E (s.copyCode room quiet)]) ∧ CopyEnd B w0 w rb wb pb size s dv pv av0 room quiet direct gv0 wv0 plen K av gv wv pcur

/-- Behind the k-th read. -/
structure CopyMid (B : Nat) (w0 : World) (rb wb pb size : Nat) (s : Src) (dv pv av0 : Value) (room : Int) (quiet direct : Bool) (gv0 wv0 : Value) (plen : Nat) (E : Nat → Addr) (k : Nat) (av gv wv : Value) (pcur : List Value) (w : World) : Prop where
  pair : Pair B w rb wb pb s dv pv av (s.pos size (k + 1)).1 (s.pos size (k + 1)).2 (List.replicate (k + 1) (size : Int)) room quiet direct gv wv (s.data.take (s.pos size k).1) (s.lens size k) pcur
  len : pcur.length = plen
  src : Sl w 1 (some ⟨pb, 0, none⟩) (s.piece size k).bytes.length ((s.piece size k).bytes.map (Value.int .u8))
  since : Since w0 w pb rb wb av0 gv0 wv0 av gv wv
  env : Env B E w
  before : ∀ j, j < k → ¬ s.stops room size j

section
variable {B rb wb pb size plen k : Nat} {w0 w w1 : World} {s : Src} {dv pv av0 av gv wv gv0 wv0 : Value} {room : Int} {quiet direct : Bool} {E : Nat → Addr} {pcur : List Value}

/-- Behind the read. -/
theorem copy_mid {e : Ending} (hsz : size ≤ plen) (h : Pair B w rb wb pb s dv pv av (s.pos size k).1 (s.pos size k).2 (List.replicate k (size : Int)) room quiet direct gv wv (s.data.take (s.pos size k).1) (s.lens size k) pcur) (hl : pcur.length = plen)
    (hs : Since w0 w pb rb wb av0 gv0 wv0 av gv wv) (hE : Env B E w) (hb : ∀ j, j < k → ¬ s.stops room size j)
    (hr : ReadPost B rb pb s dv pv av (s.pos size k).1 (s.pos size k).2 (List.replicate k (size : Int)) size pcur E w e w1) :
    e = .returned (.tuple #[.int .i64 ((s.piece size k).bytes.length : Nat), errVal E (s.piece size k).code]) ∧ ∃ av' pcur', CopyMid B w0 rb wb pb size s dv pv av0 room quiet direct gv0 wv0 plen E k av' gv wv pcur' w1 := by
  obtain ⟨av', he, hR, hn, ht, hp⟩ := hr
  have hle : (s.piece size k).bytes.length ≤ size := s.read_bytes_le (s.pos size k).1 (s.pos size k).2 size
  refine ⟨he, av', (splice pcur 0 ((s.piece size k).bytes.map (Value.int .u8))), ⟨?_, ?_, sl_splice hp, hs.read hn ht, hE.turns ht (fun i hi => ?_), hb⟩⟩
  · have := h.read hR hn ht hp
    rw [show List.replicate (k + 1) (size : Int) = List.replicate k (size : Int) ++ [(size : Int)] by rw [List.replicate_succ']]
    exact this
  · rw [length_splice _ _ _ (by rw [List.length_map, hl]; omega)]; exact hl
  · rcases hi with rfl | rfl | hi
    · exact h.bp
    · exact h.rd.base
    · exact (h.rd.notes.lt i hi).1

/-- The last read had no bytes. -/
theorem copy_none (h0 : 0 < size) (h : CopyMid B w0 rb wb pb size s dv pv av0 room quiet direct gv0 wv0 plen E k av gv wv pcur w) (hn : (s.piece size k).bytes.length = 0) :
    (s.piece size k).code = s.endCode ∧ s.most room = (s.pos size k).1 ∧ s.copyCode room quiet = (if s.broken = true then 2 else 0) ∧ ∀ q, CopyEnd B w0 (w.drewN q) rb wb pb size s dv pv av0 room quiet direct gv0 wv0 plen k av gv wv pcur := by
  obtain ⟨_, _, f3, _⟩ := s.read_facts (s.pos size k).1 (s.pos size k).2 size h0 (s.pos_le size k)
  obtain ⟨g1, g2⟩ := f3 hn
  have he := s.endCode_pos
  have hc : (s.piece size k).code ≠ 0 := by
    have : (s.piece size k).code = s.endCode := g1
    omega
  have hr := s.pos_room room size k h.before
  obtain ⟨k1, k2, k3, k4, k5⟩ := s.ends room size k h0 (by omega) hc
  have e1 : s.most room = (s.pos size k).1 := by omega
  refine ⟨g1, e1, k5 quiet, fun q => ⟨h.before, k1, ?_, h.len, h.since.drawn q⟩⟩
  have hp := h.pair.drawn q
  have e2 : s.lens size (k + 1) = s.lens size k := by rw [Src.lens, if_pos hn, List.append_nil]
  rw [e2, e1]
  exact hp

/-- Behind a write of the last read's bytes. -/
theorem copy_wrote {e : Ending} (h0 : 0 < size) (h : CopyMid B w0 rb wb pb size s dv pv av0 room quiet direct gv0 wv0 plen E k av gv wv pcur w) (hn : 0 < (s.piece size k).bytes.length)
    (hw : WritePost B wb room quiet direct gv wv (s.data.take (s.pos size k).1) (s.lens size k) (s.piece size k).bytes E w e w1) :
    Env B E w1 ∧ ((room.toNat < (s.pos size k).1 + (s.piece size k).bytes.length ∧ e = .returned (.tuple #[.int .i64 (room.toNat - (s.pos size k).1 : Nat), errVal E (if quiet = true then 0 else 3)]) ∧ room.toNat - (s.pos size k).1 < (s.piece size k).bytes.length ∧
        (s.pos size k).1 + (room.toNat - (s.pos size k).1) = s.most room ∧ s.copyCode room quiet = (if quiet = true then 4 else 3) ∧ ∃ gv' wv', ∀ q, CopyEnd B w0 (w1.drewN q) rb wb pb size s dv pv av0 room quiet direct gv0 wv0 plen k av gv' wv' pcur) ∨
      (e = .returned (.tuple #[.int .i64 ((s.piece size k).bytes.length : Nat), .nilIface]) ∧ (s.pos size (k + 1)).1 = (s.pos size k).1 + (s.piece size k).bytes.length ∧
        ((s.piece size k).code = 0 ∧ (s.pos size k).1 < (s.pos size (k + 1)).1 ∧ (∀ q, CopyInv B w0 rb wb pb size s dv pv av0 room quiet direct gv0 wv0 plen E (k + 1) (w1.drewN q)) ∨
        (s.piece size k).code = s.endCode ∧ (s.pos size k).1 + (s.piece size k).bytes.length = s.most room ∧ s.copyCode room quiet = (if s.broken = true then 2 else 0) ∧ ∃ gv' wv', ∀ q, CopyEnd B w0 (w1.drewN q) rb wb pb size s dv pv av0 room quiet direct gv0 wv0 plen k av gv' wv' pcur))) := by
  obtain ⟨gv', wv', he, hW, n1, n2, ht⟩ := hw
  have hlen : (s.data.take (s.pos size k).1).length = (s.pos size k).1 := by rw [List.length_take]; exact Nat.min_eq_left (s.pos_le size k)
  have hlens : s.lens size (k + 1) = s.lens size k ++ [((s.piece size k).bytes.length : Int)] := by rw [Src.lens, if_neg (by omega)]
  have hr := s.pos_room room size k h.before
  rw [hlen] at he hW
  have hp := h.pair.write hW n1 n2 ht
  have hs := h.since.write n1 n2 ht
  have hE : Env B E w1 := h.env.turns ht (fun i hi => by
    rcases hi with rfl | hi | hi
    · exact h.pair.wr.base
    · exact (h.pair.wr.got.lt i hi).1
    · exact (h.pair.wr.notes.lt i hi).1)
  have hroom : (room - ((s.pos size k).1 : Int)).toNat = room.toNat - (s.pos size k).1 := by omega
  refine ⟨hE, ?_⟩
  by_cases hs1 : room.toNat < (s.pos size k).1 + (s.piece size k).bytes.length
  · obtain ⟨k1, k2, k3, k4, k5⟩ := s.short room size k h0 h.before hs1
    have htk : takes room (s.pos size k).1 (s.piece size k).bytes.length = room.toNat - (s.pos size k).1 := by unfold takes; rw [hroom]; exact Nat.min_eq_right (by omega)
    rw [htk] at he hp
    refine .inl ⟨hs1, ?_, by omega, k2, k4 quiet, gv', wv', fun q => ⟨h.before, k1, ?_, h.len, hs.drawn q⟩⟩
    · rw [he]
      cases quiet with
      | true => rw [if_neg (by simp), if_pos rfl]
      | false => rw [if_pos ⟨by omega, rfl⟩, if_neg (by simp)]
    · have := hp.drawn q
      rw [k3] at this
      rw [hlens]
      exact this
  · have htk : takes room (s.pos size k).1 (s.piece size k).bytes.length = (s.piece size k).bytes.length := by unfold takes; rw [hroom]; exact Nat.min_eq_left (by omega)
    rw [htk] at he hp
    rw [List.take_length, s.take_more size k h0] at hp
    obtain ⟨_, f2, _, f4⟩ := s.read_facts (s.pos size k).1 (s.pos size k).2 size h0 (s.pos_le size k)
    have f2' : (s.pos size (k + 1)).1 = (s.pos size k).1 + (s.piece size k).bytes.length := f2
    refine .inr ⟨by rw [he, if_neg (by omega)]; rfl, f2', ?_⟩
    by_cases hc : (s.piece size k).code = 0
    · refine .inl ⟨hc, by omega, fun q => ⟨av, gv', wv', pcur, ?_, h.len, hs.drawn q, hE.drawn q, fun j hj => ?_⟩⟩
      · rw [hlens]; exact hp.drawn q
      · rcases Nat.lt_or_ge j k with h1 | h1
        · exact h.before j h1
        · obtain rfl : j = k := by omega
          intro hst
          rcases hst with h2 | h2
          · have : (s.piece size j).at_ = (s.pos size (j + 1)).1 := rfl
            omega
          · exact h2 hc
    · obtain ⟨k1, k2, k3, k4, k5⟩ := s.ends room size k h0 (by omega) hc
      refine .inr ⟨k4, k2, k5 quiet, gv', wv', fun q => ⟨h.before, k1, ?_, h.len, hs.drawn q⟩⟩
      have := hp.drawn q
      rw [k3] at this
      rw [hlens]
      exact this
end

end Go.Proofs.YtnbhhckempbimaaDoor
