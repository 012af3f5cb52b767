/-
  What impl.CopyBuffer returns.
-/
import Derived.Test.YtnbhhckempbimaaDoorClosure
import Derived.Deep.Cut
namespace Go.Proofs.YtnbhhckempbimaaDoor
open Go.RowKit
set_option linter.unusedVariables false
set_option maxRecDepth 100000

theorem Rd.mono {B B' rb at_ pc : Nat} {w : World} {s : Src} {dv pv av : Value} {asked : List Int} (h : Rd B w rb s dv pv av at_ pc asked) (hB : B' ≤ B) : Rd B' w rb s dv pv av at_ pc asked :=
  ⟨h.blk, own_mono h.data hB, own_mono h.pieces hB, own_mono h.notes hB, h.apart, Nat.le_trans hB h.base⟩

theorem cb_any {B rb wb ob pb size cap : Nat} {ocs : Array Value} {w : World} {s : Src} {dv pv : Value} {room : Int} {quiet taking : Bool} {E : Nat → Addr} {pcur : List Value}
    (hR : Rd B w rb s dv pv nilSl 0 0 []) (hW : Wr B w wb room quiet taking nilSl nilSl [] []) (hE : Env B E w) (ho : At w ob 25 ocs) (hoo : ocs[6]? = some (.int .i64 0)) (hBo : B ≤ ob) (hbuf : At w pb 5 pcur.toArray) (hd : dv.ownBlock ≠ some pb) (hBp : B ≤ pb)
    (hsz : size ≤ pcur.length) (h0 : 0 < size) (hcap : size ≤ cap) (hcm : cap ≤ 9223372036854775807) (hs9 : size ≤ 1000000000) (hr1 : -9223372036854775808 ≤ room) (hr2 : room ≤ 9223372036854775807) (hdl : s.data.length ≤ 100000000) (hpl : s.pieces.length ≤ 1000000000) :
    Calls Tryd.prog 22 #[sinkOn taking wb (.pointer (some ⟨ob, 6, none⟩)), handOn s.direct rb (.pointer (some ⟨ob, 6, none⟩)), .slice (some ⟨pb, 0, none⟩) size cap] w (CBPost B rb wb ob ocs s dv pv room quiet taking size (roadOf s.direct taking) E w) := by
  have hgo : ∀ {d r : Value} {road : Nat}, Calls Tryd.prog 25 #[d, r, .slice (some ⟨pb, 0, none⟩) size cap] w (CBPost B rb wb ob ocs s dv pv room quiet taking size road E w) → Calls Tryd.prog 22 #[d, r, .slice (some ⟨pb, 0, none⟩) size cap] w (CBPost B rb wb ob ocs s dv pv room quiet taking size road E w) :=
    fun h => copy22 (.inr h0) hs9 (h.mono fun e w' hp => by
      obtain ⟨av, gv, wv, at_, pc, asked, writes, he, hq⟩ := hp
      exact ⟨_, _, he, av, gv, wv, at_, pc, asked, writes, he, hq⟩)
  cases hdir : s.direct with
  | true =>
    cases taking with
    | true => exact hgo (copy25_direct size hR hW hE ho hoo hBo hr1 hr2 hdl _ _ (fun W => m_write_taker _ _ W))
    | false => exact hgo (copy25_direct size hR hW hE ho hoo hBo hr1 hr2 hdl _ _ (fun W => m_write _ W))
  | false =>
    cases taking with
    | true => exact hgo (copy25_taker size hR hW hE ho hoo hBo hr1 hr2 hdl hpl)
    | false => exact hgo (copy25_plain (r0 := 0) hR hW hE ho hoo hBo hbuf hd hBp hsz h0 hcap hcm hs9 hr1 hr2 hdl hpl)

theorem cb_nil {B rb wb ob size : Nat} {ocs : Array Value} {w : World} {s : Src} {dv pv : Value} {room : Int} {quiet taking : Bool} {E : Nat → Addr} (HSZ : Hid (size = 32768))
    (hR : Rd B w rb s dv pv nilSl 0 0 []) (hW : Wr B w wb room quiet taking nilSl nilSl [] []) (hE : Env B E w) (ho : At w ob 25 ocs) (hoo : ocs[6]? = some (.int .i64 0)) (hBo : B ≤ ob)
    (hr1 : -9223372036854775808 ≤ room) (hr2 : room ≤ 9223372036854775807) (hdl : s.data.length ≤ 100000000) (hpl : s.pieces.length ≤ 1000000000) :
    Calls Tryd.prog 22 #[sinkOn taking wb (.pointer (some ⟨ob, 6, none⟩)), handOn s.direct rb (.pointer (some ⟨ob, 6, none⟩)), .slice none 0 0] w (CBPost B rb wb ob ocs s dv pv room quiet taking size (roadOf s.direct taking) E w) := by
  have hgo : ∀ {d r : Value} {road : Nat}, Calls Tryd.prog 25 #[d, r, .slice none 0 0] w (CBPost B rb wb ob ocs s dv pv room quiet taking size road E w) → Calls Tryd.prog 22 #[d, r, .slice none 0 0] w (CBPost B rb wb ob ocs s dv pv room quiet taking size road E w) :=
    fun h => copy22 (.inl rfl) (by omega) (h.mono fun e w' hp => by
      obtain ⟨av, gv, wv, at_, pc, asked, writes, he, hq⟩ := hp
      exact ⟨_, _, he, av, gv, wv, at_, pc, asked, writes, he, hq⟩)
  cases hdir : s.direct with
  | true =>
    cases taking with
    | true => exact hgo (copy25_direct size hR hW hE ho hoo hBo hr1 hr2 hdl _ _ (fun W => m_write_taker _ _ W))
    | false => exact hgo (copy25_direct size hR hW hE ho hoo hBo hr1 hr2 hdl _ _ (fun W => m_write _ W))
  | false =>
    cases taking with
    | true => exact hgo (copy25_taker size hR hW hE ho hoo hBo hr1 hr2 hdl hpl)
    | false => exact hgo (copy25_nil HSZ hR hW hE ho hoo hBo hr1 hr2 hdl hpl)

/-- All is laid for a copy. -/
structure Ready (B : Nat) (w : World) (rb wb ob rx wx : Nat) (s : Src) (dv pv : Value) (room : Int) (quiet taking : Bool) (cs : Array Value) : Prop where
  rd : Rd B w rb s dv pv nilSl 0 0 []
  wr : Wr B w wb room quiet taking nilSl nilSl [] []
  out : At w ob 25 cs
  rx : At w rx 49 #[.pointer (some ⟨rb, 0, none⟩)]
  wx : At w wx 55 #[.pointer (some ⟨wb, 0, none⟩)]
theorem Ready.new {B : Nat} {w w' : World} {rb wb ob rx wx : Nat} {s : Src} {dv pv : Value} {room : Int} {quiet taking : Bool} {cs : Array Value} (h : Ready B w rb wb ob rx wx s dv pv room quiet taking cs) (hn : New w w') : Ready B w' rb wb ob rx wx s dv pv room quiet taking cs :=
  ⟨h.rd.new hn, h.wr.new hn, h.out.new hn, h.rx.new hn, h.wx.new hn⟩
theorem Ready.put {B : Nat} {w : World} {rb wb ob rx wx : Nat} {s : Src} {dv pv : Value} {room : Int} {quiet taking : Bool} {cs : Array Value} (h : Ready B w rb wb ob rx wx s dv pv room quiet taking cs) (i : Nat) (v : Value) : Ready B (w.setCell ⟨ob, i, none⟩ v) rb wb ob rx wx s dv pv room quiet taking (cs.setIfInBounds i v) := by
  have hT : Turns (· = ob) w (w.setCell ⟨ob, i, none⟩ v) := Turns.setCell (S := (· = ob)) (Turns.refl _ _) (fun _ => rfl) _
  refine ⟨h.rd.turns hT ?_ ?_ ?_ ?_, h.wr.turns hT ?_ ?_ ?_, h.out.put i v, h.rx.turns hT ?_, h.wx.turns hT ?_⟩
  · exact h.rd.blk.apart h.out (by decide)
  · intro g hg e; exact own_ne h.rd.data h.out (by decide) (e ▸ hg)
  · intro g hg e; exact own_ne h.rd.pieces h.out (by decide) (e ▸ hg)
  · intro g hg e; exact own_ne h.rd.notes h.out (by decide) (e ▸ hg)
  · exact h.wr.blk.apart h.out (by decide)
  · intro g hg e; exact own_ne h.wr.got h.out (by decide) (e ▸ hg)
  · intro g hg e; exact own_ne h.wr.notes h.out (by decide) (e ▸ hg)
  · exact h.rx.apart h.out (by decide)
  · exact h.wx.apart h.out (by decide)

theorem inv21 (x y z : Value) (w : World) : (invoke (.fn (.func 21) #[x, y, z]) #[]).run Tryd.prog w = .ok (.enter 21 #[x, y, z]) w := by simp [go_sem]
theorem bodyPostD_ret {P : Program} {fn : Func} {R : Ending → World → Prop} {tmps : Array Value} {ds : List Deferred} {w : World} (h : Leaves P fn tmps R ds .returning w) : bodyPostD P fn R .ret { tmps := tmps, defers := ds } w := h
theorem bodyPostD_panic {P : Program} {fn : Func} {R : Ending → World → Prop} {tmps : Array Value} {ds : List Deferred} {w : World} {chain : List PanicEntry} (h : Leaves P fn tmps R ds (.panicking chain) w) : bodyPostD P fn R (.panic chain) { tmps := tmps, defers := ds } w := h

theorem Sole.keep {w0 w : World} {g : Nat} {t : TypeId} {cs : Array Value} (h : Sole w0 w g t cs) (i : Nat) (v : Value) (hv : cs[i]? = some v) : Sole w0 (w.setCell ⟨g, i, none⟩ v) g t cs := by
  have e : cs.setIfInBounds i v = cs := by
    apply Array.ext_getElem?
    intro k
    by_cases h6 : k = i
    · subst h6
      rw [Array.getElem?_setIfInBounds_self_of_lt (Array.getElem?_eq_some_iff.1 hv).1, hv]
    · rw [Array.getElem?_setIfInBounds_ne (Ne.symm h6)]
  have := h.put i v
  rwa [e] at this

theorem copyCode_le (s : Src) (room : Int) (quiet : Bool) : s.copyCode room quiet ≤ 4 := by
  unfold Src.copyCode
  split <;> split <;> omega

/-- What impl.CopyBuffer returns and leaves, where it does not panic. -/
def ImplPost (s : Src) (room : Int) (quiet taking : Bool) (buf : List Int) (none_ : Bool) (size : Nat) (w : World) (e : Ending) (w' : World) : Prop :=
  ∃ gv bv av wv asked writes, e = .returned (.agg #[.int .i64 (s.most room : Nat), .int .i64 (s.copyCode room quiet : Nat), gv, bv, av, wv, .int .i64 (roadOf s.direct taking : Nat), .bool false]) ∧
    w'.ownsRow w.heap.size 5 1 gv (s.most room) ((s.data.take (s.most room)).map (Value.int .u8)) ∧ w'.ownsRow w.heap.size 3 1 av asked.length (asked.map (Value.int .i64)) ∧ w'.ownsRow w.heap.size 3 1 wv writes.length (writes.map (Value.int .i64)) ∧
    Told s room size (roadOf s.direct taking) asked writes ∧ (∃ BA bc, bv = .slice BA (if none_ then 0 else buf.length) bc ∧ (none_ = false → roadOf s.direct taking ≠ 0 → Sl w' 1 BA buf.length (buf.map (Value.int .u8)))) ∧ New w w'

set_option maxHeartbeats 2000000 in
theorem impl_some_false {w : World} {s : Src} {DA PA BA : Option Addr} {dc pc bc : Nat} {room : Int} {quiet : Bool} {buf : List Int} {E : Nat → Addr} (hd : Sl w 1 DA s.data.length (s.data.map (Value.int .u8))) (hDn : DA = none → dc = 0)
    (hp : Sl w 1 PA s.pieces.length (s.pieces.map (Value.int .i64))) (hPn : PA = none → pc = 0) (hb : Sl w 1 BA buf.length (buf.map (Value.int .u8))) (hBn : BA = none → bc = 0) (hE : Env w.heap.size E w)
    (h0 : 0 < buf.length) (hs9 : buf.length ≤ 1000000) (hr1 : -9223372036854775808 ≤ room) (hr2 : room ≤ 9223372036854775807) (hdl : s.data.length ≤ 1000000) (hpl : s.pieces.length ≤ 1000000) :
    Calls Tryd.prog 14 #[.agg #[.slice DA s.data.length dc, .slice PA s.pieces.length pc, .bool s.together, .bool s.broken, .bool s.direct], .agg #[.int .i64 room, .bool quiet, .bool false], .slice BA buf.length bc, .bool false] w (ImplPost s room quiet false buf false buf.length w) := by
  have HD := hide hd; have HP := hide hp; have HDN := hide hDn; have HPN := hide hPn; have HBF := hide hb; have HBN := hide hBn; have HE := hide hE
  clear hd hp hDn hPn hb hBn hE
  have hmf := mkF
  have hnot : ∀ (x : Bool) (w : World), (Op.unary .not (.bool x)).run Tryd.prog w = .ok (.bool (!x)) w := fun _ _ => rfl
  go_enter_defers Tryd.func14, Tryd.ntmps14
  go_wp2_with fail
  refine (open_any (s := s) (by exact ((HD.out.laid _).laid _).laid _) HDN.out (by exact ((HP.out.laid _).laid _).laid _) HPN.out (by omega) (by omega)).mono ?_
  rintro e w1 ⟨rb, dv, pv, rfl, hRd, hN1⟩
  have hN : New w w1 := new_trans (new_al (new_al (new_alloc _ _) _) _) hN1
  have hR0 : Rd w.heap.size w1 rb s dv pv (.slice none 0 0) 0 0 [] := hRd.mono (by simp; omega)
  have hsk : At w1 (w.heap.size + 1) 31 #[.int .i64 room, .bool quiet, .bool false] := At.new ((At.made' (by simp) _ _).laid _) hN1
  have hou : At w1 (w.heap.size + 2) 25 #[.int .i64 0, .int .i64 0, .slice none 0 0, .slice none 0 0, .slice none 0 0, .slice none 0 0, .int .i64 0, .bool false] := At.new (At.made' (by simp) _ _) hN1
  have k0 := hsk.get 0
  have k1 := hsk.get 1
  have k2 := hsk.get 2
  have u3 := hou.get 3
  have y3 := hou.soft 3
  have hls := hsk.size_lt
  have hlo := hou.size_lt
  have HR0 := hide hR0; have HN := hide hN; have HSK := hide hsk; have HOU := hide hou
  clear hRd hN1 hR0 hN hsk hou
  go_upto_region 4 with (fail)
  have hN2 : New w1 (((w1.alloc (.cells #[.pointer (some ⟨rb, 0, none⟩)] 49)).alloc (.cells #[.int .i64 room, .bool quiet, .bool false, .slice none 0 0, .slice none 0 0] 57)).alloc (.cells #[.pointer (some ⟨w1.heap.size + 1, 0, none⟩)] 55)) := new_al (new_al (new_alloc _ _) _) _
  have hrx : At (((w1.alloc (.cells #[.pointer (some ⟨rb, 0, none⟩)] 49)).alloc (.cells #[.int .i64 room, .bool quiet, .bool false, .slice none 0 0, .slice none 0 0] 57)).alloc (.cells #[.pointer (some ⟨w1.heap.size + 1, 0, none⟩)] 55)) w1.heap.size 49 #[.pointer (some ⟨rb, 0, none⟩)] := ((At.made _ _ _).laid _).laid _
  have hwb : At (((w1.alloc (.cells #[.pointer (some ⟨rb, 0, none⟩)] 49)).alloc (.cells #[.int .i64 room, .bool quiet, .bool false, .slice none 0 0, .slice none 0 0] 57)).alloc (.cells #[.pointer (some ⟨w1.heap.size + 1, 0, none⟩)] 55)) (w1.heap.size + 1) 57 #[.int .i64 room, .bool quiet, .bool false, .slice none 0 0, .slice none 0 0] := (At.made' (by simp) _ _).laid _
  have hwx : At (((w1.alloc (.cells #[.pointer (some ⟨rb, 0, none⟩)] 49)).alloc (.cells #[.int .i64 room, .bool quiet, .bool false, .slice none 0 0, .slice none 0 0] 57)).alloc (.cells #[.pointer (some ⟨w1.heap.size + 1, 0, none⟩)] 55)) (w1.heap.size + 1 + 1) 55 #[.pointer (some ⟨w1.heap.size + 1, 0, none⟩)] := At.made' (by simp) _ _
  generalize ((w1.alloc (.cells #[.pointer (some ⟨rb, 0, none⟩)] 49)).alloc (.cells #[.int .i64 room, .bool quiet, .bool false, .slice none 0 0, .slice none 0 0] 57)).alloc (.cells #[.pointer (some ⟨w1.heap.size + 1, 0, none⟩)] 55) = w2 at *
  have hw1s := HN.out.size
  generalize hrxe : w1.heap.size = rx at *
  generalize hwbe : rx + 1 = wb at *
  generalize hwxe : wb + 1 = wx at *
  have HN2 := hide (new_trans HN.out hN2)
  generalize hobe : w.heap.size + 1 + 1 = ob at *
  have HOB : Hid (w.heap.size ≤ ob) := by show w.heap.size ≤ ob; omega
  have hwbb : w.heap.size ≤ wb := by omega
  have HRD : Hid (Ready w.heap.size w2 rb wb ob rx wx s dv pv room quiet false #[.int .i64 0, .int .i64 0, .slice none 0 0, .slice none 0 0, .slice none 0 0, .slice none 0 0, .int .i64 0, .bool false]) :=
    ⟨HR0.out.new hN2, ⟨hwb, World.ownsRow_nil _ _ _ _, World.ownsRow_nil _ _ _ _, hwbb⟩, HOU.out.new hN2, hrx, hwx⟩
  have k2' := (HSK.out.new hN2).get 2
  have wx0 := hwx.get 0
  have hlo2 := HRD.out.out.size_lt
  have o3 := HRD.out.out.get 3
  have p3 := HRD.out.out.soft 3
  clear k0 k1 k2 u3 y3 hls hlo HR0 HN HSK HOU hrx hwb hwx hN2 hrxe hwbe hwxe hw1s hwbb
  go_wp2_with (at_builtin; (with_reducible refine wpList_append_empty rfl (.tmp 34) (.tmp 35) 22 rfl 5 (.int .u8 0) 1 1 Tryd.underlying22 info5 rfl (by decide) _ rfl BA buf.length bc (buf.map (Value.int .u8)) rfl HBN.out ?c1 (ints_oneCell _ _) ?c3 ?c4 rfl ?_))
  case c1 => exact HBF.out.new HN2.out
  case c3 => unfold maxLen; omega
  case c4 => omega
  intro bv w3 hbv hN3 hlt3
  have HBV := hide hbv
  rcases hbv.2 with ⟨_, hz⟩ | ⟨g, cap, cur, rfl, hgB, hg, hncap, hcm, hcs, htake⟩
  · omega
  have HN3 := hide (new_trans HN2.out hN3)
  have HRD3 := hide (HRD.out.new hN3)
  have q3 := HRD3.out.out.get 3
  have y3 := HRD3.out.out.soft 3
  have hsz2 := HN2.out.size
  have hgat : At w3 g 5 cur := hg
  have hgo : g ≠ ob := hgat.apart HRD3.out.out (by decide)
  have HRD4 := hide (HRD3.out.put 3 (.slice (some ⟨g, 0, none⟩) buf.length cap))
  have HG4 := hide (hgat.away (p := ⟨ob, 3, none⟩) (Ne.symm hgo) (.slice (some ⟨g, 0, none⟩) buf.length cap))
  have HDG : Hid (dv.ownBlock ≠ some g) := fun e => by have := (HRD.out.rd.data.lt g e).2; omega
  have HGB : Hid (w.heap.size ≤ g) := Nat.le_trans hsz2 hgB
  have HT4 : Hid (Turns (fun k => w.heap.size ≤ k) w (w3.setCell ⟨ob, 3, none⟩ (.slice (some ⟨g, 0, none⟩) buf.length cap))) := (Turns.of_new HN3.out (fun k => w.heap.size ≤ k)).setCell (fun _ => HOB.out) _
  have HCS := hide hcs; have HTK := hide htake
  unfold maxLen at hcm
  clear hbv hg hN3 hlt3 hgat hgo hgB hcs htake HRD HN2 HRD3 HN3 wx0 o3 p3 k2' hlo2 hsz2 HBV
  go_wp2_with fail
  generalize w3.setCell ⟨ob, 3, none⟩ (.slice (some ⟨g, 0, none⟩) buf.length cap) = w4 at *
  have HCB : Hid (Calls Tryd.prog 22 #[.iface 55 (.pointer (some ⟨wb, 0, none⟩)), handOn s.direct rb (.pointer (some ⟨ob, 6, none⟩)), .slice (some ⟨g, 0, none⟩) buf.length cap] w4
      (CBPost w.heap.size rb wb ob #[.int .i64 0, .int .i64 0, .slice none 0 0, .slice (some ⟨g, 0, none⟩) buf.length cap, .slice none 0 0, .slice none 0 0, .int .i64 0, .bool false] s dv pv room quiet false buf.length (roadOf s.direct false) E w4)) :=
    cb_any (pcur := cur.toList) HRD4.out.rd HRD4.out.wr (HE.out.turns HT4.out (fun _ h => h)) HRD4.out.out rfl HOB.out HG4.out HDG.out HGB.out (by have h1 := HCS.out; simp only [Array.length_toList]; omega) h0 hncap hcm (by omega) hr1 hr2 (by omega) (by omega)
  refine HCB.out.mono ?_
  rintro e w5 ⟨av, gv, wv, at5, pc5, asked, writes, rfl, hR5, hW5, hTold, hO5, hE5, hT5, hkeep, hbuf5⟩
  have ho5 : At w5 ob 25 #[.int .i64 0, .int .i64 0, .slice none 0 0, .slice (some ⟨g, 0, none⟩) buf.length cap, .slice none 0 0, .slice none 0 0, .int .i64 (roadOf s.direct false : Nat), .bool false] := hO5
  have hrx5 : At w5 rx 49 #[.pointer (some ⟨rb, 0, none⟩)] := hkeep _ _ _ (by decide) (by decide) (by decide) (by decide) (HRD4.out.rx.apart HRD4.out.out (by decide)) HRD4.out.rx
  have hwx5 : At w5 wx 55 #[.pointer (some ⟨wb, 0, none⟩)] := hkeep _ _ _ (by decide) (by decide) (by decide) (by decide) (HRD4.out.wx.apart HRD4.out.out (by decide)) HRD4.out.wx
  obtain ⟨cs5, hg5, hsz5, hsame5⟩ := hbuf5 g _ HG4.out HDG.out
  obtain ⟨AA, ac, rfl, -, -⟩ := Sl.of_own hR5.notes
  obtain ⟨GA, gc, rfl, -, -⟩ := Sl.of_own hW5.got
  obtain ⟨VA, vc, rfl, -, -⟩ := Sl.of_own hW5.notes
  have q0 := ho5.get 0
  have q1 := ho5.get 1
  have z0 := ho5.soft 0
  have z1 := ho5.soft 1
  have hA6 := ((Sole.start ho5).put 0 (.int .i64 (s.most room : Nat)))
  have HE6 := hide (hE5.turns hA6.turns (fun k e => by rw [e]; exact HOB.out))
  have hA7 := hA6.put 1 (.int .i64 (s.copyCode room quiet : Nat))
  have HR5 := hide hR5; have HW5 := hide hW5; have HTOLD := hide hTold; have HO5 := hide ho5; have HT5 := hide hT5; have HRX5 := hide hrx5; have HWX5 := hide hwx5; have HG5 := hide hg5; have HSAME := hide hsame5; have HA7 := hide hA7
  clear hR5 hW5 hTold hO5 ho5 hE5 hT5 hkeep hbuf5 hrx5 hwx5 hg5 hsz5 hsame5 HCB hA6 hA7 q3 y3
  have hcl := copyCode_le s room quiet
  have HNUM : Hid (∀ W : World, Env w.heap.size E W → Calls Tryd.prog 23 #[errVal E (s.copyCode room quiet)] W fun e w' => e = .returned (.int .i64 (s.copyCode room quiet : Nat)) ∧ W = w') := by
    intro W hW
    have k4 := nErrs_ge
    have := number hW (s.copyCode room quiet) (by omega)
    have e5 : Nat.min (s.copyCode room quiet) 5 = s.copyCode room quiet := Nat.min_eq_left (by omega)
    rwa [e5] at this
  generalize hcc : s.copyCode room quiet = code at *
  have HCODE := hide hcc
  generalize hmm : s.most room = mst at *
  have HMM := hide hmm
  clear hmm hcl hcc
  go_wp2_with fail
  refine (HNUM.out _ HE6.out).mono ?_
  rintro e w6 ⟨rfl, rfl⟩
  go_upto_region 12 with (fail)
  generalize (w5.setCell ⟨ob, 0, none⟩ (.int .i64 (mst : Nat))).setCell ⟨ob, 1, none⟩ (.int .i64 (code : Nat)) = w7 at *
  have hat7 : At w7 ob 25 #[.int .i64 (mst : Nat), .int .i64 (code : Nat), .slice none 0 0, .slice (some ⟨g, 0, none⟩) buf.length cap, .slice none 0 0, .slice none 0 0, .int .i64 (roadOf s.direct false : Nat), .bool false] := HA7.out.at_
  have HAT7 := hide hat7
  have v0 := hat7.get 0
  have v1 := hat7.get 1
  have v2 := hat7.get 2
  have v3 := hat7.get 3
  have v4 := hat7.get 4
  have v5 := hat7.get 5
  have v6 := hat7.get 6
  have v7 := hat7.get 7
  have f0 := hat7.soft 0
  have f1 := hat7.soft 1
  have f2 := hat7.soft 2
  have f3 := hat7.soft 3
  have f4 := hat7.soft 4
  have f5 := hat7.soft 5
  have f6 := hat7.soft 6
  have f7 := hat7.soft 7
  clear hat7 q0 q1 z0 z1
  go_wp2
  have hA8 := ((((((((Sole.start HAT7.out).keep 0 (.int .i64 (mst : Nat)) rfl).keep 1 (.int .i64 (code : Nat)) rfl).keep 2 (.slice none 0 0) rfl).keep 3 (.slice (some ⟨g, 0, none⟩) buf.length cap) rfl).keep 4 (.slice none 0 0) rfl).keep 5 (.slice none 0 0) rfl).keep 6 (.int .i64 (roadOf s.direct false : Nat)) rfl).keep 7 (.bool false) rfl
  generalize (((((((w7.setCell ⟨ob, 0, none⟩ (.int .i64 (mst : Nat))).setCell ⟨ob, 1, none⟩ (.int .i64 (code : Nat))).setCell ⟨ob, 2, none⟩ (.slice none 0 0)).setCell ⟨ob, 3, none⟩ (.slice (some ⟨g, 0, none⟩) buf.length cap)).setCell ⟨ob, 4, none⟩ (.slice none 0 0)).setCell ⟨ob, 5, none⟩ (.slice none 0 0)).setCell ⟨ob, 6, none⟩ (.int .i64 (roadOf s.direct false : Nat))).setCell ⟨ob, 7, none⟩ (.bool false) = w8 at *
  have hat8 : At w8 ob 25 #[.int .i64 (mst : Nat), .int .i64 (code : Nat), .slice none 0 0, .slice (some ⟨g, 0, none⟩) buf.length cap, .slice none 0 0, .slice none 0 0, .int .i64 (roadOf s.direct false : Nat), .bool false] := hA8.at_
  have hT8 : Turns (· = ob) w5 w8 := HA7.out.turns.trans hA8.turns (fun _ _ h => h)
  have hrb8 := HR5.out.blk.turns hT8 (HR5.out.blk.apart HO5.out (by decide))
  have hwb8 := HW5.out.blk.turns hT8 (HW5.out.blk.apart HO5.out (by decide))
  have HCL := hide (closure_idle hat8 (HRX5.out.turns hT8 (HRX5.out.apart HO5.out (by decide))) (HWX5.out.turns hT8 (HWX5.out.apart HO5.out (by decide))) hrb8 hwb8 ⟨_, _, _, rfl⟩ ⟨_, _, _, rfl⟩ ⟨_, _, _, rfl⟩ ⟨_, _, _, rfl⟩ ⟨_, _, _, rfl⟩ ⟨_, _, _, rfl⟩ ⟨_, rfl⟩)
  refine bodyPostD_ret ?_
  refine leaves_cons (f := 21) (args := #[.pointer (some ⟨ob, 0, none⟩), .pointer (some ⟨wx, 0, none⟩), .pointer (some ⟨rx, 0, none⟩)]) (fun h => by cases h) (inv21 _ _ _ _) ?_
  refine HCL.out.mono ?_
  rintro e u' w9 ⟨rfl, rfl, hat9, hT9⟩
  have hT59 : Turns (· = ob) w5 w9 := hT8.trans hT9 (fun _ _ h => h)
  have r0 := hat9.get 0
  have r1 := hat9.get 1
  have r2 := hat9.get 2
  have r3 := hat9.get 3
  have r4 := hat9.get 4
  have r5 := hat9.get 5
  have r6 := hat9.get 6
  have r7 := hat9.get 7
  refine ⟨.agg #[.int .i64 (mst : Nat), .int .i64 (code : Nat), .slice GA (s.data.take mst).length gc, .slice (some ⟨g, 0, none⟩) buf.length cap, .slice AA asked.length ac, .slice VA writes.length vc, .int .i64 (roadOf s.direct false : Nat), .bool false], by simp [results, Tryd.results14, go_sem, r0, r1, r2, r3, r4, r5, r6, r7], ?_⟩
  have hlen : (s.data.take mst).length = mst := by rw [List.length_take]; exact Nat.min_eq_left (by rw [← HMM.out]; exact Nat.min_le_right _ _)
  have hgot := own_turns HW5.out.got hT59 (fun g hg e => own_ne HW5.out.got HO5.out (by decide) (e ▸ hg))
  rw [hlen] at hgot
  refine ⟨.slice GA mst gc, .slice (some ⟨g, 0, none⟩) buf.length cap, .slice AA asked.length ac, .slice VA writes.length vc, asked, writes, by rw [HMM.out, HCODE.out, hlen], by rw [HMM.out]; exact hgot, own_turns HR5.out.notes hT59 (fun g hg e => own_ne HR5.out.notes HO5.out (by decide) (e ▸ hg)), own_turns HW5.out.notes hT59 (fun g hg e => own_ne HW5.out.notes HO5.out (by decide) (e ▸ hg)), HTOLD.out, ⟨_, _, rfl, fun _ hr => by
    have hb9 : At w9 g 5 cur := by
      have := HG5.out.turns hT59 (HG5.out.apart HO5.out (by decide))
      rw [HSAME.out hr] at this
      exact this
    have hrow : w9.ownsRow w.heap.size 5 1 (.slice (some ⟨g, 0, none⟩) buf.length cap) buf.length (buf.map (Value.int .u8)) := ⟨by simp, .inr ⟨g, cap, cur, rfl, HGB.out, hb9, hncap, by unfold maxLen; omega, HCS.out, HTK.out⟩⟩
    obtain ⟨A0, c0, e0, _, hs0⟩ := Sl.of_own hrow
    cases e0
    exact hs0⟩, ?_⟩
  exact (Turns.trans (Turns.trans HT4.out HT5.out (fun _ _ h => h)) hT59 (fun i _ e => by rw [e]; exact HOB.out)).below (Nat.le_refl _) (fun i hi h => by omega)

set_option maxHeartbeats 2000000 in
theorem impl_some_true {w : World} {s : Src} {DA PA BA : Option Addr} {dc pc bc : Nat} {room : Int} {quiet : Bool} {buf : List Int} {E : Nat → Addr} (hd : Sl w 1 DA s.data.length (s.data.map (Value.int .u8))) (hDn : DA = none → dc = 0)
    (hp : Sl w 1 PA s.pieces.length (s.pieces.map (Value.int .i64))) (hPn : PA = none → pc = 0) (hb : Sl w 1 BA buf.length (buf.map (Value.int .u8))) (hBn : BA = none → bc = 0) (hE : Env w.heap.size E w)
    (h0 : 0 < buf.length) (hs9 : buf.length ≤ 1000000) (hr1 : -9223372036854775808 ≤ room) (hr2 : room ≤ 9223372036854775807) (hdl : s.data.length ≤ 1000000) (hpl : s.pieces.length ≤ 1000000) :
    Calls Tryd.prog 14 #[.agg #[.slice DA s.data.length dc, .slice PA s.pieces.length pc, .bool s.together, .bool s.broken, .bool s.direct], .agg #[.int .i64 room, .bool quiet, .bool true], .slice BA buf.length bc, .bool false] w (ImplPost s room quiet true buf false buf.length w) := by
  have HD := hide hd; have HP := hide hp; have HDN := hide hDn; have HPN := hide hPn; have HBF := hide hb; have HBN := hide hBn; have HE := hide hE
  clear hd hp hDn hPn hb hBn hE
  have hmf := mkF
  have hnot : ∀ (x : Bool) (w : World), (Op.unary .not (.bool x)).run Tryd.prog w = .ok (.bool (!x)) w := fun _ _ => rfl
  go_enter_defers Tryd.func14, Tryd.ntmps14
  go_wp2_with fail
  refine (open_any (s := s) (by exact ((HD.out.laid _).laid _).laid _) HDN.out (by exact ((HP.out.laid _).laid _).laid _) HPN.out (by omega) (by omega)).mono ?_
  rintro e w1 ⟨rb, dv, pv, rfl, hRd, hN1⟩
  have hN : New w w1 := new_trans (new_al (new_al (new_alloc _ _) _) _) hN1
  have hR0 : Rd w.heap.size w1 rb s dv pv (.slice none 0 0) 0 0 [] := hRd.mono (by simp; omega)
  have hsk : At w1 (w.heap.size + 1) 31 #[.int .i64 room, .bool quiet, .bool true] := At.new ((At.made' (by simp) _ _).laid _) hN1
  have hou : At w1 (w.heap.size + 2) 25 #[.int .i64 0, .int .i64 0, .slice none 0 0, .slice none 0 0, .slice none 0 0, .slice none 0 0, .int .i64 0, .bool false] := At.new (At.made' (by simp) _ _) hN1
  have k0 := hsk.get 0
  have k1 := hsk.get 1
  have k2 := hsk.get 2
  have u3 := hou.get 3
  have y3 := hou.soft 3
  have hls := hsk.size_lt
  have hlo := hou.size_lt
  have HR0 := hide hR0; have HN := hide hN; have HSK := hide hsk; have HOU := hide hou
  clear hRd hN1 hR0 hN hsk hou
  go_upto_region 4 with (fail)
  have hN2 : New w1 (((w1.alloc (.cells #[.pointer (some ⟨rb, 0, none⟩)] 49)).alloc (.cells #[.int .i64 room, .bool quiet, .bool true, .slice none 0 0, .slice none 0 0] 57)).alloc (.cells #[.pointer (some ⟨w1.heap.size + 1, 0, none⟩)] 55)) := new_al (new_al (new_alloc _ _) _) _
  have hrx : At (((w1.alloc (.cells #[.pointer (some ⟨rb, 0, none⟩)] 49)).alloc (.cells #[.int .i64 room, .bool quiet, .bool true, .slice none 0 0, .slice none 0 0] 57)).alloc (.cells #[.pointer (some ⟨w1.heap.size + 1, 0, none⟩)] 55)) w1.heap.size 49 #[.pointer (some ⟨rb, 0, none⟩)] := ((At.made _ _ _).laid _).laid _
  have hwb : At (((w1.alloc (.cells #[.pointer (some ⟨rb, 0, none⟩)] 49)).alloc (.cells #[.int .i64 room, .bool quiet, .bool true, .slice none 0 0, .slice none 0 0] 57)).alloc (.cells #[.pointer (some ⟨w1.heap.size + 1, 0, none⟩)] 55)) (w1.heap.size + 1) 57 #[.int .i64 room, .bool quiet, .bool true, .slice none 0 0, .slice none 0 0] := (At.made' (by simp) _ _).laid _
  have hwx : At (((w1.alloc (.cells #[.pointer (some ⟨rb, 0, none⟩)] 49)).alloc (.cells #[.int .i64 room, .bool quiet, .bool true, .slice none 0 0, .slice none 0 0] 57)).alloc (.cells #[.pointer (some ⟨w1.heap.size + 1, 0, none⟩)] 55)) (w1.heap.size + 1 + 1) 55 #[.pointer (some ⟨w1.heap.size + 1, 0, none⟩)] := At.made' (by simp) _ _
  generalize ((w1.alloc (.cells #[.pointer (some ⟨rb, 0, none⟩)] 49)).alloc (.cells #[.int .i64 room, .bool quiet, .bool true, .slice none 0 0, .slice none 0 0] 57)).alloc (.cells #[.pointer (some ⟨w1.heap.size + 1, 0, none⟩)] 55) = w2 at *
  have hw1s := HN.out.size
  generalize hrxe : w1.heap.size = rx at *
  generalize hwbe : rx + 1 = wb at *
  generalize hwxe : wb + 1 = wx at *
  have HN2 := hide (new_trans HN.out hN2)
  generalize hobe : w.heap.size + 1 + 1 = ob at *
  have HOB : Hid (w.heap.size ≤ ob) := by show w.heap.size ≤ ob; omega
  have hwbb : w.heap.size ≤ wb := by omega
  have HRD : Hid (Ready w.heap.size w2 rb wb ob rx wx s dv pv room quiet true #[.int .i64 0, .int .i64 0, .slice none 0 0, .slice none 0 0, .slice none 0 0, .slice none 0 0, .int .i64 0, .bool false]) :=
    ⟨HR0.out.new hN2, ⟨hwb, World.ownsRow_nil _ _ _ _, World.ownsRow_nil _ _ _ _, hwbb⟩, HOU.out.new hN2, hrx, hwx⟩
  have k2' := (HSK.out.new hN2).get 2
  have wx0 := hwx.get 0
  have hlo2 := HRD.out.out.size_lt
  have o3 := HRD.out.out.get 3
  have p3 := HRD.out.out.soft 3
  clear k0 k1 k2 u3 y3 hls hlo HR0 HN HSK HOU hrx hwb hwx hN2 hrxe hwbe hwxe hw1s hwbb
  go_wp2_with (at_builtin; (with_reducible refine wpList_append_empty rfl (.tmp 34) (.tmp 35) 22 rfl 5 (.int .u8 0) 1 1 Tryd.underlying22 info5 rfl (by decide) _ rfl BA buf.length bc (buf.map (Value.int .u8)) rfl HBN.out ?c1 (ints_oneCell _ _) ?c3 ?c4 rfl ?_))
  case c1 => exact HBF.out.new HN2.out
  case c3 => unfold maxLen; omega
  case c4 => omega
  intro bv w3 hbv hN3 hlt3
  have HBV := hide hbv
  rcases hbv.2 with ⟨_, hz⟩ | ⟨g, cap, cur, rfl, hgB, hg, hncap, hcm, hcs, htake⟩
  · omega
  have HN3 := hide (new_trans HN2.out hN3)
  have HRD3 := hide (HRD.out.new hN3)
  have q3 := HRD3.out.out.get 3
  have y3 := HRD3.out.out.soft 3
  have hsz2 := HN2.out.size
  have hgat : At w3 g 5 cur := hg
  have hgo : g ≠ ob := hgat.apart HRD3.out.out (by decide)
  have HRD4 := hide (HRD3.out.put 3 (.slice (some ⟨g, 0, none⟩) buf.length cap))
  have HG4 := hide (hgat.away (p := ⟨ob, 3, none⟩) (Ne.symm hgo) (.slice (some ⟨g, 0, none⟩) buf.length cap))
  have HDG : Hid (dv.ownBlock ≠ some g) := fun e => by have := (HRD.out.rd.data.lt g e).2; omega
  have HGB : Hid (w.heap.size ≤ g) := Nat.le_trans hsz2 hgB
  have HT4 : Hid (Turns (fun k => w.heap.size ≤ k) w (w3.setCell ⟨ob, 3, none⟩ (.slice (some ⟨g, 0, none⟩) buf.length cap))) := (Turns.of_new HN3.out (fun k => w.heap.size ≤ k)).setCell (fun _ => HOB.out) _
  have HCS := hide hcs; have HTK := hide htake
  unfold maxLen at hcm
  clear hbv hg hN3 hlt3 hgat hgo hgB hcs htake HRD HN2 HRD3 HN3 wx0 o3 p3 k2' hlo2 hsz2 HBV
  go_wp2_with fail
  generalize w3.setCell ⟨ob, 3, none⟩ (.slice (some ⟨g, 0, none⟩) buf.length cap) = w4 at *
  have HCB : Hid (Calls Tryd.prog 22 #[.iface 61 (.agg #[.pointer (some ⟨wb, 0, none⟩), .pointer (some ⟨ob, 6, none⟩)]), handOn s.direct rb (.pointer (some ⟨ob, 6, none⟩)), .slice (some ⟨g, 0, none⟩) buf.length cap] w4
      (CBPost w.heap.size rb wb ob #[.int .i64 0, .int .i64 0, .slice none 0 0, .slice (some ⟨g, 0, none⟩) buf.length cap, .slice none 0 0, .slice none 0 0, .int .i64 0, .bool false] s dv pv room quiet true buf.length (roadOf s.direct true) E w4)) :=
    cb_any (pcur := cur.toList) HRD4.out.rd HRD4.out.wr (HE.out.turns HT4.out (fun _ h => h)) HRD4.out.out rfl HOB.out HG4.out HDG.out HGB.out (by have h1 := HCS.out; simp only [Array.length_toList]; omega) h0 hncap hcm (by omega) hr1 hr2 (by omega) (by omega)
  refine HCB.out.mono ?_
  rintro e w5 ⟨av, gv, wv, at5, pc5, asked, writes, rfl, hR5, hW5, hTold, hO5, hE5, hT5, hkeep, hbuf5⟩
  have ho5 : At w5 ob 25 #[.int .i64 0, .int .i64 0, .slice none 0 0, .slice (some ⟨g, 0, none⟩) buf.length cap, .slice none 0 0, .slice none 0 0, .int .i64 (roadOf s.direct true : Nat), .bool false] := hO5
  have hrx5 : At w5 rx 49 #[.pointer (some ⟨rb, 0, none⟩)] := hkeep _ _ _ (by decide) (by decide) (by decide) (by decide) (HRD4.out.rx.apart HRD4.out.out (by decide)) HRD4.out.rx
  have hwx5 : At w5 wx 55 #[.pointer (some ⟨wb, 0, none⟩)] := hkeep _ _ _ (by decide) (by decide) (by decide) (by decide) (HRD4.out.wx.apart HRD4.out.out (by decide)) HRD4.out.wx
  obtain ⟨cs5, hg5, hsz5, hsame5⟩ := hbuf5 g _ HG4.out HDG.out
  obtain ⟨AA, ac, rfl, -, -⟩ := Sl.of_own hR5.notes
  obtain ⟨GA, gc, rfl, -, -⟩ := Sl.of_own hW5.got
  obtain ⟨VA, vc, rfl, -, -⟩ := Sl.of_own hW5.notes
  have q0 := ho5.get 0
  have q1 := ho5.get 1
  have z0 := ho5.soft 0
  have z1 := ho5.soft 1
  have hA6 := ((Sole.start ho5).put 0 (.int .i64 (s.most room : Nat)))
  have HE6 := hide (hE5.turns hA6.turns (fun k e => by rw [e]; exact HOB.out))
  have hA7 := hA6.put 1 (.int .i64 (s.copyCode room quiet : Nat))
  have HR5 := hide hR5; have HW5 := hide hW5; have HTOLD := hide hTold; have HO5 := hide ho5; have HT5 := hide hT5; have HRX5 := hide hrx5; have HWX5 := hide hwx5; have HG5 := hide hg5; have HSAME := hide hsame5; have HA7 := hide hA7
  clear hR5 hW5 hTold hO5 ho5 hE5 hT5 hkeep hbuf5 hrx5 hwx5 hg5 hsz5 hsame5 HCB hA6 hA7 q3 y3
  have hcl := copyCode_le s room quiet
  have HNUM : Hid (∀ W : World, Env w.heap.size E W → Calls Tryd.prog 23 #[errVal E (s.copyCode room quiet)] W fun e w' => e = .returned (.int .i64 (s.copyCode room quiet : Nat)) ∧ W = w') := by
    intro W hW
    have k4 := nErrs_ge
    have := number hW (s.copyCode room quiet) (by omega)
    have e5 : Nat.min (s.copyCode room quiet) 5 = s.copyCode room quiet := Nat.min_eq_left (by omega)
    rwa [e5] at this
  generalize hcc : s.copyCode room quiet = code at *
  have HCODE := hide hcc
  generalize hmm : s.most room = mst at *
  have HMM := hide hmm
  clear hmm hcl hcc
  go_wp2_with fail
  refine (HNUM.out _ HE6.out).mono ?_
  rintro e w6 ⟨rfl, rfl⟩
  go_upto_region 12 with (fail)
  generalize (w5.setCell ⟨ob, 0, none⟩ (.int .i64 (mst : Nat))).setCell ⟨ob, 1, none⟩ (.int .i64 (code : Nat)) = w7 at *
  have hat7 : At w7 ob 25 #[.int .i64 (mst : Nat), .int .i64 (code : Nat), .slice none 0 0, .slice (some ⟨g, 0, none⟩) buf.length cap, .slice none 0 0, .slice none 0 0, .int .i64 (roadOf s.direct true : Nat), .bool false] := HA7.out.at_
  have HAT7 := hide hat7
  have v0 := hat7.get 0
  have v1 := hat7.get 1
  have v2 := hat7.get 2
  have v3 := hat7.get 3
  have v4 := hat7.get 4
  have v5 := hat7.get 5
  have v6 := hat7.get 6
  have v7 := hat7.get 7
  have f0 := hat7.soft 0
  have f1 := hat7.soft 1
  have f2 := hat7.soft 2
  have f3 := hat7.soft 3
  have f4 := hat7.soft 4
  have f5 := hat7.soft 5
  have f6 := hat7.soft 6
  have f7 := hat7.soft 7
  clear hat7 q0 q1 z0 z1
  go_wp2
  have hA8 := ((((((((Sole.start HAT7.out).keep 0 (.int .i64 (mst : Nat)) rfl).keep 1 (.int .i64 (code : Nat)) rfl).keep 2 (.slice none 0 0) rfl).keep 3 (.slice (some ⟨g, 0, none⟩) buf.length cap) rfl).keep 4 (.slice none 0 0) rfl).keep 5 (.slice none 0 0) rfl).keep 6 (.int .i64 (roadOf s.direct true : Nat)) rfl).keep 7 (.bool false) rfl
  generalize (((((((w7.setCell ⟨ob, 0, none⟩ (.int .i64 (mst : Nat))).setCell ⟨ob, 1, none⟩ (.int .i64 (code : Nat))).setCell ⟨ob, 2, none⟩ (.slice none 0 0)).setCell ⟨ob, 3, none⟩ (.slice (some ⟨g, 0, none⟩) buf.length cap)).setCell ⟨ob, 4, none⟩ (.slice none 0 0)).setCell ⟨ob, 5, none⟩ (.slice none 0 0)).setCell ⟨ob, 6, none⟩ (.int .i64 (roadOf s.direct true : Nat))).setCell ⟨ob, 7, none⟩ (.bool false) = w8 at *
  have hat8 : At w8 ob 25 #[.int .i64 (mst : Nat), .int .i64 (code : Nat), .slice none 0 0, .slice (some ⟨g, 0, none⟩) buf.length cap, .slice none 0 0, .slice none 0 0, .int .i64 (roadOf s.direct true : Nat), .bool false] := hA8.at_
  have hT8 : Turns (· = ob) w5 w8 := HA7.out.turns.trans hA8.turns (fun _ _ h => h)
  have hrb8 := HR5.out.blk.turns hT8 (HR5.out.blk.apart HO5.out (by decide))
  have hwb8 := HW5.out.blk.turns hT8 (HW5.out.blk.apart HO5.out (by decide))
  have HCL := hide (closure_idle hat8 (HRX5.out.turns hT8 (HRX5.out.apart HO5.out (by decide))) (HWX5.out.turns hT8 (HWX5.out.apart HO5.out (by decide))) hrb8 hwb8 ⟨_, _, _, rfl⟩ ⟨_, _, _, rfl⟩ ⟨_, _, _, rfl⟩ ⟨_, _, _, rfl⟩ ⟨_, _, _, rfl⟩ ⟨_, _, _, rfl⟩ ⟨_, rfl⟩)
  refine bodyPostD_ret ?_
  refine leaves_cons (f := 21) (args := #[.pointer (some ⟨ob, 0, none⟩), .pointer (some ⟨wx, 0, none⟩), .pointer (some ⟨rx, 0, none⟩)]) (fun h => by cases h) (inv21 _ _ _ _) ?_
  refine HCL.out.mono ?_
  rintro e u' w9 ⟨rfl, rfl, hat9, hT9⟩
  have hT59 : Turns (· = ob) w5 w9 := hT8.trans hT9 (fun _ _ h => h)
  have r0 := hat9.get 0
  have r1 := hat9.get 1
  have r2 := hat9.get 2
  have r3 := hat9.get 3
  have r4 := hat9.get 4
  have r5 := hat9.get 5
  have r6 := hat9.get 6
  have r7 := hat9.get 7
  refine ⟨.agg #[.int .i64 (mst : Nat), .int .i64 (code : Nat), .slice GA (s.data.take mst).length gc, .slice (some ⟨g, 0, none⟩) buf.length cap, .slice AA asked.length ac, .slice VA writes.length vc, .int .i64 (roadOf s.direct true : Nat), .bool false], by simp [results, Tryd.results14, go_sem, r0, r1, r2, r3, r4, r5, r6, r7], ?_⟩
  have hlen : (s.data.take mst).length = mst := by rw [List.length_take]; exact Nat.min_eq_left (by rw [← HMM.out]; exact Nat.min_le_right _ _)
  have hgot := own_turns HW5.out.got hT59 (fun g hg e => own_ne HW5.out.got HO5.out (by decide) (e ▸ hg))
  rw [hlen] at hgot
  refine ⟨.slice GA mst gc, .slice (some ⟨g, 0, none⟩) buf.length cap, .slice AA asked.length ac, .slice VA writes.length vc, asked, writes, by rw [HMM.out, HCODE.out, hlen], by rw [HMM.out]; exact hgot, own_turns HR5.out.notes hT59 (fun g hg e => own_ne HR5.out.notes HO5.out (by decide) (e ▸ hg)), own_turns HW5.out.notes hT59 (fun g hg e => own_ne HW5.out.notes HO5.out (by decide) (e ▸ hg)), HTOLD.out, ⟨_, _, rfl, fun _ hr => by
    have hb9 : At w9 g 5 cur := by
      have := HG5.out.turns hT59 (HG5.out.apart HO5.out (by decide))
      rw [HSAME.out hr] at this
      exact this
    have hrow : w9.ownsRow w.heap.size 5 1 (.slice (some ⟨g, 0, none⟩) buf.length cap) buf.length (buf.map (Value.int .u8)) := ⟨by simp, .inr ⟨g, cap, cur, rfl, HGB.out, hb9, hncap, by unfold maxLen; omega, HCS.out, HTK.out⟩⟩
    obtain ⟨A0, c0, e0, _, hs0⟩ := Sl.of_own hrow
    cases e0
    exact hs0⟩, ?_⟩
  exact (Turns.trans (Turns.trans HT4.out HT5.out (fun _ _ h => h)) hT59 (fun i _ e => by rw [e]; exact HOB.out)).below (Nat.le_refl _) (fun i hi h => by omega)

set_option maxHeartbeats 2000000 in
theorem impl_nil_false {w : World} {s : Src} {DA PA BA : Option Addr} {dc pc bc size : Nat} {room : Int} {quiet : Bool} {buf : List Int} {E : Nat → Addr} (hd : Sl w 1 DA s.data.length (s.data.map (Value.int .u8))) (hDn : DA = none → dc = 0)
    (hp : Sl w 1 PA s.pieces.length (s.pieces.map (Value.int .i64))) (hPn : PA = none → pc = 0) (hb : Sl w 1 BA buf.length (buf.map (Value.int .u8))) (hBn : BA = none → bc = 0) (hE : Env w.heap.size E w)
    (HSZ : Hid (size = 32768)) (hr1 : -9223372036854775808 ≤ room) (hr2 : room ≤ 9223372036854775807) (hdl : s.data.length ≤ 1000000) (hpl : s.pieces.length ≤ 1000000) :
    Calls Tryd.prog 14 #[.agg #[.slice DA s.data.length dc, .slice PA s.pieces.length pc, .bool s.together, .bool s.broken, .bool s.direct], .agg #[.int .i64 room, .bool quiet, .bool false], .slice BA buf.length bc, .bool true] w (ImplPost s room quiet false buf true size w) := by
  have HD := hide hd; have HP := hide hp; have HDN := hide hDn; have HPN := hide hPn; have HBF := hide hb; have HBN := hide hBn; have HE := hide hE
  clear hd hp hDn hPn hb hBn hE
  have hmf := mkF
  have hnot : ∀ (x : Bool) (w : World), (Op.unary .not (.bool x)).run Tryd.prog w = .ok (.bool (!x)) w := fun _ _ => rfl
  go_enter_defers Tryd.func14, Tryd.ntmps14
  go_wp2_with fail
  refine (open_any (s := s) (by exact ((HD.out.laid _).laid _).laid _) HDN.out (by exact ((HP.out.laid _).laid _).laid _) HPN.out (by omega) (by omega)).mono ?_
  rintro e w1 ⟨rb, dv, pv, rfl, hRd, hN1⟩
  have hN : New w w1 := new_trans (new_al (new_al (new_alloc _ _) _) _) hN1
  have hR0 : Rd w.heap.size w1 rb s dv pv (.slice none 0 0) 0 0 [] := hRd.mono (by simp; omega)
  have hsk : At w1 (w.heap.size + 1) 31 #[.int .i64 room, .bool quiet, .bool false] := At.new ((At.made' (by simp) _ _).laid _) hN1
  have hou : At w1 (w.heap.size + 2) 25 #[.int .i64 0, .int .i64 0, .slice none 0 0, .slice none 0 0, .slice none 0 0, .slice none 0 0, .int .i64 0, .bool false] := At.new (At.made' (by simp) _ _) hN1
  have k0 := hsk.get 0
  have k1 := hsk.get 1
  have k2 := hsk.get 2
  have u3 := hou.get 3
  have y3 := hou.soft 3
  have hls := hsk.size_lt
  have hlo := hou.size_lt
  have HR0 := hide hR0; have HN := hide hN; have HSK := hide hsk; have HOU := hide hou
  clear hRd hN1 hR0 hN hsk hou
  go_upto_region 4 with (fail)
  have hN2 : New w1 (((w1.alloc (.cells #[.pointer (some ⟨rb, 0, none⟩)] 49)).alloc (.cells #[.int .i64 room, .bool quiet, .bool false, .slice none 0 0, .slice none 0 0] 57)).alloc (.cells #[.pointer (some ⟨w1.heap.size + 1, 0, none⟩)] 55)) := new_al (new_al (new_alloc _ _) _) _
  have hrx : At (((w1.alloc (.cells #[.pointer (some ⟨rb, 0, none⟩)] 49)).alloc (.cells #[.int .i64 room, .bool quiet, .bool false, .slice none 0 0, .slice none 0 0] 57)).alloc (.cells #[.pointer (some ⟨w1.heap.size + 1, 0, none⟩)] 55)) w1.heap.size 49 #[.pointer (some ⟨rb, 0, none⟩)] := ((At.made _ _ _).laid _).laid _
  have hwb : At (((w1.alloc (.cells #[.pointer (some ⟨rb, 0, none⟩)] 49)).alloc (.cells #[.int .i64 room, .bool quiet, .bool false, .slice none 0 0, .slice none 0 0] 57)).alloc (.cells #[.pointer (some ⟨w1.heap.size + 1, 0, none⟩)] 55)) (w1.heap.size + 1) 57 #[.int .i64 room, .bool quiet, .bool false, .slice none 0 0, .slice none 0 0] := (At.made' (by simp) _ _).laid _
  have hwx : At (((w1.alloc (.cells #[.pointer (some ⟨rb, 0, none⟩)] 49)).alloc (.cells #[.int .i64 room, .bool quiet, .bool false, .slice none 0 0, .slice none 0 0] 57)).alloc (.cells #[.pointer (some ⟨w1.heap.size + 1, 0, none⟩)] 55)) (w1.heap.size + 1 + 1) 55 #[.pointer (some ⟨w1.heap.size + 1, 0, none⟩)] := At.made' (by simp) _ _
  generalize ((w1.alloc (.cells #[.pointer (some ⟨rb, 0, none⟩)] 49)).alloc (.cells #[.int .i64 room, .bool quiet, .bool false, .slice none 0 0, .slice none 0 0] 57)).alloc (.cells #[.pointer (some ⟨w1.heap.size + 1, 0, none⟩)] 55) = w2 at *
  have hw1s := HN.out.size
  generalize hrxe : w1.heap.size = rx at *
  generalize hwbe : rx + 1 = wb at *
  generalize hwxe : wb + 1 = wx at *
  have HN2 := hide (new_trans HN.out hN2)
  generalize hobe : w.heap.size + 1 + 1 = ob at *
  have HOB : Hid (w.heap.size ≤ ob) := by show w.heap.size ≤ ob; omega
  have hwbb : w.heap.size ≤ wb := by omega
  have HRD : Hid (Ready w.heap.size w2 rb wb ob rx wx s dv pv room quiet false #[.int .i64 0, .int .i64 0, .slice none 0 0, .slice none 0 0, .slice none 0 0, .slice none 0 0, .int .i64 0, .bool false]) :=
    ⟨HR0.out.new hN2, ⟨hwb, World.ownsRow_nil _ _ _ _, World.ownsRow_nil _ _ _ _, hwbb⟩, HOU.out.new hN2, hrx, hwx⟩
  have k2' := (HSK.out.new hN2).get 2
  have wx0 := hwx.get 0
  have hlo2 := HRD.out.out.size_lt
  have o3 := HRD.out.out.get 3
  have p3 := HRD.out.out.soft 3
  clear k0 k1 k2 u3 y3 hls hlo HR0 HN HSK HOU hrx hwb hwx hN2 hrxe hwbe hwxe hw1s hwbb
  have HRD4 := HRD
  have HT4 : Hid (Turns (fun k => w.heap.size ≤ k) w w2) := Turns.of_new HN2.out (fun k => w.heap.size ≤ k)
  go_wp2_with fail
  clear wx0 o3 p3 k2' hlo2 HRD
  have HCB : Hid (Calls Tryd.prog 22 #[.iface 55 (.pointer (some ⟨wb, 0, none⟩)), handOn s.direct rb (.pointer (some ⟨ob, 6, none⟩)), .slice none 0 0] w2
      (CBPost w.heap.size rb wb ob #[.int .i64 0, .int .i64 0, .slice none 0 0, .slice none 0 0, .slice none 0 0, .slice none 0 0, .int .i64 0, .bool false] s dv pv room quiet false size (roadOf s.direct false) E w2)) :=
    cb_nil HSZ HRD4.out.rd HRD4.out.wr (HE.out.turns HT4.out (fun _ h => h)) HRD4.out.out rfl HOB.out hr1 hr2 (by omega) (by omega)
  refine HCB.out.mono ?_
  rintro e w5 ⟨av, gv, wv, at5, pc5, asked, writes, rfl, hR5, hW5, hTold, hO5, hE5, hT5, hkeep, hbuf5⟩
  have ho5 : At w5 ob 25 #[.int .i64 0, .int .i64 0, .slice none 0 0, .slice none 0 0, .slice none 0 0, .slice none 0 0, .int .i64 (roadOf s.direct false : Nat), .bool false] := hO5
  have hrx5 : At w5 rx 49 #[.pointer (some ⟨rb, 0, none⟩)] := hkeep _ _ _ (by decide) (by decide) (by decide) (by decide) (HRD4.out.rx.apart HRD4.out.out (by decide)) HRD4.out.rx
  have hwx5 : At w5 wx 55 #[.pointer (some ⟨wb, 0, none⟩)] := hkeep _ _ _ (by decide) (by decide) (by decide) (by decide) (HRD4.out.wx.apart HRD4.out.out (by decide)) HRD4.out.wx
  obtain ⟨AA, ac, rfl, -, -⟩ := Sl.of_own hR5.notes
  obtain ⟨GA, gc, rfl, -, -⟩ := Sl.of_own hW5.got
  obtain ⟨VA, vc, rfl, -, -⟩ := Sl.of_own hW5.notes
  have q0 := ho5.get 0
  have q1 := ho5.get 1
  have z0 := ho5.soft 0
  have z1 := ho5.soft 1
  have hA6 := ((Sole.start ho5).put 0 (.int .i64 (s.most room : Nat)))
  have HE6 := hide (hE5.turns hA6.turns (fun k e => by rw [e]; exact HOB.out))
  have hA7 := hA6.put 1 (.int .i64 (s.copyCode room quiet : Nat))
  have HR5 := hide hR5; have HW5 := hide hW5; have HTOLD := hide hTold; have HO5 := hide ho5; have HT5 := hide hT5; have HRX5 := hide hrx5; have HWX5 := hide hwx5; have HA7 := hide hA7
  clear hR5 hW5 hTold hO5 ho5 hE5 hT5 hkeep hbuf5 hrx5 hwx5 HCB hA6 hA7
  have hcl := copyCode_le s room quiet
  have HNUM : Hid (∀ W : World, Env w.heap.size E W → Calls Tryd.prog 23 #[errVal E (s.copyCode room quiet)] W fun e w' => e = .returned (.int .i64 (s.copyCode room quiet : Nat)) ∧ W = w') := by
    intro W hW
    have k4 := nErrs_ge
    have := number hW (s.copyCode room quiet) (by omega)
    have e5 : Nat.min (s.copyCode room quiet) 5 = s.copyCode room quiet := Nat.min_eq_left (by omega)
    rwa [e5] at this
  generalize hcc : s.copyCode room quiet = code at *
  have HCODE := hide hcc
  generalize hmm : s.most room = mst at *
  have HMM := hide hmm
  clear hmm hcl hcc
  go_wp2_with fail
  refine (HNUM.out _ HE6.out).mono ?_
  rintro e w6 ⟨rfl, rfl⟩
  go_upto_region 12 with (fail)
  generalize (w5.setCell ⟨ob, 0, none⟩ (.int .i64 (mst : Nat))).setCell ⟨ob, 1, none⟩ (.int .i64 (code : Nat)) = w7 at *
  have hat7 : At w7 ob 25 #[.int .i64 (mst : Nat), .int .i64 (code : Nat), .slice none 0 0, .slice none 0 0, .slice none 0 0, .slice none 0 0, .int .i64 (roadOf s.direct false : Nat), .bool false] := HA7.out.at_
  have HAT7 := hide hat7
  have v0 := hat7.get 0
  have v1 := hat7.get 1
  have v2 := hat7.get 2
  have v3 := hat7.get 3
  have v4 := hat7.get 4
  have v5 := hat7.get 5
  have v6 := hat7.get 6
  have v7 := hat7.get 7
  have f0 := hat7.soft 0
  have f1 := hat7.soft 1
  have f2 := hat7.soft 2
  have f3 := hat7.soft 3
  have f4 := hat7.soft 4
  have f5 := hat7.soft 5
  have f6 := hat7.soft 6
  have f7 := hat7.soft 7
  clear hat7 q0 q1 z0 z1
  go_wp2
  have hA8 := ((((((((Sole.start HAT7.out).keep 0 (.int .i64 (mst : Nat)) rfl).keep 1 (.int .i64 (code : Nat)) rfl).keep 2 (.slice none 0 0) rfl).keep 3 (.slice none 0 0) rfl).keep 4 (.slice none 0 0) rfl).keep 5 (.slice none 0 0) rfl).keep 6 (.int .i64 (roadOf s.direct false : Nat)) rfl).keep 7 (.bool false) rfl
  generalize (((((((w7.setCell ⟨ob, 0, none⟩ (.int .i64 (mst : Nat))).setCell ⟨ob, 1, none⟩ (.int .i64 (code : Nat))).setCell ⟨ob, 2, none⟩ (.slice none 0 0)).setCell ⟨ob, 3, none⟩ (.slice none 0 0)).setCell ⟨ob, 4, none⟩ (.slice none 0 0)).setCell ⟨ob, 5, none⟩ (.slice none 0 0)).setCell ⟨ob, 6, none⟩ (.int .i64 (roadOf s.direct false : Nat))).setCell ⟨ob, 7, none⟩ (.bool false) = w8 at *
  have hat8 : At w8 ob 25 #[.int .i64 (mst : Nat), .int .i64 (code : Nat), .slice none 0 0, .slice none 0 0, .slice none 0 0, .slice none 0 0, .int .i64 (roadOf s.direct false : Nat), .bool false] := hA8.at_
  have hT8 : Turns (· = ob) w5 w8 := HA7.out.turns.trans hA8.turns (fun _ _ h => h)
  have hrb8 := HR5.out.blk.turns hT8 (HR5.out.blk.apart HO5.out (by decide))
  have hwb8 := HW5.out.blk.turns hT8 (HW5.out.blk.apart HO5.out (by decide))
  have HCL := hide (closure_idle hat8 (HRX5.out.turns hT8 (HRX5.out.apart HO5.out (by decide))) (HWX5.out.turns hT8 (HWX5.out.apart HO5.out (by decide))) hrb8 hwb8 ⟨_, _, _, rfl⟩ ⟨_, _, _, rfl⟩ ⟨_, _, _, rfl⟩ ⟨_, _, _, rfl⟩ ⟨_, _, _, rfl⟩ ⟨_, _, _, rfl⟩ ⟨_, rfl⟩)
  refine bodyPostD_ret ?_
  refine leaves_cons (f := 21) (args := #[.pointer (some ⟨ob, 0, none⟩), .pointer (some ⟨wx, 0, none⟩), .pointer (some ⟨rx, 0, none⟩)]) (fun h => by cases h) (inv21 _ _ _ _) ?_
  refine HCL.out.mono ?_
  rintro e u' w9 ⟨rfl, rfl, hat9, hT9⟩
  have hT59 : Turns (· = ob) w5 w9 := hT8.trans hT9 (fun _ _ h => h)
  have r0 := hat9.get 0
  have r1 := hat9.get 1
  have r2 := hat9.get 2
  have r3 := hat9.get 3
  have r4 := hat9.get 4
  have r5 := hat9.get 5
  have r6 := hat9.get 6
  have r7 := hat9.get 7
  refine ⟨.agg #[.int .i64 (mst : Nat), .int .i64 (code : Nat), .slice GA (s.data.take mst).length gc, .slice none 0 0, .slice AA asked.length ac, .slice VA writes.length vc, .int .i64 (roadOf s.direct false : Nat), .bool false], by simp [results, Tryd.results14, go_sem, r0, r1, r2, r3, r4, r5, r6, r7], ?_⟩
  have hlen : (s.data.take mst).length = mst := by rw [List.length_take]; exact Nat.min_eq_left (by rw [← HMM.out]; exact Nat.min_le_right _ _)
  have hgot := own_turns HW5.out.got hT59 (fun g hg e => own_ne HW5.out.got HO5.out (by decide) (e ▸ hg))
  rw [hlen] at hgot
  refine ⟨.slice GA mst gc, .slice none 0 0, .slice AA asked.length ac, .slice VA writes.length vc, asked, writes, by rw [HMM.out, HCODE.out, hlen], by rw [HMM.out]; exact hgot, own_turns HR5.out.notes hT59 (fun g hg e => own_ne HR5.out.notes HO5.out (by decide) (e ▸ hg)), own_turns HW5.out.notes hT59 (fun g hg e => own_ne HW5.out.notes HO5.out (by decide) (e ▸ hg)), HTOLD.out, ⟨none, 0, rfl, fun h => by cases h⟩, ?_⟩
  exact (Turns.trans (Turns.trans HT4.out HT5.out (fun _ _ h => h)) hT59 (fun i _ e => by rw [e]; exact HOB.out)).below (Nat.le_refl _) (fun i hi h => by omega)

set_option maxHeartbeats 2000000 in
theorem impl_nil_true {w : World} {s : Src} {DA PA BA : Option Addr} {dc pc bc size : Nat} {room : Int} {quiet : Bool} {buf : List Int} {E : Nat → Addr} (hd : Sl w 1 DA s.data.length (s.data.map (Value.int .u8))) (hDn : DA = none → dc = 0)
    (hp : Sl w 1 PA s.pieces.length (s.pieces.map (Value.int .i64))) (hPn : PA = none → pc = 0) (hb : Sl w 1 BA buf.length (buf.map (Value.int .u8))) (hBn : BA = none → bc = 0) (hE : Env w.heap.size E w)
    (HSZ : Hid (size = 32768)) (hr1 : -9223372036854775808 ≤ room) (hr2 : room ≤ 9223372036854775807) (hdl : s.data.length ≤ 1000000) (hpl : s.pieces.length ≤ 1000000) :
    Calls Tryd.prog 14 #[.agg #[.slice DA s.data.length dc, .slice PA s.pieces.length pc, .bool s.together, .bool s.broken, .bool s.direct], .agg #[.int .i64 room, .bool quiet, .bool true], .slice BA buf.length bc, .bool true] w (ImplPost s room quiet true buf true size w) := by
  have HD := hide hd; have HP := hide hp; have HDN := hide hDn; have HPN := hide hPn; have HBF := hide hb; have HBN := hide hBn; have HE := hide hE
  clear hd hp hDn hPn hb hBn hE
  have hmf := mkF
  have hnot : ∀ (x : Bool) (w : World), (Op.unary .not (.bool x)).run Tryd.prog w = .ok (.bool (!x)) w := fun _ _ => rfl
  go_enter_defers Tryd.func14, Tryd.ntmps14
  go_wp2_with fail
  refine (open_any (s := s) (by exact ((HD.out.laid _).laid _).laid _) HDN.out (by exact ((HP.out.laid _).laid _).laid _) HPN.out (by omega) (by omega)).mono ?_
  rintro e w1 ⟨rb, dv, pv, rfl, hRd, hN1⟩
  have hN : New w w1 := new_trans (new_al (new_al (new_alloc _ _) _) _) hN1
  have hR0 : Rd w.heap.size w1 rb s dv pv (.slice none 0 0) 0 0 [] := hRd.mono (by simp; omega)
  have hsk : At w1 (w.heap.size + 1) 31 #[.int .i64 room, .bool quiet, .bool true] := At.new ((At.made' (by simp) _ _).laid _) hN1
  have hou : At w1 (w.heap.size + 2) 25 #[.int .i64 0, .int .i64 0, .slice none 0 0, .slice none 0 0, .slice none 0 0, .slice none 0 0, .int .i64 0, .bool false] := At.new (At.made' (by simp) _ _) hN1
  have k0 := hsk.get 0
  have k1 := hsk.get 1
  have k2 := hsk.get 2
  have u3 := hou.get 3
  have y3 := hou.soft 3
  have hls := hsk.size_lt
  have hlo := hou.size_lt
  have HR0 := hide hR0; have HN := hide hN; have HSK := hide hsk; have HOU := hide hou
  clear hRd hN1 hR0 hN hsk hou
  go_upto_region 4 with (fail)
  have hN2 : New w1 (((w1.alloc (.cells #[.pointer (some ⟨rb, 0, none⟩)] 49)).alloc (.cells #[.int .i64 room, .bool quiet, .bool true, .slice none 0 0, .slice none 0 0] 57)).alloc (.cells #[.pointer (some ⟨w1.heap.size + 1, 0, none⟩)] 55)) := new_al (new_al (new_alloc _ _) _) _
  have hrx : At (((w1.alloc (.cells #[.pointer (some ⟨rb, 0, none⟩)] 49)).alloc (.cells #[.int .i64 room, .bool quiet, .bool true, .slice none 0 0, .slice none 0 0] 57)).alloc (.cells #[.pointer (some ⟨w1.heap.size + 1, 0, none⟩)] 55)) w1.heap.size 49 #[.pointer (some ⟨rb, 0, none⟩)] := ((At.made _ _ _).laid _).laid _
  have hwb : At (((w1.alloc (.cells #[.pointer (some ⟨rb, 0, none⟩)] 49)).alloc (.cells #[.int .i64 room, .bool quiet, .bool true, .slice none 0 0, .slice none 0 0] 57)).alloc (.cells #[.pointer (some ⟨w1.heap.size + 1, 0, none⟩)] 55)) (w1.heap.size + 1) 57 #[.int .i64 room, .bool quiet, .bool true, .slice none 0 0, .slice none 0 0] := (At.made' (by simp) _ _).laid _
  have hwx : At (((w1.alloc (.cells #[.pointer (some ⟨rb, 0, none⟩)] 49)).alloc (.cells #[.int .i64 room, .bool quiet, .bool true, .slice none 0 0, .slice none 0 0] 57)).alloc (.cells #[.pointer (some ⟨w1.heap.size + 1, 0, none⟩)] 55)) (w1.heap.size + 1 + 1) 55 #[.pointer (some ⟨w1.heap.size + 1, 0, none⟩)] := At.made' (by simp) _ _
  generalize ((w1.alloc (.cells #[.pointer (some ⟨rb, 0, none⟩)] 49)).alloc (.cells #[.int .i64 room, .bool quiet, .bool true, .slice none 0 0, .slice none 0 0] 57)).alloc (.cells #[.pointer (some ⟨w1.heap.size + 1, 0, none⟩)] 55) = w2 at *
  have hw1s := HN.out.size
  generalize hrxe : w1.heap.size = rx at *
  generalize hwbe : rx + 1 = wb at *
  generalize hwxe : wb + 1 = wx at *
  have HN2 := hide (new_trans HN.out hN2)
  generalize hobe : w.heap.size + 1 + 1 = ob at *
  have HOB : Hid (w.heap.size ≤ ob) := by show w.heap.size ≤ ob; omega
  have hwbb : w.heap.size ≤ wb := by omega
  have HRD : Hid (Ready w.heap.size w2 rb wb ob rx wx s dv pv room quiet true #[.int .i64 0, .int .i64 0, .slice none 0 0, .slice none 0 0, .slice none 0 0, .slice none 0 0, .int .i64 0, .bool false]) :=
    ⟨HR0.out.new hN2, ⟨hwb, World.ownsRow_nil _ _ _ _, World.ownsRow_nil _ _ _ _, hwbb⟩, HOU.out.new hN2, hrx, hwx⟩
  have k2' := (HSK.out.new hN2).get 2
  have wx0 := hwx.get 0
  have hlo2 := HRD.out.out.size_lt
  have o3 := HRD.out.out.get 3
  have p3 := HRD.out.out.soft 3
  clear k0 k1 k2 u3 y3 hls hlo HR0 HN HSK HOU hrx hwb hwx hN2 hrxe hwbe hwxe hw1s hwbb
  have HRD4 := HRD
  have HT4 : Hid (Turns (fun k => w.heap.size ≤ k) w w2) := Turns.of_new HN2.out (fun k => w.heap.size ≤ k)
  go_wp2_with fail
  clear wx0 o3 p3 k2' hlo2 HRD
  have HCB : Hid (Calls Tryd.prog 22 #[.iface 61 (.agg #[.pointer (some ⟨wb, 0, none⟩), .pointer (some ⟨ob, 6, none⟩)]), handOn s.direct rb (.pointer (some ⟨ob, 6, none⟩)), .slice none 0 0] w2
      (CBPost w.heap.size rb wb ob #[.int .i64 0, .int .i64 0, .slice none 0 0, .slice none 0 0, .slice none 0 0, .slice none 0 0, .int .i64 0, .bool false] s dv pv room quiet true size (roadOf s.direct true) E w2)) :=
    cb_nil HSZ HRD4.out.rd HRD4.out.wr (HE.out.turns HT4.out (fun _ h => h)) HRD4.out.out rfl HOB.out hr1 hr2 (by omega) (by omega)
  refine HCB.out.mono ?_
  rintro e w5 ⟨av, gv, wv, at5, pc5, asked, writes, rfl, hR5, hW5, hTold, hO5, hE5, hT5, hkeep, hbuf5⟩
  have ho5 : At w5 ob 25 #[.int .i64 0, .int .i64 0, .slice none 0 0, .slice none 0 0, .slice none 0 0, .slice none 0 0, .int .i64 (roadOf s.direct true : Nat), .bool false] := hO5
  have hrx5 : At w5 rx 49 #[.pointer (some ⟨rb, 0, none⟩)] := hkeep _ _ _ (by decide) (by decide) (by decide) (by decide) (HRD4.out.rx.apart HRD4.out.out (by decide)) HRD4.out.rx
  have hwx5 : At w5 wx 55 #[.pointer (some ⟨wb, 0, none⟩)] := hkeep _ _ _ (by decide) (by decide) (by decide) (by decide) (HRD4.out.wx.apart HRD4.out.out (by decide)) HRD4.out.wx
  obtain ⟨AA, ac, rfl, -, -⟩ := Sl.of_own hR5.notes
  obtain ⟨GA, gc, rfl, -, -⟩ := Sl.of_own hW5.got
  obtain ⟨VA, vc, rfl, -, -⟩ := Sl.of_own hW5.notes
  have q0 := ho5.get 0
  have q1 := ho5.get 1
  have z0 := ho5.soft 0
  have z1 := ho5.soft 1
  have hA6 := ((Sole.start ho5).put 0 (.int .i64 (s.most room : Nat)))
  have HE6 := hide (hE5.turns hA6.turns (fun k e => by rw [e]; exact HOB.out))
  have hA7 := hA6.put 1 (.int .i64 (s.copyCode room quiet : Nat))
  have HR5 := hide hR5; have HW5 := hide hW5; have HTOLD := hide hTold; have HO5 := hide ho5; have HT5 := hide hT5; have HRX5 := hide hrx5; have HWX5 := hide hwx5; have HA7 := hide hA7
  clear hR5 hW5 hTold hO5 ho5 hE5 hT5 hkeep hbuf5 hrx5 hwx5 HCB hA6 hA7
  have hcl := copyCode_le s room quiet
  have HNUM : Hid (∀ W : World, Env w.heap.size E W → Calls Tryd.prog 23 #[errVal E (s.copyCode room quiet)] W fun e w' => e = .returned (.int .i64 (s.copyCode room quiet : Nat)) ∧ W = w') := by
    intro W hW
    have k4 := nErrs_ge
    have := number hW (s.copyCode room quiet) (by omega)
    have e5 : Nat.min (s.copyCode room quiet) 5 = s.copyCode room quiet := Nat.min_eq_left (by omega)
    rwa [e5] at this
  generalize hcc : s.copyCode room quiet = code at *
  have HCODE := hide hcc
  generalize hmm : s.most room = mst at *
  have HMM := hide hmm
  clear hmm hcl hcc
  go_wp2_with fail
  refine (HNUM.out _ HE6.out).mono ?_
  rintro e w6 ⟨rfl, rfl⟩
  go_upto_region 12 with (fail)
  generalize (w5.setCell ⟨ob, 0, none⟩ (.int .i64 (mst : Nat))).setCell ⟨ob, 1, none⟩ (.int .i64 (code : Nat)) = w7 at *
  have hat7 : At w7 ob 25 #[.int .i64 (mst : Nat), .int .i64 (code : Nat), .slice none 0 0, .slice none 0 0, .slice none 0 0, .slice none 0 0, .int .i64 (roadOf s.direct true : Nat), .bool false] := HA7.out.at_
  have HAT7 := hide hat7
  have v0 := hat7.get 0
  have v1 := hat7.get 1
  have v2 := hat7.get 2
  have v3 := hat7.get 3
  have v4 := hat7.get 4
  have v5 := hat7.get 5
  have v6 := hat7.get 6
  have v7 := hat7.get 7
  have f0 := hat7.soft 0
  have f1 := hat7.soft 1
  have f2 := hat7.soft 2
  have f3 := hat7.soft 3
  have f4 := hat7.soft 4
  have f5 := hat7.soft 5
  have f6 := hat7.soft 6
  have f7 := hat7.soft 7
  clear hat7 q0 q1 z0 z1
  go_wp2
  have hA8 := ((((((((Sole.start HAT7.out).keep 0 (.int .i64 (mst : Nat)) rfl).keep 1 (.int .i64 (code : Nat)) rfl).keep 2 (.slice none 0 0) rfl).keep 3 (.slice none 0 0) rfl).keep 4 (.slice none 0 0) rfl).keep 5 (.slice none 0 0) rfl).keep 6 (.int .i64 (roadOf s.direct true : Nat)) rfl).keep 7 (.bool false) rfl
  generalize (((((((w7.setCell ⟨ob, 0, none⟩ (.int .i64 (mst : Nat))).setCell ⟨ob, 1, none⟩ (.int .i64 (code : Nat))).setCell ⟨ob, 2, none⟩ (.slice none 0 0)).setCell ⟨ob, 3, none⟩ (.slice none 0 0)).setCell ⟨ob, 4, none⟩ (.slice none 0 0)).setCell ⟨ob, 5, none⟩ (.slice none 0 0)).setCell ⟨ob, 6, none⟩ (.int .i64 (roadOf s.direct true : Nat))).setCell ⟨ob, 7, none⟩ (.bool false) = w8 at *
  have hat8 : At w8 ob 25 #[.int .i64 (mst : Nat), .int .i64 (code : Nat), .slice none 0 0, .slice none 0 0, .slice none 0 0, .slice none 0 0, .int .i64 (roadOf s.direct true : Nat), .bool false] := hA8.at_
  have hT8 : Turns (· = ob) w5 w8 := HA7.out.turns.trans hA8.turns (fun _ _ h => h)
  have hrb8 := HR5.out.blk.turns hT8 (HR5.out.blk.apart HO5.out (by decide))
  have hwb8 := HW5.out.blk.turns hT8 (HW5.out.blk.apart HO5.out (by decide))
  have HCL := hide (closure_idle hat8 (HRX5.out.turns hT8 (HRX5.out.apart HO5.out (by decide))) (HWX5.out.turns hT8 (HWX5.out.apart HO5.out (by decide))) hrb8 hwb8 ⟨_, _, _, rfl⟩ ⟨_, _, _, rfl⟩ ⟨_, _, _, rfl⟩ ⟨_, _, _, rfl⟩ ⟨_, _, _, rfl⟩ ⟨_, _, _, rfl⟩ ⟨_, rfl⟩)
  refine bodyPostD_ret ?_
  refine leaves_cons (f := 21) (args := #[.pointer (some ⟨ob, 0, none⟩), .pointer (some ⟨wx, 0, none⟩), .pointer (some ⟨rx, 0, none⟩)]) (fun h => by cases h) (inv21 _ _ _ _) ?_
  refine HCL.out.mono ?_
  rintro e u' w9 ⟨rfl, rfl, hat9, hT9⟩
  have hT59 : Turns (· = ob) w5 w9 := hT8.trans hT9 (fun _ _ h => h)
  have r0 := hat9.get 0
  have r1 := hat9.get 1
  have r2 := hat9.get 2
  have r3 := hat9.get 3
  have r4 := hat9.get 4
  have r5 := hat9.get 5
  have r6 := hat9.get 6
  have r7 := hat9.get 7
  refine ⟨.agg #[.int .i64 (mst : Nat), .int .i64 (code : Nat), .slice GA (s.data.take mst).length gc, .slice none 0 0, .slice AA asked.length ac, .slice VA writes.length vc, .int .i64 (roadOf s.direct true : Nat), .bool false], by simp [results, Tryd.results14, go_sem, r0, r1, r2, r3, r4, r5, r6, r7], ?_⟩
  have hlen : (s.data.take mst).length = mst := by rw [List.length_take]; exact Nat.min_eq_left (by rw [← HMM.out]; exact Nat.min_le_right _ _)
  have hgot := own_turns HW5.out.got hT59 (fun g hg e => own_ne HW5.out.got HO5.out (by decide) (e ▸ hg))
  rw [hlen] at hgot
  refine ⟨.slice GA mst gc, .slice none 0 0, .slice AA asked.length ac, .slice VA writes.length vc, asked, writes, by rw [HMM.out, HCODE.out, hlen], by rw [HMM.out]; exact hgot, own_turns HR5.out.notes hT59 (fun g hg e => own_ne HR5.out.notes HO5.out (by decide) (e ▸ hg)), own_turns HW5.out.notes hT59 (fun g hg e => own_ne HW5.out.notes HO5.out (by decide) (e ▸ hg)), HTOLD.out, ⟨none, 0, rfl, fun h => by cases h⟩, ?_⟩
  exact (Turns.trans (Turns.trans HT4.out HT5.out (fun _ _ h => h)) hT59 (fun i _ e => by rw [e]; exact HOB.out)).below (Nat.le_refl _) (fun i hi h => by omega)


/-- impl.CopyBuffer with a buffer of at least one byte. -/
theorem impl_any {w : World} {s : Src} {DA PA BA : Option Addr} {dc pc bc : Nat} {room : Int} {quiet taking : Bool} {buf : List Int} {E : Nat → Addr} (hd : Sl w 1 DA s.data.length (s.data.map (Value.int .u8))) (hDn : DA = none → dc = 0)
    (hp : Sl w 1 PA s.pieces.length (s.pieces.map (Value.int .i64))) (hPn : PA = none → pc = 0) (hb : Sl w 1 BA buf.length (buf.map (Value.int .u8))) (hBn : BA = none → bc = 0) (hE : Env w.heap.size E w)
    (h0 : 0 < buf.length) (hs9 : buf.length ≤ 1000000) (hr1 : -9223372036854775808 ≤ room) (hr2 : room ≤ 9223372036854775807) (hdl : s.data.length ≤ 1000000) (hpl : s.pieces.length ≤ 1000000) :
    Calls Tryd.prog 14 #[.agg #[.slice DA s.data.length dc, .slice PA s.pieces.length pc, .bool s.together, .bool s.broken, .bool s.direct], .agg #[.int .i64 room, .bool quiet, .bool taking], .slice BA buf.length bc, .bool false] w (ImplPost s room quiet taking buf false buf.length w) := by
  cases taking with
  | false => exact impl_some_false hd hDn hp hPn hb hBn hE h0 hs9 hr1 hr2 hdl hpl
  | true => exact impl_some_true hd hDn hp hPn hb hBn hE h0 hs9 hr1 hr2 hdl hpl

/-- impl.CopyBuffer without a buffer. -/
theorem impl_none {w : World} {s : Src} {DA PA : Option Addr} {dc pc size : Nat} {room : Int} {quiet taking : Bool} {E : Nat → Addr} (hd : Sl w 1 DA s.data.length (s.data.map (Value.int .u8))) (hDn : DA = none → dc = 0)
    (hp : Sl w 1 PA s.pieces.length (s.pieces.map (Value.int .i64))) (hPn : PA = none → pc = 0) (hE : Env w.heap.size E w)
    (HSZ : Hid (size = 32768)) (hr1 : -9223372036854775808 ≤ room) (hr2 : room ≤ 9223372036854775807) (hdl : s.data.length ≤ 1000000) (hpl : s.pieces.length ≤ 1000000) :
    Calls Tryd.prog 14 #[.agg #[.slice DA s.data.length dc, .slice PA s.pieces.length pc, .bool s.together, .bool s.broken, .bool s.direct], .agg #[.int .i64 room, .bool quiet, .bool taking], .slice none 0 0, .bool true] w (ImplPost s room quiet taking [] true size w) := by
  cases taking with
  | false => exact impl_nil_false (buf := []) hd hDn hp hPn (Sl.none_ _ _ _) (fun _ => rfl) hE HSZ hr1 hr2 hdl hpl
  | true => exact impl_nil_true (buf := []) hd hDn hp hPn (Sl.none_ _ _ _) (fun _ => rfl) hE HSZ hr1 hr2 hdl hpl

end Go.Proofs.YtnbhhckempbimaaDoor
