/-
  Plain Lean, no program in sight: where the calls of the underlying writer go; the script's places.
-/
import Derived.Test.YtnmdjhkeekhfbaaDoorAtG
namespace Go.Proofs.YtnmdjhkeekhfbaaDoor
set_option linter.unusedVariables false

theorem moveG_calls (base limit cur : Int) (p : PlaceG) (hf : Fits p) : ∀ c ∈ (moveG base limit cur p).2.2, (c.off = cur ∨ (c.off = p.off + base ∧ 0 ≤ p.off ∧ p.off ≤ 2199023255552)) ∧ c.data = p.data := by
  intro c hc
  obtain ⟨hf1, hf2⟩ := hf
  unfold moveG at hc
  split at hc
  · simp at hc; subst hc; exact ⟨.inl rfl, rfl⟩
  · split at hc
    · split at hc
      · simp at hc
      · simp at hc; subst hc; exact ⟨.inr ⟨rfl, by omega, by omega⟩, rfl⟩
    · split at hc
      · unfold seekG at hc; split at hc <;> simp at hc
      · split at hc
        · unfold seekG at hc; split at hc <;> simp at hc
        · simp at hc

theorem runG_calls (base limit : Int) (l : List PlaceG) (hb : 0 ≤ base ∧ base ≤ 2199023255552) (hf : ∀ p ∈ l, Fits p) : ∀ c ∈ (runG base limit l).2.2, 0 ≤ c.off ∧ c.off ≤ base + l.length * 2199023255552 + 2199023255552 ∧ c.data.length ≤ 65536 := by
  suffices H : ∀ n, n ≤ l.length → ∀ c ∈ (runG base limit (l.take n)).2.2, 0 ≤ c.off ∧ c.off ≤ base + l.length * 2199023255552 + 2199023255552 ∧ c.data.length ≤ 65536 by
    have := H l.length (Nat.le_refl _)
    rwa [List.take_length] at this
  intro n hn
  induction n with
  | zero => intro c hc; simp [runG] at hc
  | succ n ih =>
    intro c hc
    rw [List.take_succ_eq_append_getElem hn, runG_snoc] at hc
    rcases List.mem_append.1 hc with hc | hc
    · exact ih (by omega) c hc
    · have hst := runG_stays base limit l hb hf n (by omega)
      have hfn := hf l[n] (List.getElem_mem hn)
      obtain ⟨h1, h2⟩ := moveG_calls base limit _ l[n] hfn c hc
      have hd := hfn.1
      rw [h2]
      have hnl : (n : Int) ≤ (l.length : Int) := by omega
      refine ⟨?_, ?_, hd⟩
      · rcases h1 with h1 | ⟨h1, h3, h4⟩ <;> omega
      · rcases h1 with h1 | ⟨h1, h3, h4⟩ <;> omega

theorem scriptP_fits (x : Int × List Int × Int) (h1 : x.2.1.length ≤ 65536) (h2 : -1099511627776 ≤ x.2.2) (h3 : x.2.2 ≤ 1099511627776) : Fits (scriptP x) := by
  unfold scriptP
  split
  · exact ⟨h1, .inr (.inr (by simp only; omega))⟩
  · exact ⟨h1, .inr (.inr (by simp only; omega))⟩

theorem zip_mem {ks : List Int} {ts : List (List Int)} {os : List Int} (h1 : ∀ t ∈ ts, t.length ≤ 65536) (h2 : ∀ o ∈ os, -1099511627776 ≤ o ∧ o ≤ 1099511627776) : ∀ x ∈ ks.zip (ts.zip os), x.2.1.length ≤ 65536 ∧ -1099511627776 ≤ x.2.2 ∧ x.2.2 ≤ 1099511627776 := by
  rintro ⟨k, t, o⟩ hx
  have h := (List.of_mem_zip (List.of_mem_zip hx).2)
  exact ⟨h1 t h.1, h2 o h.2⟩

end Go.Proofs.YtnmdjhkeekhfbaaDoor
