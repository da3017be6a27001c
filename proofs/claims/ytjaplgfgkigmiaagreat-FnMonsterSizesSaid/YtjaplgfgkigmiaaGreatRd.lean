/-
  Reading: a monster that reads as data lies so.
-/
import Derived.Test.YtjaplgfgkigmiaaGreatCl
import Derived.Deep.Slices
namespace Go.Proofs.YtjaplgfgkigmiaaGreat
open Go Go.Proofs Go.Deep

section
variable {H : Type} {enc : TypeId × Value → H} {w : World} {base : Nat} {spare : Nat → Bool} {held : Bool}

theorem list_choose {α : Type} {Q : Nat → α → Prop} : ∀ n, (∀ i, i < n → ∃ s, Q i s) → ∃ l : List α, l.length = n ∧ ∀ i (h : i < l.length), Q i l[i]
  | 0, _ => ⟨[], rfl, fun i h => absurd h (by simp)⟩
  | n + 1, h => by
    obtain ⟨l, hl, hq⟩ := list_choose n fun i hi => h i (by omega)
    obtain ⟨s, hs⟩ := h n (by omega)
    refine ⟨l ++ [s], by simp [hl], fun i hi => ?_⟩
    by_cases e : i = n
    · subst e; simp [← hl]; rw [hl]; exact hs
    · have hi' : i < l.length := by simp at hi; omega
      rw [List.getElem_append_left hi']; exact hq i hi'
theorem cell_block {a : Addr} {v : Value} (h : w.cell? a = some v) : a.spot = none ∧ ∃ (cs : Array Value) (e : TypeId) (fz : Nat × Nat), w.heap[a.block]? = some (.cells cs e fz) ∧ cs[a.off]? = some v := by
  unfold World.cell? at h
  split at h
  · rename_i c t f hb
    split at h
    · cases h
    · rename_i hs
      exact ⟨by simpa using hs, c, _, _, hb, h⟩
  · cases h
theorem add_spot {a : Addr} (h : a.spot = none) (k : Nat) : a.add k = ⟨a.block, a.off + k, none⟩ := by
  obtain ⟨b, o, s⟩ := a
  simp only at h
  subst h
  exact ok_shift
/-- A slice of one-cell elements that reads. -/
theorem rowS_of {α : Type} {t e : TypeId} {R : Value → α → Prop} (ht : Tryz.prog.underlying t = some (.slice e)) (hc : Tryz.prog.cellsOf e = 1) (hR : ∀ n c y, DataW.trod enc Tryz.prog w base spare held n e [c] = some y → ∃ s, R c s)
    {fuel : Nat} {c : Value} {x : DataW H × List MemPlace} (h : DataW.trod enc Tryz.prog w base spare held fuel t [c] = some x) : ∃ l : List α, rowS (fun b => w.heap[b]?) c l R ∧ l.length ≤ 9223372036854775807 := by
  rcases open_slice1 ht hc h with ⟨h0, _⟩ | ⟨a, len, cap, m, n, V, D, Pl, h0, hb, hl, hm, hmm, _, hx⟩
  · have : c = .slice none 0 0 := by simpa using h0
    exact ⟨[], .inl ⟨rfl, none, 0, this⟩, by simp⟩
  · have e0 : c = .slice (some a) len cap := by simpa using h0
    have hlm : len ≤ m := by rw [hmm]; split <;> omega
    have hmx : len ≤ 9223372036854775807 := by unfold maxLen at hm; omega
    rcases Nat.eq_zero_or_pos len with z | hp
    · exact ⟨[], .inl ⟨rfl, some a, cap, by rw [e0, z]⟩, by simp⟩
    · obtain ⟨l, hll, hq⟩ := list_choose (Q := fun i s => R (V i) s) len fun i hi => hR n (V i) _ (hx i (by omega)).2
      have hz := (hx 0 (by omega)).1
      have hsp : a.spot = none := by
        have := (cell_block hz).1
        simpa [Addr.add] using this
      obtain ⟨_, cs, e1, fz, hb1, _⟩ := cell_block hz
      have hb2 : w.heap[a.block]? = some (.cells cs e1 fz) := by simpa [Addr.add] using hb1
      have hget : ∀ i, i < len → cs[a.off + i]? = some (V i) := fun i hi => by
        have h1 := (hx i (by omega)).1
        rw [add_spot hsp] at h1
        obtain ⟨_, cs', e2, fz2, h2, h3⟩ := cell_block h1
        rw [hb2] at h2
        cases h2
        exact h3
      refine ⟨l, .inr ⟨fun e => by rw [e] at hll; simp at hll; omega, a.block, a.off, cap, cs, e1, fz, ?_, by rw [hll]; exact hl, hb2, ?_, fun i hi => ⟨V i, hget i (by omega), hq i hi⟩⟩, by omega⟩
      · rw [e0, hll]
        obtain ⟨b, o, s⟩ := a
        simp only at hsp
        subst hsp; rfl
      · have h1 := hget (len - 1) (by omega)
        have : a.off + (len - 1) < cs.size := by
          rcases Nat.lt_or_ge (a.off + (len - 1)) cs.size with h | h
          · exact h
          · rw [Array.getElem?_eq_none h] at h1; cases h1
        omega
/-- A slice of elements of several cells. -/
theorem rowM_of {α : Type} {t e : TypeId} {sz : Nat} {R : Array Value → α → Prop} (ht : Tryz.prog.underlying t = some (.slice e)) (hc : Tryz.prog.cellsOf e = sz) (hz : 0 < sz) (hR : ∀ n cs y, cs.length = sz → DataW.trod enc Tryz.prog w base spare held n e cs = some y → ∃ s, R cs.toArray s)
    {fuel : Nat} {c : Value} {x : DataW H × List MemPlace} (h : DataW.trod enc Tryz.prog w base spare held fuel t [c] = some x) : ∃ l : List α, rowM sz (fun b => w.heap[b]?) c l R ∧ l.length ≤ 9223372036854775807 := by
  rcases open_slice ht h with ⟨h0, _⟩ | ⟨a, len, cap, m, n, D, Pl, h0, hb, hl, hm, hmm, _, hx⟩
  · have : c = .slice none 0 0 := by simpa using h0
    exact ⟨[], .inl ⟨rfl, none, 0, this⟩, by simp⟩
  · have e0 : c = .slice (some a) len cap := by simpa using h0
    have hlm : len ≤ m := by rw [hmm]; split <;> omega
    have hmx : len ≤ 9223372036854775807 := by unfold maxLen at hm; omega
    rcases Nat.eq_zero_or_pos len with z | hp
    · exact ⟨[], .inl ⟨rfl, some a, cap, by rw [e0, z]⟩, by simp⟩
    · rw [hc] at hx
      have hz0 : ∃ v, w.cell? a = some v := by
        obtain ⟨cs', h1, _⟩ := hx 0 (by omega)
        obtain ⟨_, hlen, hcell⟩ := World.cells?_some h1
        have := hcell 0 hz
        rw [List.getElem?_eq_getElem (by omega)] at this
        exact ⟨_, by simpa [Addr.add] using this⟩
      obtain ⟨v0, hv0⟩ := hz0
      obtain ⟨hsp, cs, e1, fz, hb2, _⟩ := cell_block hv0
      have hget : ∀ i, i < len → ∃ cs' : List Value, cs'.length = sz ∧ (∀ j, j < sz → cs[a.off + i * sz + j]? = cs'[j]?) ∧ ∃ s, R cs'.toArray s := fun i hi => by
        obtain ⟨cs', h1, h2⟩ := hx i (by omega)
        obtain ⟨_, hlen, hcell⟩ := World.cells?_some h1
        refine ⟨cs', hlen, fun j hj => ?_, hR n cs' _ hlen h2⟩
        have h3 := hcell j hj
        rw [add_spot hsp, add_spot rfl] at h3
        simp only at h3
        rw [← h3]
        have h4 : w.cell? ⟨a.block, a.off + i * sz + j, none⟩ = cs'[j]? := h3
        rw [List.getElem?_eq_getElem (by omega)] at h4
        obtain ⟨_, cs2, e2, fz2, h5, h6⟩ := cell_block h4
        simp only at h5
        rw [hb2] at h5
        cases h5
        rw [h6, h3, List.getElem?_eq_getElem (by omega)]
      have hsize : a.off + len * sz ≤ cs.size := by
        obtain ⟨cs', hl', h1, _⟩ := hget (len - 1) (by omega)
        have h2 := h1 (sz - 1) (by omega)
        rw [List.getElem?_eq_getElem (by omega)] at h2
        have h3 : a.off + (len - 1) * sz + (sz - 1) < cs.size := by
          rcases Nat.lt_or_ge (a.off + (len - 1) * sz + (sz - 1)) cs.size with h | h
          · exact h
          · rw [Array.getElem?_eq_none h] at h2; cases h2
        have h4 : len * sz = (len - 1) * sz + sz := by
          have : len = (len - 1) + 1 := by omega
          rw [this, Nat.add_mul, Nat.one_mul]; simp
        omega
      obtain ⟨l, hll, hq⟩ := list_choose (Q := fun i s => R (cs.extract (a.off + i * sz) (a.off + i * sz + sz)) s) len fun i hi => by
        obtain ⟨cs', hl', h1, s, hs⟩ := hget i hi
        have hle := mul_lt_ext hi hsize
        have e2 : cs.extract (a.off + i * sz) (a.off + i * sz + sz) = cs'.toArray := by
          apply Array.ext
          · simp; omega
          · intro j hj1 hj2
            have hj : j < sz := by simp at hj2; omega
            have h2 := h1 j hj
            rw [Array.getElem?_eq_getElem (by omega), List.getElem?_eq_getElem (by omega)] at h2
            simp only [Array.getElem_extract, List.getElem_toArray]
            exact Option.some.inj h2
        exact ⟨s, by rw [e2]; exact hs⟩
      refine ⟨l, .inr ⟨fun e => by rw [e] at hll; simp at hll; omega, a.block, a.off, cap, cs, e1, fz, ?_, by rw [hll]; exact hl, hb2, by rw [hll]; exact hsize, hq⟩, by omega⟩
      rw [e0, hll]
      obtain ⟨b, o, s⟩ := a
      simp only at hsp
      subst hsp; rfl
end
end Go.Proofs.YtjaplgfgkigmiaaGreat
