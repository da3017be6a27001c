/-
  Quiet operations taken first, checked at less cost: over a summary of the region.
-/
import Derived.Test.YtjaplgfgkigmiaaGreatDrawq
namespace Go.Proofs.YtjaplgfgkigmiaaGreat
open Go Go.Proofs

/-- Which have been taken, as the bits of a number. -/
def bl (n m : Nat) : Array Bool := ((List.range n).map fun i => m.testBit i).toArray
/-- Of each operation: what it names, what it looks at, what it waits for. -/
abbrev Summ := List (Option Nat × List Nat × List Nat)
def summ (ops : Array Oper) : Summ := ops.toList.map fun o => (o.dst, o.looksAt ops, (o.after.toList.filter fun e => Region.binds .any e).map (·.on))
def hasN : List Nat → Nat → Bool
  | [], _ => false
  | x :: l, i => Nat.beq x i || hasN l i
def apartS (d : Option Nat) (la : List Nat) (d' : Option Nat) (la' : List Nat) : Bool :=
  (match d with
   | some d => !hasN la' d && (match d' with | some e => !Nat.beq e d | none => true)
   | none => true) &&
  (match d' with
   | some e => !hasN la e
   | none => true)
def freeGo (d : Option Nat) (la : List Nat) (i : Nat) : Summ → List Bool → Nat → Bool
  | [], _, _ => true
  | (d', la', af) :: s, ls, j => (Nat.beq j i || (ls.headD true) || hasN af i || apartS d la d' la') && freeGo d la i s ls.tail (j + 1)
def freeS (s : Summ) (listed : Array Bool) (i : Nat) : Bool :=
  match s[i]? with
  | none => false
  | some (d, la, _) => freeGo d la i s listed.toList 0
def rdyS (s : Summ) (listed : Array Bool) (i : Nat) : Bool :=
  !listed.getD i true && (match s[i]? with | some (_, _, af) => af.all fun j => listed.getD j false | none => false)

theorem hasN_iff : ∀ {l : List Nat} {i : Nat}, hasN l i = true ↔ i ∈ l
  | [], i => by simp [hasN]
  | x :: l, i => by
    simp only [hasN, Bool.or_eq_true, List.mem_cons, hasN_iff]
    constructor
    · rintro (h | h)
      · exact .inl (Nat.eq_of_beq_eq_true h).symm
      · exact .inr h
    · rintro (h | h)
      · subst h; exact .inl (Nat.beq_refl _)
      · exact .inr h
theorem apartS_sound {ops : Array Oper} {x y : Oper} (h : apartS x.dst (x.looksAt ops) y.dst (y.looksAt ops) = true) : x.apart ops y = true := by
  unfold apartS at h
  unfold Oper.apart
  simp only [Bool.and_eq_true] at h ⊢
  obtain ⟨h1, h2⟩ := h
  constructor
  · cases hx : x.dst with
    | none => rfl
    | some d =>
      rw [hx] at h1
      simp only [Bool.and_eq_true] at h1 ⊢
      constructor
      · have : d ∉ y.looksAt ops := fun hm => by have := hasN_iff.2 hm; rw [this] at h1; simp at h1
        simpa using this
      · cases hy : y.dst with
        | none => simp
        | some e =>
          rw [hy] at h1
          have := h1.2
          simp only [Bool.not_eq_true'] at this
          have hne : e ≠ d := fun e' => by subst e'; simp at this
          simpa using hne
  · cases hy : y.dst with
    | none => rfl
    | some e =>
      rw [hy] at h2
      simp only at h2
      have : e ∉ x.looksAt ops := fun hm => by have := hasN_iff.2 hm; rw [this] at h2; simp at h2
      simpa using this
theorem freeGo_spec {d : Option Nat} {la : List Nat} {i : Nat} : ∀ (s : Summ) (ls : List Bool) (j0 : Nat), freeGo d la i s ls j0 = true → ∀ k x, s[k]? = some x → j0 + k ≠ i → ls[k]?.getD true = false → hasN x.2.2 i = false → apartS d la x.1 x.2.1 = true
  | [], _, _, _, k, x, hx, _, _, _ => by simp at hx
  | (d', la', af) :: s, ls, j0, h, k, x, hx, hk, hl, hw => by
    simp only [freeGo, Bool.and_eq_true] at h
    cases k with
    | zero =>
      simp only [List.getElem?_cons_zero, Option.some.injEq] at hx
      subst hx
      have h1 := h.1
      have e1 : Nat.beq j0 i = false := by
        cases hb : Nat.beq j0 i
        · rfl
        · exact absurd (Nat.eq_of_beq_eq_true hb) (by simpa using hk)
      have e2 : ls.headD true = false := by
        cases ls with
        | nil => simp at hl
        | cons b s' => simpa using hl
      have e3 : hasN af i = false := hw
      rw [e1, e2, e3] at h1
      simpa using h1
    | succ k =>
      have := freeGo_spec s ls.tail (j0 + 1) h.2 k x (by simpa using hx) (by omega) (by cases ls <;> simp at hl ⊢; exact hl) hw
      exact this
theorem freeS_sound {ops : Array Oper} {listed : Array Bool} {i : Nat} (h : freeS (summ ops) listed i = true) : Region.free .any ops listed i = true := by
  unfold freeS at h
  have hg : ∀ k, (summ ops)[k]? = (ops[k]?).map fun (o : Oper) => (o.dst, o.looksAt ops, (o.after.toList.filter fun e => Region.binds .any e).map (·.on)) := fun k => by
    unfold summ; rw [List.getElem?_map, Array.getElem?_toList]
  rw [hg] at h
  unfold Region.free
  cases ho : ops[i]? with
  | none => rw [ho] at h; simp at h
  | some oi =>
    rw [ho] at h
    simp only [Option.map_some] at h
    simp only [List.all_eq_true]
    intro j hj
    by_cases hji : j = i
    · subst hji; simp
    · by_cases hl : listed.getD j true = true
      · simp [hl]
      · have hl' : listed.getD j true = false := by simpa using hl
        cases hoj : ops[j]? with
        | none => simp
        | some oj =>
          by_cases hw : (oj.after.any fun e => Region.binds .any e && e.on == i) = true
          · simp [hw]
          · have h3 := freeGo_spec (summ ops) listed.toList 0 h j (oj.dst, oj.looksAt ops, (oj.after.toList.filter fun e => Region.binds .any e).map (·.on)) (by rw [hg, hoj]; rfl) (by omega) (by rw [← hl']; simp [Array.getD_eq_getD_getElem?]) (by
              cases hh : hasN ((oj.after.toList.filter fun e => Region.binds .any e).map (·.on)) i
              · rfl
              · exfalso
                have := hasN_iff.1 hh
                simp only [List.mem_map, List.mem_filter] at this
                obtain ⟨e, ⟨he, hb⟩, hon⟩ := this
                refine hw (Array.any_eq_true'.2 ⟨e, by simpa using he, ?_⟩)
                simp [hb, hon])
            simp [apartS_sound h3]
theorem rdyS_mem {ops : Array Oper} {listed : Array Bool} {i : Nat} (h : rdyS (summ ops) listed i = true) : i ∈ Region.ready .any ops listed := by
  unfold rdyS at h
  have hg : (summ ops)[i]? = (ops[i]?).map fun (o : Oper) => (o.dst, o.looksAt ops, (o.after.toList.filter fun e => Region.binds .any e).map (·.on)) := by unfold summ; rw [List.getElem?_map, Array.getElem?_toList]
  rw [hg] at h
  cases ho : ops[i]? with
  | none => rw [ho] at h; simp at h
  | some o =>
    rw [ho] at h
    simp only [Option.map_some, Bool.and_eq_true, List.all_eq_true] at h
    refine mem_ready.2 ⟨by simpa using h.1, o, ho, fun e he hb => ?_⟩
    exact h.2 e.on (List.mem_map.2 ⟨e, List.mem_filter.2 ⟨by simpa using he, hb⟩, rfl⟩)
section
variable {n : Nat} {P : Program} {Q : Exit → Act → World → Prop} {k : List KItem} {l : Slots} {w : World} {ops : Array Oper} {S : World → Prop} {fuel : Nat} {listed : Array Bool}
variable {d : Nat} {op : Op} {T : TypeId} {pos : String} {aft : Array Edge} {v : Value}
theorem ga_norm {listed' : Array Bool} (hl : listed = listed') (h : GA n P ops Q k S fuel listed' l w) : GA n P ops Q k S fuel listed l w := hl ▸ h
theorem ga_norm2 {listed' : Array Bool} {fuel' : Nat} (hl : listed = listed') (hf : fuel = fuel') (h : GA n P ops Q k S fuel' listed' l w) : GA n P ops Q k S fuel listed l w := by
  subst hl hf; exact h
theorem ga_ns (s : Summ) (h1 : Region.noSelect ops = true) (hs : summ ops = s) (h2 : Region.noSelect ops = true → summ ops = s → GA n P ops Q k S fuel listed l w) : GA n P ops Q k S fuel listed l w := h2 h1 hs
theorem ga_takef (i : Nat) (listed' : Array Bool) {s : Summ} (hns : Region.noSelect ops = true) (hsm : summ ops = s) (ho : ops[i]? = some ⟨some d, op, T, pos, aft, none⟩) (hf : (freeS s listed i && rdyS s listed i) = true) (hl : listed.setIfInBounds i true = listed') (he : ∀ w, S w → EV P l op T w v w) (hS : S w)
    (h : GA n P ops Q k S fuel listed' ((d, v) :: l) w) (hd : d < n := by decide) : GA n P ops Q k S (fuel + 1) listed l w := fun β hβ a ha => by
  subst hl hsm
  rw [Bool.and_eq_true] at hf
  refine wpAnyH_take ho hns (freeS_sound hf.1) (by simpa using rdyS_mem hf.2) (fun c a w hq => hq) ?_ ⟨hS, hβ⟩ (h β hβ _ (ha.put hd v))
  exact .inl ⟨rfl, fun w' hS' => (he w' hS'.1).1 a.eval _ rfl rfl (fun x v hx => ha.eval hx)⟩
end
end Go.Proofs.YtjaplgfgkigmiaaGreat
