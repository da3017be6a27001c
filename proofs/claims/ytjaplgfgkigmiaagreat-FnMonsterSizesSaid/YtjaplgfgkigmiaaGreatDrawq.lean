/-
  Regions that draw their order, where what is held is given up by one operation, number q, that waits for the others.
-/
import Derived.Test.YtjaplgfgkigmiaaGreatTr
namespace Go.Proofs.YtjaplgfgkigmiaaGreat
open Go Go.Proofs

section
variable {P : Program} {ops : Array Oper} {Q : Exit → Act → World → Prop} {S : World → Prop} {q : Nat}
def wpAnyT (P : Program) (ops : Array Oper) (Q : Exit → Act → World → Prop) (S : World → Prop) (q : Nat) : Nat → Array Bool → Act → World → Prop
  | 0, listed, a, w => Region.ready .any ops listed = [] ∧ Q .normal a w
  | fuel + 1, listed, a, w =>
    (Region.ready .any ops listed = [] → Q .normal a w) ∧
    ∀ i ∈ Region.ready .any ops listed, wpOp P ops Q i (fun a' w' => (i ≠ q → S w') ∧ wpAnyT P ops Q S q fuel (listed.setIfInBounds i true) a' w') a w
theorem wpAny_of_T : ∀ (fuel : Nat) (listed : Array Bool) (a : Act) (w : World), wpAnyT P ops Q S q fuel listed a w → wpAny P .any ops Q fuel listed a w
  | 0, _, _, _, h => h
  | fuel + 1, _, _, _, h => ⟨h.1, fun i hi => wpOp_mono (fun a' w' h' => wpAny_of_T fuel _ a' w' h'.2) (h.2 i hi)⟩
theorem wpAnyT_first {i : Nat} {oi oq : Oper} {v : Value} (hi : ops[i]? = some oi) (hsel : ∀ (j : Nat) (o : Oper) cs b, ops[j]? = some o → o.op ≠ .select cs b) (hq : ops[q]? = some oq) (hqi : ∃ e ∈ oq.after, Region.binds .any e = true ∧ e.on = i) (hiq : i ≠ q)
    (hQ : ∀ c a w, Q (.panic c) (a.put oi.dst v) w → Q (.panic c) a w) :
    ∀ (fuel : Nat) (listed : Array Bool) (a : Act) (w : World),
      (∀ j oj, ops[j]? = some oj → j ≠ i → listed.getD j true = false → (∀ e ∈ oj.after, Region.binds .any e = true → e.on ≠ i) → oi.apart ops oj = true) →
      i ∈ Region.ready .any ops listed → YieldsIf P ops S oi v a → S w →
      wpAnyT P ops Q S q fuel (listed.setIfInBounds i true) (a.put oi.dst v) w → wpAnyT P ops Q S q (fuel + 1) listed a w := by
  intro fuel
  induction fuel with
  | zero =>
    intro listed a w _ hr hy hS H
    refine ⟨fun h => (by rw [h] at hr; cases hr), fun j hj => ?_⟩
    by_cases hji : j = i
    · subst hji; exact hy.wpOp hi hS ⟨fun _ => hS, H⟩
    · have := ready_mono hj hji
      rw [H.1] at this
      cases this
  | succ fuel ih =>
    intro listed a w hfree hr hy hS H
    refine ⟨fun h => (by rw [h] at hr; cases hr), fun j hj => ?_⟩
    by_cases hji : j = i
    · subst hji; exact hy.wpOp hi hS ⟨fun _ => hS, H⟩
    · have h1 := H.2 j (ready_mono hj hji)
      obtain ⟨hjun, oj, hoj, hall⟩ := mem_ready.1 hj
      have hnot : ∀ e ∈ oj.after, Region.binds .any e = true → e.on ≠ i := fun e he hb heq => by
        have h1 := hall e he hb
        have h0 := (mem_ready.1 hr).1
        rw [heq] at h1
        rcases Nat.lt_or_ge i listed.size with h' | h'
        · simp [h'] at h0 h1; rw [h0] at h1; cases h1
        · simp [Array.getElem?_eq_none h'] at h1
      have hjq : j ≠ q := fun e => by
        subst e
        have : oj = oq := Option.some.inj (hoj.symm.trans hq)
        subst this
        obtain ⟨e, he, hb, hon⟩ := hqi
        exact hnot e he hb hon
      have h2 := wpOp_putIf hoj (hfree j oj hoj hji hjun hnot) (fun cs b => hsel i oi cs b hi) (fun cs b => hsel j oj cs b hoj) hQ hy h1
      have hfree' : ∀ k ok, ops[k]? = some ok → k ≠ i → (listed.setIfInBounds j true).getD k true = false →
          (∀ e ∈ ok.after, Region.binds .any e = true → e.on ≠ i) → oi.apart ops ok = true := fun k ok hk hki hun hno => by
        refine hfree k ok hk hki ?_ hno
        by_cases hjk : j = k
        · subst hjk; exact hjun
        · rw [getD_set_ne true hjk] at hun; exact hun
      refine wpOp_mono (fun a' w' h3 => ⟨fun _ => h3.2.1 hjq, ih (listed.setIfInBounds j true) a' w' hfree' (ready_mono hr (Ne.symm hji)) h3.1 (h3.2.1 hjq) ?_⟩) h2
      rw [Array.setIfInBounds_comm _ _ hji]
      exact h3.2.2
end

/-- Within such a region. -/
def GT (n : Nat) (P : Program) (ops : Array Oper) (Q : Exit → Act → World → Prop) (k : List KItem) (S : World → Prop) (q fuel : Nat) (listed : Array Bool) (l : Slots) (w : World) : Prop :=
  ∀ β, SameO β w → ∀ a, Fr n a l → wpAnyT P ops (NoPanic (qk P Q β k)) (fun w => S w ∧ SameO β w) q fuel listed a w
def takeQ (ops : Array Oper) (listed : Array Bool) (q i : Nat) : Bool :=
  Region.noSelect ops && Region.free .any ops listed i && (Region.ready .any ops listed).contains i && (!(Nat.beq i q)) && (match ops[q]? with | some oq => oq.after.any fun e => Region.binds .any e && Nat.beq e.on i | none => false)

section
variable {n : Nat} {P : Program} {Q : Exit → Act → World → Prop} {k : List KItem} {l : Slots} {w : World} {ops : Array Oper} {S : World → Prop} {q fuel : Nat} {listed : Array Bool}
variable {d : Nat} {op : Op} {T : TypeId} {pos : String} {aft : Array Edge} {v : Value}

theorem gt_draw {id : Nat} {ol : List Oper} (q : Nat) (S : World → Prop) (hm : P.follows .mixedOrders = true) (h : GT n P ol.toArray Q k S q ol.length (Array.replicate ol.length false) l w.drew) :
    GK n P Q (.code (.region id ol.toArray true) :: k) l w := fun β hβ a ha => by
  refine wpK_code (wp_region_noPanic (wp_region_any hm (wpAny_of_T (S := fun w => S w ∧ SameO β w) (q := q) _ _ _ _ ?_)))
  have := h β hβ.drew a ha
  simpa using this
theorem gt_take (i : Nat) (ho : ops[i]? = some ⟨some d, op, T, pos, aft, none⟩) (hb : takeQ ops listed q i = true) (he : ∀ w, S w → EV P l op T w v w) (hS : S w)
    (h : GT n P ops Q k S q fuel (listed.setIfInBounds i true) ((d, v) :: l) w) (hd : d < n := by decide) : GT n P ops Q k S q (fuel + 1) listed l w := fun β hβ a ha => by
  unfold takeQ at hb
  simp only [Bool.and_eq_true] at hb
  obtain ⟨⟨⟨⟨h1, h2⟩, h3⟩, h4⟩, h5⟩ := hb
  cases hq : ops[q]? with
  | none => rw [hq] at h5; cases h5
  | some oq =>
    rw [hq] at h5
    simp only at h5
    obtain ⟨e, he', hb'⟩ := Array.any_eq_true'.1 h5
    simp only [Bool.and_eq_true] at hb'
    have hiq : i ≠ q := fun e' => by subst e'; simp at h4
    exact wpAnyT_first ho (Region.noSelect_spec h1) hq ⟨e, he', hb'.1, Nat.eq_of_beq_eq_true hb'.2⟩ hiq (fun c a w hq => hq) fuel listed a w (Region.free_spec ho h2) (by simpa using h3)
      (.inl ⟨rfl, fun w' hS' => (he w' hS'.1).1 a.eval _ rfl rfl (fun x v hx => ha.eval hx)⟩) ⟨hS, hβ⟩ (h β hβ _ (ha.put hd v))
theorem gt_one {i : Nat} (hr : Region.ready .any ops listed = [i])
    (h : ∀ β, SameO β w → ∀ a, Fr n a l → wpOp P ops (NoPanic (qk P Q β k)) i (fun a' w' => (i ≠ q → S w' ∧ SameO β w') ∧ wpAnyT P ops (NoPanic (qk P Q β k)) (fun w => S w ∧ SameO β w) q fuel (listed.setIfInBounds i true) a' w') a w) :
    GT n P ops Q k S q (fuel + 1) listed l w := fun β hβ a ha => ⟨fun h0 => (by rw [hr] at h0; cases h0), fun j hj => (by
    rw [hr] at hj
    have : j = i := by simpa using hj
    subst this; exact h β hβ a ha)⟩
theorem gt_v (i : Nat) {w' : World} (ho : ops[i]? = some ⟨some d, op, T, pos, aft, none⟩) (hr : Region.ready .any ops listed = [i]) (he : EV P l op T w v w') (hS : S w')
    (h : GT n P ops Q k S q fuel (listed.setIfInBounds i true) ((d, v) :: l) w') (hd : d < n := by decide) : GT n P ops Q k S q (fuel + 1) listed l w :=
  gt_one hr fun β hβ a ha => by
    unfold wpOp
    simp only [ho, Region.wanted, if_true]
    refine .inl ?_
    unfold Oper.wp
    rw [he.1 a.eval _ rfl rfl (fun x v hx => ha.eval hx), Oper.upon_value]
    exact ⟨fun _ => ⟨hS, hβ.trans he.2⟩, h β (hβ.trans he.2) _ (ha.put hd v)⟩
theorem gt_sq {w' : World} (ho : ops[q]? = some ⟨none, op, T, pos, aft, none⟩) (hr : Region.ready .any ops listed = [q]) (he : ES P l op T w w')
    (h : GT n P ops Q k S q fuel (listed.setIfInBounds q true) l w') : GT n P ops Q k S q (fuel + 1) listed l w :=
  gt_one hr fun β hβ a ha => by
    unfold wpOp
    simp only [ho, Region.wanted, if_true]
    refine .inl ?_
    unfold Oper.wp
    rw [he.1 a.eval _ rfl rfl (fun x v hx => ha.eval hx), Oper.upon_skip]
    exact ⟨fun hn => absurd rfl hn, h β (hβ.trans he.2) _ ha⟩
theorem gt_call (i : Nat) {f : FuncId} {args : Array Value} {R : Value → World → Prop} (ho : ops[i]? = some ⟨some d, op, T, pos, aft, none⟩) (hr : Region.ready .any ops listed = [i]) (he : EC P l op T w f args)
    (hc : CR P f args w R) (h : ∀ v w', R v w' → S w' ∧ (S w' → GT n P ops Q k S q fuel (listed.setIfInBounds i true) ((d, v) :: l) w')) (hd : d < n := by decide) : GT n P ops Q k S q (fuel + 1) listed l w :=
  gt_one hr fun β hβ a ha => by
    unfold wpOp
    simp only [ho, Region.wanted, if_true]
    refine .inl ?_
    unfold Oper.wp
    rw [he a.eval _ rfl rfl (fun x v hx => ha.eval hx), Oper.upon_enter]
    refine hc.mono ?_
    rintro e w' ⟨v, rfl, hR, hs⟩
    have h1 := h v w' hR
    exact ⟨fun _ => ⟨h1.1, hβ.trans hs⟩, h1.2 h1.1 β (hβ.trans hs) _ (ha.put hd v)⟩
theorem gt_nil (hr : Region.ready .any ops listed = []) (h : GK n P Q k l w) : GT n P ops Q k S q fuel listed l w := fun β hβ a ha => by
  cases fuel with
  | zero => exact ⟨hr, h β hβ a ha⟩
  | succ f => exact ⟨fun _ => h β hβ a ha, by rw [hr]; simp⟩
end
end Go.Proofs.YtjaplgfgkigmiaaGreat
