/-
  Regions that draw their order.
-/
import Derived.Test.YtjaplgfgkigmiaaGreatOps
import Derived.KernelRfl
import Derived.StillTail
namespace Go.Proofs.YtjaplgfgkigmiaaGreat
open Go

/-- Within a region that draws its order, S being held. -/
def GA (n : Nat) (P : Program) (ops : Array Oper) (Q : Exit → Act → World → Prop) (k : List KItem) (S : World → Prop) (fuel : Nat) (listed : Array Bool) (l : Slots) (w : World) : Prop :=
  ∀ β, SameO β w → ∀ a, Fr n a l → wpAnyH P .any ops (NoPanic (qk P Q β k)) (fun w => S w ∧ SameO β w) fuel listed a w

section
variable {n : Nat} {P : Program} {Q : Exit → Act → World → Prop} {k : List KItem} {l : Slots} {w : World} {ops : Array Oper} {S : World → Prop} {fuel : Nat} {listed : Array Bool}

theorem gk_draw {id : Nat} {ol : List Oper} (S : World → Prop) (hm : P.follows .mixedOrders = true) (h : GA n P ol.toArray Q k S ol.length (Array.replicate ol.length false) l w.drew) :
    GK n P Q (.code (.region id ol.toArray true) :: k) l w := fun β hβ a ha => by
  refine wpK_code (wp_region_noPanic (wp_region_held (S := fun w => S w ∧ SameO β w) hm ?_))
  have := h β hβ.drew a ha
  simpa using this

def takeB (ops : Array Oper) (listed : Array Bool) (i : Nat) : Bool :=
  Region.noSelect ops && Region.free .any ops listed i && (Region.ready .any ops listed).contains i

theorem ga_keep {l' : Slots} (hk : keeps l l') (h : GA n P ops Q k S fuel listed l' w) : GA n P ops Q k S fuel listed l w := fun β hβ a ha => h β hβ a (ha.keep hk)

variable {d : Nat} {op : Op} {T : TypeId} {pos : String} {aft : Array Edge} {v : Value}
/-- One that yields the same in every world that meets S. -/
theorem ga_take (i : Nat) (ho : ops[i]? = some ⟨some d, op, T, pos, aft, none⟩) (hb : takeB ops listed i = true) (he : ∀ w, S w → EV P l op T w v w) (hS : S w)
    (h : GA n P ops Q k S fuel (listed.setIfInBounds i true) ((d, v) :: l) w) (hd : d < n := by decide) : GA n P ops Q k S (fuel + 1) listed l w := fun β hβ a ha => by
  simp only [takeB, Bool.and_eq_true] at hb
  refine wpAnyH_take ho hb.1.1 hb.1.2 hb.2 (fun c a w hq => hq) ?_ ⟨hS, hβ⟩ (h β hβ _ (ha.put hd v))
  exact .inl ⟨rfl, fun w' hS' => (he w' hS'.1).1 a.eval _ rfl rfl (fun x v hx => ha.eval hx)⟩

theorem ga_one {i : Nat} (hr : Region.ready .any ops listed = [i])
    (h : ∀ β, SameO β w → ∀ a, Fr n a l → wpOp P ops (NoPanic (qk P Q β k)) i (fun a' w' => (S w' ∧ SameO β w') ∧ wpAnyH P .any ops (NoPanic (qk P Q β k)) (fun w => S w ∧ SameO β w) fuel (listed.setIfInBounds i true) a' w') a w) :
    GA n P ops Q k S (fuel + 1) listed l w := fun β hβ a ha =>
  wpAnyH_all hr (by simp) fun j hj => by
    have : j = i := by simpa using hj
    subst this; exact h β hβ a ha

/-- The only one that may come up, an effect: a value. -/
theorem ga_v (i : Nat) {w' : World} (ho : ops[i]? = some ⟨some d, op, T, pos, aft, none⟩) (hr : Region.ready .any ops listed = [i]) (he : EV P l op T w v w') (hS : S w')
    (h : GA n P ops Q k S fuel (listed.setIfInBounds i true) ((d, v) :: l) w') (hd : d < n := by decide) : GA n P ops Q k S (fuel + 1) listed l w :=
  ga_one hr fun β hβ a ha => by
    unfold wpOp
    simp only [ho, Region.wanted, if_true]
    refine .inl ?_
    unfold Oper.wp
    rw [he.1 a.eval _ rfl rfl (fun x v hx => ha.eval hx), Oper.upon_value]
    exact ⟨⟨hS, hβ.trans he.2⟩, h β (hβ.trans he.2) _ (ha.put hd v)⟩
theorem ga_v0 (i : Nat) {w' : World} (ho : ops[i]? = some ⟨none, op, T, pos, aft, none⟩) (hr : Region.ready .any ops listed = [i]) (he : EV P l op T w v w') (hS : S w')
    (h : GA n P ops Q k S fuel (listed.setIfInBounds i true) l w') : GA n P ops Q k S (fuel + 1) listed l w :=
  ga_one hr fun β hβ a ha => by
    unfold wpOp
    simp only [ho, Region.wanted, if_true]
    refine .inl ?_
    unfold Oper.wp
    rw [he.1 a.eval _ rfl rfl (fun x v hx => ha.eval hx), Oper.upon_value]
    exact ⟨⟨hS, hβ.trans he.2⟩, h β (hβ.trans he.2) _ ha⟩
theorem ga_s (i : Nat) {w' : World} (ho : ops[i]? = some ⟨none, op, T, pos, aft, none⟩) (hr : Region.ready .any ops listed = [i]) (he : ES P l op T w w') (hS : S w')
    (h : GA n P ops Q k S fuel (listed.setIfInBounds i true) l w') : GA n P ops Q k S (fuel + 1) listed l w :=
  ga_one hr fun β hβ a ha => by
    unfold wpOp
    simp only [ho, Region.wanted, if_true]
    refine .inl ?_
    unfold Oper.wp
    rw [he.1 a.eval _ rfl rfl (fun x v hx => ha.eval hx), Oper.upon_skip]
    exact ⟨⟨hS, hβ.trans he.2⟩, h β (hβ.trans he.2) _ ha⟩
theorem ga_call (i : Nat) {f : FuncId} {args : Array Value} {R : Value → World → Prop} (ho : ops[i]? = some ⟨some d, op, T, pos, aft, none⟩) (hr : Region.ready .any ops listed = [i]) (he : EC P l op T w f args)
    (hc : CR P f args w R) (h : ∀ v w', R v w' → S w' ∧ (S w' → GA n P ops Q k S fuel (listed.setIfInBounds i true) ((d, v) :: l) w')) (hd : d < n := by decide) : GA n P ops Q k S (fuel + 1) listed l w :=
  ga_one hr fun β hβ a ha => by
    unfold wpOp
    simp only [ho, Region.wanted, if_true]
    refine .inl ?_
    unfold Oper.wp
    rw [he a.eval _ rfl rfl (fun x v hx => ha.eval hx), Oper.upon_enter]
    refine hc.mono ?_
    rintro e w' ⟨v, rfl, hR, hs⟩
    have h1 := h v w' hR
    exact ⟨⟨h1.1, hβ.trans hs⟩, h1.2 h1.1 β (hβ.trans hs) _ (ha.put hd v)⟩
theorem ga_nil (hr : Region.ready .any ops listed = []) (h : GK n P Q k l w) : GA n P ops Q k S fuel listed l w := fun β hβ a ha =>
  wpAnyH_done hr (h β hβ a ha) fuel

/-! ### Quiet operations, then a tail in its order -/
def GS (n : Nat) (P : Program) (ops : Array Oper) (w : World) (Qs : World → Act → Prop) (todo : List Oper) (l : Slots) : Prop := ∀ β, SameO β w → ∀ a, Fr n a l → wpStill P ops w (Qs β) todo a

theorem gk_tail {id : Nat} {ol : List Oper} (m : Nat) (hm : P.follows .mixedOrders = true) (hB : Region.lexTailB .any ol.toArray m = true)
    (h : GS n P ol.toArray w.drew (fun β a' => wpList P ol.toArray (qk P Q β k) (ol.drop m) a' w.drew) (ol.take m) l) : GK n P Q (.code (.region id ol.toArray true) :: k) l w :=
  fun β hβ a ha => wpK_code (wp_region_still_tail m hm hB (h β hβ.drew a ha))
theorem gs_v {Qs : World → Act → Prop} {rest : List Oper} (he : EV P l op T w v w) (h : GS n P ops w Qs rest ((d, v) :: l)) (hd : d < n := by decide) : GS n P ops w Qs (⟨some d, op, T, pos, aft, none⟩ :: rest) l := fun β hβ a ha => by
  refine wpStill_step fun K hK => ?_
  simp only [Region.wanted, if_true]
  unfold Oper.still
  rw [he.1 a.eval _ rfl rfl (fun x v hx => ha.eval hx), Oper.stillUpon_value]
  exact hK _ (h β hβ _ (ha.put hd v))
theorem gs_nil {ol : List Oper} (h : GR n P ops Q k ol l w) : GS n P ops w (fun β a' => wpList P ops (qk P Q β k) ol a' w) [] l := fun β hβ a ha => wpStill_nil (h β hβ a ha)
end
end Go.Proofs.YtjaplgfgkigmiaaGreat
