/-
  The engine of these proofs, over any program: frames as lists of known slots, the code that is left as a list of items.
-/
import Derived.Calls
import Derived.Tactics
import Derived.OrdersHeld
import Derived.Deep.RegionHeld3
import Derived.Deep.Draws
namespace Go.Proofs.YtjaplgfgkigmiaaGreat
open Go

abbrev Slots := List (Nat × Value)

def look : Slots → Nat → Option Value
  | [], _ => none
  | (k, v) :: l, i => if Nat.beq k i = true then some v else look l i

def ev (l : Slots) : Operand → Option Value
  | .tmp t => look l t
  | .const v => some v
  | .global g => some (.pointer (some ⟨g, 0, none⟩))
  | .func f => some (.func (.func f) #[] #[])

/-- The frame: how many slots, no deferred calls, what the known ones hold. -/
structure Fr (n : Nat) (a : Act) (l : Slots) : Prop where
  size : a.tmps.size = n
  nodef : a.defers = []
  val : ∀ i v, look l i = some v → a.tmps[i]? = some v

theorem Fr.eval {n : Nat} {a : Act} {l : Slots} (h : Fr n a l) {x : Operand} {v : Value} (hx : ev l x = some v) : a.eval x = v := by
  cases x with
  | tmp t => simp only [ev] at hx; simp [Act.eval, Array.getD_eq_getD_getElem?, h.val _ _ hx]
  | const c => simp only [ev, Option.some.injEq] at hx; simpa [Act.eval] using hx
  | global g => simp only [ev, Option.some.injEq] at hx; simpa [Act.eval] using hx
  | func f => simp only [ev, Option.some.injEq] at hx; simpa [Act.eval] using hx

theorem Fr.put {n : Nat} {a : Act} {l : Slots} (h : Fr n a l) {d : Nat} (hd : d < n) (v : Value) : Fr n (a.put (some d) v) ((d, v) :: l) := by
  refine ⟨by simp [Act.put, h.size], by simp [Act.put, h.nodef], fun i u hu => ?_⟩
  simp only [look] at hu
  have hs := h.size
  by_cases e : d = i
  · subst e
    simp only [Nat.beq_refl, if_true, Option.some.injEq] at hu
    subst hu
    simp only [Act.put]
    rw [Array.getElem?_setIfInBounds_self_of_lt (by omega)]
  · have e' : Nat.beq d i = false := by
      cases hb : Nat.beq d i
      · rfl
      · exact absurd (Nat.eq_of_beq_eq_true hb) e
    rw [if_neg (by simp [e'])] at hu
    simp only [Act.put]
    rw [Array.getElem?_setIfInBounds_ne e]
    exact h.val _ _ hu

theorem Fr.none_put {n : Nat} {a : Act} {l : Slots} (h : Fr n a l) (v : Value) : Fr n (a.put none v) l := h

/-- What is kept of a list: each pair of the second stands in the first. -/
def keeps (l : Slots) : Slots → Prop
  | [] => True
  | (k, v) :: t => look l k = some v ∧ keeps l t

theorem look_keeps {l : Slots} : ∀ {l' : Slots}, keeps l l' → ∀ i v, look l' i = some v → look l i = some v
  | [], _, _, _, h => by simp [look] at h
  | (k, u) :: t, hk, i, v, h => by
    simp only [look] at h
    by_cases e : Nat.beq k i = true
    · rw [if_pos e] at h
      have := Nat.eq_of_beq_eq_true e
      subst this
      rw [hk.1]; exact h
    · rw [if_neg e] at h
      exact look_keeps hk.2 i v h

theorem Fr.keep {n : Nat} {a : Act} {l l' : Slots} (h : Fr n a l) (hk : keeps l l') : Fr n a l' :=
  ⟨h.size, h.nodef, fun i v hv => h.val i v (look_keeps hk i v hv)⟩

/-! ### What no step changes: the world outside, the tape, what has been written -/
structure SameO (β w : World) : Prop where
  os : w.os = β.os
  tape : w.tape = β.tape
  out : w.output = β.output
theorem SameO.refl {w : World} : SameO w w := ⟨rfl, rfl, rfl⟩
theorem SameO.trans {a b c : World} (h : SameO a b) (k : SameO b c) : SameO a c := ⟨k.os.trans h.os, k.tape.trans h.tape, k.out.trans h.out⟩
theorem SameO.drew {a b : World} (h : SameO a b) : SameO a b.drew := h.trans ⟨rfl, rfl, rfl⟩

/-! ### The code that is left -/
inductive KItem
  | code (c : Code)
  | blk (id : Nat)
  | fin (R : Act → World → Prop)

mutual
def wpK (P : Program) (Q : Exit → Act → World → Prop) (β : World) : List KItem → Act → World → Prop
  | [], a, w => Q .normal a w ∧ SameO β w
  | .blk _ :: k, a, w => wpK P Q β k a w
  | .fin R :: _, a, w => R a w ∧ SameO β w
  | .code c :: k, a, w => c.wp P (fun e a w => match e with
      | .normal => wpK P Q β k a w
      | .exit id => exK P Q β id k a w
      | e => Q e a w ∧ SameO β w) a w
def exK (P : Program) (Q : Exit → Act → World → Prop) (β : World) (id : Nat) : List KItem → Act → World → Prop
  | [], a, w => Q (.exit id) a w ∧ SameO β w
  | .blk id' :: k, a, w => if id' = id then wpK P Q β k a w else exK P Q β id k a w
  | .fin _ :: k, a, w => exK P Q β id k a w
  | .code _ :: k, a, w => exK P Q β id k a w
end

/-- What a piece of code is asked for, the rest being 'k'. -/
def qk (P : Program) (Q : Exit → Act → World → Prop) (β : World) (k : List KItem) : Exit → Act → World → Prop
  | .normal, a, w => wpK P Q β k a w
  | .exit id, a, w => exK P Q β id k a w
  | e, a, w => Q e a w ∧ SameO β w

theorem wpK_code {P : Program} {Q : Exit → Act → World → Prop} {c : Code} {k : List KItem} {β : World} {a : Act} {w : World} (h : c.wp P (qk P Q β k) a w) : wpK P Q β (.code c :: k) a w := by
  rw [wpK]
  refine wp_mono h ?_
  intro e a w hq
  cases e <;> exact hq

theorem code_wpK {P : Program} {Q : Exit → Act → World → Prop} {c : Code} {k : List KItem} {β : World} {a : Act} {w : World} (h : wpK P Q β (.code c :: k) a w) : c.wp P (qk P Q β k) a w := by
  rw [wpK] at h
  refine wp_mono h ?_
  intro e a w hq
  cases e <;> exact hq

/-- The items behind a left block. -/
def exl (id : Nat) : List KItem → Option (List KItem)
  | [] => none
  | .blk id' :: k => if Nat.beq id' id = true then some k else exl id k
  | .fin _ :: k => exl id k
  | .code _ :: k => exl id k

theorem exK_of {P : Program} {Q : Exit → Act → World → Prop} {β : World} {id : Nat} {a : Act} {w : World} : ∀ {k k' : List KItem}, exl id k = some k' → wpK P Q β k' a w → exK P Q β id k a w
  | [], _, h, _ => by simp [exl] at h
  | .blk id' :: k, k', h, hw => by
    rw [exK]
    simp only [exl] at h
    by_cases e : id' = id
    · rw [if_pos e]; subst e; simp only [Nat.beq_refl, if_true, Option.some.injEq] at h; subst h; exact hw
    · rw [if_neg e]
      rw [if_neg (fun hb => e (Nat.eq_of_beq_eq_true hb))] at h
      exact exK_of h hw
  | .fin _ :: k, k', h, hw => by rw [exK]; exact exK_of h hw
  | .code _ :: k, k', h, hw => by rw [exK]; exact exK_of h hw

/-- THE GOAL OF A WALK: from every frame with these slots. -/
def GK (n : Nat) (P : Program) (Q : Exit → Act → World → Prop) (k : List KItem) (l : Slots) (w : World) : Prop := ∀ β, SameO β w → ∀ a, Fr n a l → wpK P Q β k a w
/-- Within a region that keeps its order. -/
def GR (n : Nat) (P : Program) (ops : Array Oper) (Q : Exit → Act → World → Prop) (k : List KItem) (rest : List Oper) (l : Slots) (w : World) : Prop := ∀ β, SameO β w → ∀ a, Fr n a l → wpList P ops (qk P Q β k) rest a w

section
variable {n : Nat} {P : Program} {Q : Exit → Act → World → Prop} {k : List KItem} {l : Slots} {w : World}

theorem gk_keep {l' : Slots} (hk : keeps l l') (h : GK n P Q k l' w) : GK n P Q k l w := fun β hβ a ha => h β hβ a (ha.keep hk)

theorem gk_seq {x y : Code} (h : GK n P Q (.code x :: .code y :: k) l w) : GK n P Q (.code (x.seq y) :: k) l w := fun β hβ a ha => by
  refine wpK_code (wp_seq ?_)
  refine wp_mono (code_wpK (h β hβ a ha)) ?_
  intro e a' w' hq
  cases e with
  | normal => exact code_wpK hq
  | exit id => simp only [Exit.then]; simp only [qk] at hq ⊢; rw [exK] at hq; exact hq
  | _ => exact hq

theorem gk_block {id : Nat} {c : Code} (h : GK n P Q (.code c :: .blk id :: k) l w) : GK n P Q (.code (.block id c) :: k) l w := fun β hβ a ha => by
  refine wpK_code (wp_block ?_)
  refine wp_mono (code_wpK (h β hβ a ha)) ?_
  intro e a' w' hq
  cases e with
  | normal => simp only [Exit.inBlock]; simp only [qk] at hq ⊢; rw [wpK] at hq; exact hq
  | exit id' =>
    simp only [Exit.inBlock]; simp only [qk] at hq ⊢; rw [exK] at hq
    by_cases e : id' = id
    · rw [if_pos e]; rw [if_pos e.symm] at hq; exact hq
    · rw [if_neg e]; rw [if_neg (fun h => e h.symm)] at hq; exact hq
  | _ => exact hq

theorem gk_endblk {id : Nat} (h : GK n P Q k l w) : GK n P Q (.blk id :: k) l w := fun β hβ a ha => by rw [wpK]; exact h β hβ a ha
theorem gk_skip (h : GK n P Q k l w) : GK n P Q (.code .skip :: k) l w := fun β hβ a ha => wpK_code (wp_skip (h β hβ a ha))
theorem gk_exit {id : Nat} {k' : List KItem} (hx : exl id k = some k') (h : GK n P Q k' l w) : GK n P Q (.code (.exit id) :: k) l w :=
  fun β hβ a ha => wpK_code (wp_exit (exK_of hx (h β hβ a ha)))
theorem gk_fin {R : Act → World → Prop} (h : ∀ a, Fr n a l → R a w) : GK n P Q (.fin R :: k) l w := fun β hβ a ha => by rw [wpK]; exact ⟨h a ha, hβ⟩

theorem gk_true {c : Operand} {x y : Code} {b : Bool} (hc : ev l c = some (.bool b)) (hb : b = true) (h : GK n P Q (.code x :: k) l w) : GK n P Q (.code (.cond c x y) :: k) l w :=
  fun β hβ a ha => wpK_code (wp_cond_true (by rw [ha.eval hc, hb]) (code_wpK (h β hβ a ha)))
theorem gk_false {c : Operand} {x y : Code} {b : Bool} (hc : ev l c = some (.bool b)) (hb : b = false) (h : GK n P Q (.code y :: k) l w) : GK n P Q (.code (.cond c x y) :: k) l w :=
  fun β hβ a ha => wpK_code (wp_cond_false (by rw [ha.eval hc, hb]) (code_wpK (h β hβ a ha)))
theorem gk_if {c : Operand} {x y : Code} {b : Bool} (hc : ev l c = some (.bool b)) (ht : b = true → GK n P Q (.code x :: k) l w) (hf : b = false → GK n P Q (.code y :: k) l w) : GK n P Q (.code (.cond c x y) :: k) l w := by
  cases b
  · exact gk_false hc rfl (hf rfl)
  · exact gk_true hc rfl (ht rfl)

/-- A loop: what holds at a round's head is told by a family of lists of slots and of worlds. -/
theorem gk_loop {c : Code} {ι : Type} (S : ι → Slots) (W : ι → World → Prop) (μ : ι → Nat) (i0 : ι) (h0 : keeps l (S i0)) (hw0 : W i0 w)
    (round : ∀ i w', W i w' → GK n P Q (.code c :: .fin (fun a' w'' => ∃ j, Fr n a' (S j) ∧ W j w'' ∧ μ j < μ i) :: k) (S i) w') : GK n P Q (.code (.loop c) :: k) l w := fun β hβ a ha => by
  refine wpK_code ?_
  have key : ∀ m i a w, μ i = m → Fr n a (S i) → W i w → SameO β w → ∀ (b : Frame) (kk : List Item) (cs : List Frame),
      ∃ e a' w', qk P Q β k e a' w' ∧ Arrives P (lone (b.at a (.code c :: .inLoop c :: kk)) cs w) b kk cs e a' w' := by
    intro m
    induction m using Nat.strongRecOn with
    | _ m ih =>
      intro i a w hm hfr hW hβ b kk cs
      obtain ⟨e, a1, w1, hq, harr⟩ := code_wpK (round i w hW β hβ a hfr) b (.inLoop c :: kk) cs
      cases e with
      | normal =>
        simp only [qk] at hq
        rw [wpK] at hq
        obtain ⟨⟨j, hfj, hWj, hlt⟩, hβ1⟩ := hq
        obtain ⟨e2, a2, w2, hq2, harr2⟩ := ih (μ j) (hm ▸ hlt) j a1 w1 rfl hfj hWj hβ1 b kk cs
        exact ⟨e2, a2, w2, hq2, .of_steps (Steps.trans harr (.one step_inLoop)) harr2⟩
      | exit id => simp only [qk] at hq; rw [exK] at hq; exact ⟨.exit id, a1, w1, hq, .pass (x := .inLoop c) rfl (fun _ _ => .inl (by simp)) harr⟩
      | goto lb => exact ⟨.goto lb, a1, w1, hq, .pass (x := .inLoop c) rfl (fun _ _ => .inl (by simp)) harr⟩
      | ret => exact ⟨.ret, a1, w1, hq, .pass (x := .inLoop c) rfl (fun _ _ => .inl (by simp)) harr⟩
      | panic ch => exact ⟨.panic ch, a1, w1, hq, .pass (x := .inLoop c) rfl (fun _ _ => .inl (by simp)) harr⟩
      | outgrown => exact ⟨.outgrown, a1, w1, hq, .pass (x := .inLoop c) rfl (fun _ _ => .inl (by simp)) harr⟩
  intro b kk cs
  obtain ⟨e, a', w', hq, harr⟩ := key _ i0 a w rfl (ha.keep h0) hw0 hβ b kk cs
  exact ⟨e, a', w', hq, .of_steps (.one step_loop) harr⟩

/-- Where ways meet again: what holds there, told by a family of lists of slots and of worlds. -/
theorem gk_cut {c : Code} {ι : Type} (S : ι → Slots) (R : ι → World → Prop) (h1 : GK n P Q (.code c :: .fin (fun a w' => ∃ i, Fr n a (S i) ∧ R i w') :: k) l w)
    (h2 : ∀ i w', R i w' → GK n P Q k (S i) w') : GK n P Q (.code c :: k) l w := fun β hβ a ha => by
  refine wpK_code (wp_mono (code_wpK (h1 β hβ a ha)) ?_)
  intro e a' w' hq
  cases e with
  | normal => simp only [qk] at hq ⊢; rw [wpK] at hq; obtain ⟨⟨i, hf, hR⟩, hβ'⟩ := hq; exact h2 i w' hR β hβ' a' hf
  | exit id => simp only [qk] at hq ⊢; rw [exK] at hq; exact hq
  | _ => exact hq

/-! ### Regions that keep their order -/
theorem gk_region {id : Nat} {ol : List Oper} (h : GR n P ol.toArray Q k ol l w) : GK n P Q (.code (.region id ol.toArray false) :: k) l w :=
  fun β hβ a ha => wpK_code (wp_region_lit (h β hβ a ha))
theorem gr_nil {ops : Array Oper} (h : GK n P Q k l w) : GR n P ops Q k [] l w := fun β hβ a ha => wpList_nil (h β hβ a ha)

/-- An operation that yields a value. -/
def EV (P : Program) (l : Slots) (op : Op) (T : TypeId) (w : World) (v : Value) (w' : World) : Prop :=
  (∀ (ρ : Operand → Value) (o : Oper), o.op = op → o.type = T → (∀ x v, ev l x = some v → ρ x = v) → (execOp ρ o).run P w = .ok (.value v) w') ∧ SameO w w'
theorem ev_of {l : Slots} {op : Op} {T : TypeId} {v : Value} {w' : World} (h : ∀ (ρ : Operand → Value) (o : Oper), o.op = op → o.type = T → (∀ x v, ev l x = some v → ρ x = v) → (execOp ρ o).run P w = .ok (.value v) w') (hs : SameO w w' := by exact ⟨rfl, rfl, rfl⟩) : EV P l op T w v w' := ⟨h, hs⟩
/-- An operation that yields nothing. -/
def ES (P : Program) (l : Slots) (op : Op) (T : TypeId) (w : World) (w' : World) : Prop :=
  (∀ (ρ : Operand → Value) (o : Oper), o.op = op → o.type = T → (∀ x v, ev l x = some v → ρ x = v) → (execOp ρ o).run P w = .ok .skip w') ∧ SameO w w'
theorem es_of {l : Slots} {op : Op} {T : TypeId} {w' : World} (h : ∀ (ρ : Operand → Value) (o : Oper), o.op = op → o.type = T → (∀ x v, ev l x = some v → ρ x = v) → (execOp ρ o).run P w = .ok .skip w') (hs : SameO w w' := by exact ⟨rfl, rfl, rfl⟩) : ES P l op T w w' := ⟨h, hs⟩

variable {ops : Array Oper} {rest : List Oper} {op : Op} {T : TypeId} {pos : String} {aft : Array Edge}

theorem gr_v {d : Nat} {v : Value} {w' : World} (he : EV P l op T w v w') (h : GR n P ops Q k rest ((d, v) :: l) w') (hd : d < n := by decide) :
    GR n P ops Q k (⟨some d, op, T, pos, aft, none⟩ :: rest) l w := fun β hβ a ha => by
  refine wpList_plain rfl fun K hK => ?_
  unfold Oper.wp
  rw [he.1 a.eval _ rfl rfl (fun x v hx => ha.eval hx), Oper.upon_value]
  exact hK _ _ (h β (hβ.trans he.2) _ (ha.put hd v))
theorem gr_v0 {v : Value} {w' : World} (he : EV P l op T w v w') (h : GR n P ops Q k rest l w') :
    GR n P ops Q k (⟨none, op, T, pos, aft, none⟩ :: rest) l w := fun β hβ a ha => by
  refine wpList_plain rfl fun K hK => ?_
  unfold Oper.wp
  rw [he.1 a.eval _ rfl rfl (fun x v hx => ha.eval hx), Oper.upon_value]
  exact hK _ _ (h β (hβ.trans he.2) _ ha)
theorem gr_s {w' : World} (he : ES P l op T w w') (h : GR n P ops Q k rest l w') :
    GR n P ops Q k (⟨none, op, T, pos, aft, none⟩ :: rest) l w := fun β hβ a ha => by
  refine wpList_plain rfl fun K hK => ?_
  unfold Oper.wp
  rw [he.1 a.eval _ rfl rfl (fun x v hx => ha.eval hx), Oper.upon_skip]
  exact hK _ _ (h β (hβ.trans he.2) _ ha)

/-! ### Calls -/
/-- A contract's end: it returns, and what then holds. -/
def Ret (R : Value → World → Prop) : Ending → World → Prop := fun e w => ∃ v, e = .returned v ∧ R v w
abbrev CR (P : Program) (f : FuncId) (args : Array Value) (w : World) (R : Value → World → Prop) : Prop := Calls P f args w (Ret fun v w' => R v w' ∧ SameO w w')

def evs (l : Slots) : List Operand → Option (List Value)
  | [] => some []
  | x :: xs => match ev l x, evs l xs with
    | some v, some vs => some (v :: vs)
    | _, _ => none

theorem evs_map {l : Slots} {ρ : Operand → Value} (hρ : ∀ x v, ev l x = some v → ρ x = v) : ∀ {xs : List Operand} {vs : List Value}, evs l xs = some vs → xs.map ρ = vs
  | [], vs, h => by simp [evs] at h; simp [h]
  | x :: xs, vs, h => by
    simp only [evs] at h
    cases hx : ev l x with
    | none => rw [hx] at h; cases h' : evs l xs <;> simp [h'] at h
    | some v =>
      cases hxs : evs l xs with
      | none => simp [hx, hxs] at h
      | some vs' =>
        simp only [hx, hxs, Option.some.injEq] at h
        subst h
        simp [hρ _ _ hx, evs_map hρ hxs]

/-- What the call of a function comes to. -/
def EC (P : Program) (l : Slots) (op : Op) (T : TypeId) (w : World) (f : FuncId) (args : Array Value) : Prop :=
  ∀ (ρ : Operand → Value) (o : Oper), o.op = op → o.type = T → (∀ x v, ev l x = some v → ρ x = v) → (execOp ρ o).run P w = .ok (.enter f args) w

theorem ec_func {f : FuncId} {xs : List Operand} {ats : Array TypeId} {vs : List Value} (hc : ∀ (args : Array Value) (w : World), (callFunc f args).run P w = .ok (.enter f args) w) (hx : evs l xs = some vs) :
    EC P l (.call ⟨.value (.func f), xs.toArray, ats⟩) T w f vs.toArray := by
  intro ρ o ho hT hρ
  have hf : ρ (.func f) = .func (.func f) #[] #[] := hρ _ _ rfl
  have hm := evs_map hρ hx
  unfold execOp
  rw [ho]
  simp [resolve, hf, Deferred.ofValue, invoke, hc, hm]

theorem gr_call {d : Nat} {f : FuncId} {args : Array Value} {R : Value → World → Prop} (he : EC P l op T w f args) (hc : CR P f args w R)
    (h : ∀ v w', R v w' → GR n P ops Q k rest ((d, v) :: l) w') (hd : d < n := by decide) :
    GR n P ops Q k (⟨some d, op, T, pos, aft, none⟩ :: rest) l w := fun β hβ a ha => by
  refine wpList_plain rfl fun K hK => ?_
  unfold Oper.wp
  rw [he a.eval _ rfl rfl (fun x v hx => ha.eval hx), Oper.upon_enter]
  refine hc.mono ?_
  rintro e w' ⟨v, rfl, hR, hs⟩
  exact hK _ _ (h v w' hR β (hβ.trans hs) _ (ha.put hd v))

/-! ### A function's beginning and end -/
def argSlots : Nat → List Value → Slots
  | _, [] => []
  | i, v :: vs => (i, v) :: argSlots (i + 1) vs

theorem look_argSlots : ∀ (vs : List Value) (s i : Nat) (v : Value), look (argSlots s vs) i = some v → s ≤ i ∧ vs[i - s]? = some v
  | [], _, _, _, h => by simp [argSlots, look] at h
  | u :: vs, s, i, v, h => by
    simp only [argSlots, look] at h
    by_cases e : Nat.beq s i = true
    · rw [if_pos e, Option.some.injEq] at h
      have := Nat.eq_of_beq_eq_true e
      subst this; subst h
      exact ⟨Nat.le_refl _, by simp⟩
    · rw [if_neg e] at h
      obtain ⟨h1, h2⟩ := look_argSlots vs (s + 1) i v h
      refine ⟨by omega, ?_⟩
      have : i - s = (i - (s + 1)) + 1 := by omega
      rw [this, List.getElem?_cons_succ]
      exact h2

theorem bodyPost_same {fn : Func} {R : Value → World → Prop} {β : World} {e : Exit} {a : Act} {w : World} (h : bodyPost P fn (Ret R) e a w) (hs : SameO β w) : bodyPost P fn (Ret fun v w' => R v w' ∧ SameO β w') e a w := by
  cases e with
  | normal => obtain ⟨h1, v, h2, x, h3, h4⟩ := h; exact ⟨h1, v, h2, x, h3, h4, hs⟩
  | ret => obtain ⟨h1, v, h2, x, h3, h4⟩ := h; exact ⟨h1, v, h2, x, h3, h4, hs⟩
  | panic c => obtain ⟨h1, x, h3, h4⟩ := h; cases h3
  | outgrown => obtain ⟨x, h3, h4⟩ := h; cases h3
  | exit id => exact h
  | goto lb => exact h
theorem cr_enter {f : FuncId} {fn : Func} {c : Code} {n : Nat} {vs : List Value} {R : Value → World → Prop} (hf : P.funcs[f]? = some fn) (hb : fn.body = some c) (hn : fn.ntmps = n)
    (h : GK n P (bodyPost P fn (Ret R)) [.code c] (argSlots 0 vs) w) (hle : Nat.ble vs.length n = true := by rfl) : CR P f vs.toArray w R := by
  have hle := Nat.le_of_ble_eq_true hle
  refine calls_of_wp hf hb ?_
  subst hn
  have hfr : Fr fn.ntmps { tmps := vs.toArray ++ Array.replicate (fn.ntmps - vs.toArray.size) undef, defers := [] } (argSlots 0 vs) := by
    refine ⟨by simp; omega, rfl, fun i v hv => ?_⟩
    obtain ⟨_, h2⟩ := look_argSlots _ _ _ _ hv
    simp only [Nat.sub_zero] at h2
    have hi : i < vs.length := by
      rcases Nat.lt_or_ge i vs.length with h | h
      · exact h
      · simp [List.getElem?_eq_none h] at h2
    rw [Array.getElem?_append_left (by simpa using hi)]
    simpa using h2
  have := code_wpK (h w SameO.refl _ hfr)
  refine wp_mono this ?_
  intro e a w hq
  cases e with
  | normal => simp only [qk] at hq; rw [wpK] at hq; exact bodyPost_same hq.1 hq.2
  | exit id => simp only [qk] at hq; rw [exK] at hq; exact bodyPost_same hq.1 hq.2
  | _ => exact bodyPost_same hq.1 hq.2

theorem gk_ret1 {fn : Func} {R : Ending → World → Prop} {t : Nat} {v : Value} (hr : fn.results = #[.tmp t]) (hv : look l t = some v) (h : R (.returned v) w) :
    GK n P (bodyPost P fn R) (.code .ret :: k) l w := fun β hβ a ha => by
  refine wpK_code (wp_ret ?_)
  have e : a.tmps.getD t undef = v := by simp [Array.getD_eq_getD_getElem?, ha.val _ _ hv]
  exact ⟨⟨ha.nodef, v, by rw [results_tmp hr, e], h⟩, hβ⟩
theorem gk_ret2 {fn : Func} {R : Ending → World → Prop} {t u : Nat} {v x : Value} (hr : fn.results = #[.tmp t, .tmp u]) (hv : look l t = some v) (hx : look l u = some x) (h : R (.returned (.tuple #[v, x])) w) :
    GK n P (bodyPost P fn R) (.code .ret :: k) l w := fun β hβ a ha => by
  refine wpK_code (wp_ret ?_)
  have e : a.tmps.getD t undef = v := by simp [Array.getD_eq_getD_getElem?, ha.val _ _ hv]
  have e' : a.tmps.getD u undef = x := by simp [Array.getD_eq_getD_getElem?, ha.val _ _ hx]
  exact ⟨⟨ha.nodef, _, by rw [results_tmp2 hr, e, e'], h⟩, hβ⟩
theorem gk_ret0 {fn : Func} {R : Ending → World → Prop} (hr : fn.results = #[]) (h : R (.returned (.tuple #[])) w) :
    GK n P (bodyPost P fn R) (.code .ret :: k) l w := fun β hβ a ha => wpK_code (wp_ret ⟨⟨ha.nodef, _, results_none hr _ _ _, h⟩, hβ⟩)
theorem gk_end0 {fn : Func} {R : Ending → World → Prop} (hr : fn.results = #[]) (h : R (.returned (.tuple #[])) w) :
    GK n P (bodyPost P fn R) [] l w := fun β hβ a ha => by rw [wpK]; exact ⟨⟨ha.nodef, _, results_none hr _ _ _, h⟩, hβ⟩
end
end Go.Proofs.YtjaplgfgkigmiaaGreat
