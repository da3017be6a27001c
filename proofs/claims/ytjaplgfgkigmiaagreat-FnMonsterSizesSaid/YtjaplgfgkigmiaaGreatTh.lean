/-
  What is thrown: a closure called, a recovery deferred (the way on which nothing is thrown).
-/
import Derived.Test.YtjaplgfgkigmiaaGreatCp
import Derived.Recover
namespace Go.Proofs.YtjaplgfgkigmiaaGreat
open Go Go.Proofs

section
variable {P : Program} {ops : Array Oper} {Q : Exit → Act → List Frame → World → Prop} {i : Nat} {rest : List Nat} {a : Act} {cs : List Frame} {w w' : World} {o : Oper}
theorem opsS_rec (ho : ops[i]? = some o) (hg : o.guard = none) (hr : (execOp a.eval o).run P w = .ok .recover w') (hc : recoverD cs = none) (h : wpOpsS P ops Q rest (a.put o.dst .nilIface) cs w') : wpOpsS P ops Q (i :: rest) a cs w := by
  unfold wpOpsS
  simp only [ho, Region.wanted, hg, if_true, hr, hc]
  exact h
theorem opsS_v {v : Value} (ho : ops[i]? = some o) (hg : o.guard = none) (hr : (execOp a.eval o).run P w = .ok (.value v) w') (h : wpOpsS P ops Q rest (a.put o.dst v) cs w') : wpOpsS P ops Q (i :: rest) a cs w := by
  unfold wpOpsS
  simp only [ho, Region.wanted, hg, if_true, hr, Oper.upon_value]
  exact h
theorem opsS_s (ho : ops[i]? = some o) (hg : o.guard = none) (hr : (execOp a.eval o).run P w = .ok .skip w') (h : wpOpsS P ops Q rest (a.put o.dst undef) cs w') : wpOpsS P ops Q (i :: rest) a cs w := by
  unfold wpOpsS
  simp only [ho, Region.wanted, hg, if_true, hr, Oper.upon_skip]
  exact h
end
theorem neq_nil {P : Program} {l : Slots} {w : World} {T t u : TypeId} {x : Operand} {ms : Array (String × TypeId)} (hx : ev l x = some .nilIface) (hT : ∀ w, (underlying t).run P w = .ok (.interface ms) w) :
    EV P l (.binOp .neq t x (.const .nilIface) u) T w (.bool false) w := ev_of <| fun ρ o ho _ hρ => by
  have h2 := hρ (.const .nilIface) _ rfl
  have h3 : (Op.equal t .nilIface .nilIface).run P w = .ok true w := by
    unfold Op.equal
    rw [show Op.maxDepth = 9999 + 1 from rfl, Op.equalIn]
    simp [hT]
  simp [execOp, ho, hρ _ _ hx, h2, eqGuard, binOp, h3]
/-! ### A frame with what it has deferred -/
structure FD (n : Nat) (ds : List Deferred) (a : Act) (l : Slots) : Prop where
  size : a.tmps.size = n
  defs : a.defers = ds
  val : ∀ i v, look l i = some v → a.tmps[i]? = some v
theorem FD.eval {n : Nat} {ds : List Deferred} {a : Act} {l : Slots} (h : FD n ds a l) {x : Operand} {v : Value} (hx : ev l x = some v) : a.eval x = v := by
  cases x with
  | tmp t => simp only [ev] at hx; simp [Act.eval, Array.getD_eq_getD_getElem?, h.val _ _ hx]
  | const c => simp only [ev, Option.some.injEq] at hx; simpa [Act.eval] using hx
  | global g => simp only [ev, Option.some.injEq] at hx; simpa [Act.eval] using hx
  | func f => simp only [ev, Option.some.injEq] at hx; simpa [Act.eval] using hx
theorem FD.put {n : Nat} {ds : List Deferred} {a : Act} {l : Slots} (h : FD n ds a l) {d : Nat} (hd : d < n) (v : Value) : FD n ds (a.put (some d) v) ((d, v) :: l) := by
  refine ⟨by simp [Act.put, h.size], by simp [Act.put, h.defs], fun i u hu => ?_⟩
  simp only [look] at hu
  have hs := h.size
  by_cases e : d = i
  · subst e
    simp only [Nat.beq_refl, if_true, Option.some.injEq] at hu
    subst hu
    simp only [Act.put]
    rw [Array.getElem?_setIfInBounds_self_of_lt (by omega)]
  · have e' : Nat.beq d i = false := by
      cases hb : Nat.beq d i
      · rfl
      · exact absurd (Nat.eq_of_beq_eq_true hb) e
    rw [if_neg (by simp [e'])] at hu
    simp only [Act.put]
    rw [Array.getElem?_setIfInBounds_ne e]
    exact h.val _ _ hu
def GD (n : Nat) (P : Program) (ops : Array Oper) (Q : Exit → Act → World → Prop) (ds : List Deferred) (rest : List Oper) (l : Slots) (w : World) : Prop := ∀ a, FD n ds a l → wpList P ops Q rest a w
section
variable {n : Nat} {P : Program} {Q : Exit → Act → World → Prop} {ds : List Deferred} {l : Slots} {w : World} {ops : Array Oper} {rest : List Oper} {op : Op} {T : TypeId} {pos : String} {aft : Array Edge}
theorem gd_v {d : Nat} {v : Value} {w' : World} (he : EV P l op T w v w') (h : GD n P ops Q ds rest ((d, v) :: l) w') (hd : d < n := by decide) :
    GD n P ops Q ds (⟨some d, op, T, pos, aft, none⟩ :: rest) l w := fun a ha => by
  refine wpList_plain rfl fun K hK => ?_
  unfold Oper.wp
  rw [he.1 a.eval _ rfl rfl (fun x v hx => ha.eval hx), Oper.upon_value]
  exact hK _ _ (h _ (ha.put hd v))
theorem gd_s {w' : World} (he : ES P l op T w w') (h : GD n P ops Q ds rest l w') :
    GD n P ops Q ds (⟨none, op, T, pos, aft, none⟩ :: rest) l w := fun a ha => by
  refine wpList_plain rfl fun K hK => ?_
  unfold Oper.wp
  rw [he.1 a.eval _ rfl rfl (fun x v hx => ha.eval hx), Oper.upon_skip]
  exact hK _ _ (h _ ha)
theorem gd_call {d : Nat} {f : FuncId} {args : Array Value} {R : Value → World → Prop} (he : EC P l op T w f args) (hc : CR P f args w R)
    (h : ∀ v w', R v w' → SameO w w' → GD n P ops Q ds rest ((d, v) :: l) w') (hd : d < n := by decide) :
    GD n P ops Q ds (⟨some d, op, T, pos, aft, none⟩ :: rest) l w := fun a ha => by
  refine wpList_plain rfl fun K hK => ?_
  unfold Oper.wp
  rw [he a.eval _ rfl rfl (fun x v hx => ha.eval hx), Oper.upon_enter]
  refine hc.mono ?_
  rintro e w' ⟨v, rfl, hR, hs⟩
  exact hK _ _ (h v w' hR hs _ (ha.put hd v))
theorem gd_defer {x : Operand} {fv : Fn} {fs cap : Array Value} {ats : Array TypeId} (hx : ev l x = some (.func fv fs cap)) (hf : ∀ w, (Deferred.ofValue (.func fv fs cap) #[]).run P w = .ok { target := .fn fv cap, args := fs } w)
    (h : GD n P ops Q ({ target := .fn fv cap, args := fs } :: ds) rest l w) :
    GD n P ops Q ds (⟨none, .defer ⟨.value x, #[], ats⟩, T, pos, aft, none⟩ :: rest) l w := fun a ha => by
  refine wpList_plain rfl fun K hK => ?_
  unfold Oper.wp
  have he : (execOp a.eval ⟨none, .defer ⟨.value x, #[], ats⟩, T, pos, aft, none⟩).run P w = .ok (.defer { target := .fn fv cap, args := fs }) w := by
    simp [execOp, resolve, ha.eval hx, hf]
  rw [he, Oper.upon_defer]
  exact hK _ _ (h _ ⟨ha.size, by simp [Act.put, ha.defs], ha.val⟩)
theorem gd_nil (h : ∀ a, FD n ds a l → Q .normal a w) : GD n P ops Q ds [] l w := fun a ha => wpList_nil (h a ha)
theorem gd_region {id : Nat} {ol : List Oper} {a : Act} (ha : FD n ds a l) (h : GD n P ol.toArray Q ds ol l w) : (Code.region id ol.toArray false).wp P Q a w := wp_region_lit (h a ha)
/-- A closure made, and called. -/
theorem ev_mkfunc {f : FuncId} {xs : List Operand} {vs : List Value} (hx : evs l xs = some vs) : EV P l (.makeFunc (.func f) #[] xs.toArray) T w (.func (.func f) #[] vs.toArray) w := ev_of <| fun ρ o ho _ hρ => by
  have hm := evs_map hρ hx
  simp [execOp, ho, Instr.makeFunc, hm]
theorem ec_clos {f : FuncId} {x : Operand} {vs : List Value} {ats : Array TypeId} (hf : ev l x = some (.func (.func f) #[] vs.toArray)) (hc : ∀ (args : Array Value) (w : World), (callFunc f args).run P w = .ok (.enter f args) w) :
    EC P l (.call ⟨.value x, #[], ats⟩) T w f vs.toArray := by
  intro ρ o ho hT hρ
  have hf : ρ x = _ := hρ _ _ hf
  unfold execOp
  rw [ho]
  simp [resolve, hf, Deferred.ofValue, invoke, hc]
end
/-- Within a region of a deferred call. -/
def GP (n : Nat) (P : Program) (ops : Array Oper) (Q : Exit → Act → List Frame → World → Prop) (cs : List Frame) (rest : List Nat) (l : Slots) (w : World) : Prop := ∀ a, Fr n a l → wpOpsS P ops Q rest a cs w
section
variable {n : Nat} {P : Program} {Q : Exit → Act → List Frame → World → Prop} {cs : List Frame} {l : Slots} {w : World} {ops : Array Oper} {i : Nat} {rest : List Nat} {op : Op} {T : TypeId} {pos : String} {aft : Array Edge}
theorem gp_rec {d : Nat} {ats : Array TypeId} (ho : ops[i]? = some ⟨some d, .call ⟨.builtin .recover, #[], ats⟩, T, pos, aft, none⟩) (hc : recoverD cs = none) (h : GP n P ops Q cs rest ((d, .nilIface) :: l) w) (hd : d < n := by decide) : GP n P ops Q cs (i :: rest) l w :=
  fun a ha => opsS_rec ho rfl (by simp [execOp, resolve, invoke, builtin]) hc (h _ (ha.put hd _))
theorem gp_v {d : Nat} {v : Value} {w' : World} (ho : ops[i]? = some ⟨some d, op, T, pos, aft, none⟩) (he : EV P l op T w v w') (h : GP n P ops Q cs rest ((d, v) :: l) w') (hd : d < n := by decide) : GP n P ops Q cs (i :: rest) l w :=
  fun a ha => opsS_v ho rfl (he.1 a.eval _ rfl rfl (fun _ _ hx => ha.eval hx)) (h _ (ha.put hd _))
theorem gp_s {w' : World} (ho : ops[i]? = some ⟨none, op, T, pos, aft, none⟩) (he : ES P l op T w w') (h : GP n P ops Q cs rest l w') : GP n P ops Q cs (i :: rest) l w :=
  fun a ha => opsS_s ho rfl (he.1 a.eval _ rfl rfl (fun _ _ hx => ha.eval hx)) (h _ ha)
theorem gp_nil (h : ∀ a, Fr n a l → Q .normal a cs w) : GP n P ops Q cs [] l w := fun a ha => h a ha
theorem gp_go {a : Act} {id : Nat} {ol : List Oper} (r : List Nat) (hr : List.range ol.length = r) (ha : Fr n a l) (h : GP n P ol.toArray Q cs r l w) : (Code.region id ol.toArray false).wpS P Q a cs w := by
  subst hr
  exact wpS_region (by simpa using h a ha)
end
/-- The deferred closure: nothing to recover: it stores false. -/
theorem d43 {w : World} {b : Nat} {v0 : Value} {e : TypeId} (hb : w.heap[b]? = some (.cells #[v0] e (0, 0))) :
    CallsD Tryz.prog 43 #[ptr b] .returning w (fun en u' w' => ∃ v, en = .returned v ∧ u' = .returning ∧ w' = w.setB b (.cells #[.bool false] e (0, 0))) := by
  refine callsD_of_wpS Tryz.func43 rfl fun c₀ cs' hu => ?_
  have hrec : recoverD (c₀ :: cs') = none := by simp [recoverD, hu]
  have hf0 : Fr 3 { tmps := #[ptr b] ++ Array.replicate (Tryz.f43.ntmps - (#[ptr b] : Array Value).size) undef, defers := [] } [(0, ptr b)] := by
    refine ⟨rfl, rfl, fun i v hv => ?_⟩
    simp only [look] at hv
    by_cases e' : Nat.beq 0 i = true
    · rw [if_pos e'] at hv; have := Nat.eq_of_beq_eq_true e'; subst this; rw [← hv]; rfl
    · rw [if_neg e'] at hv; cases hv
  refine gp_go [0, 1, 2] rfl hf0 ?_
  refine gp_rec rfl hrec ?_
  refine gp_v rfl (neq_nil rfl Tryz.runUnderlying20) ?_
  refine gp_s rfl (es_st rfl rfl rfl Tryz.sizeOf4 hb rfl rfl) ?_
  refine gp_nil fun a ha => ?_
  exact ⟨ha.nodef, .returning, (by rw [← hu]), .tuple #[], results_none Tryz.results43 _ _ _, _, rfl, rfl, rfl⟩

/-- 'thrown' of a closure that returns: false. -/
theorem t13 {f : FuncId} {vs : List Value} (hc : ∀ (args : Array Value) (w : World), (callFunc f args).run Tryz.prog w = .ok (.enter f args) w) {w : World} {R : World → Prop}
    (hcall : ∀ w1, Old w w1 → w1.heap[w.heap.size]? = some (.cells #[.bool false] 4 (0, 0)) → w1.heap.size = w.heap.size + 1 → CR Tryz.prog f vs.toArray w1 (fun _ w' => w'.heap[w.heap.size]? = some (.cells #[.bool false] 4 (0, 0)) ∧ R w'))
    (hR : ∀ w' o, R w' → R (w'.setB w.heap.size o)) :
    CR Tryz.prog 13 #[.func (.func f) #[] vs.toArray] w (fun v w' => v = .bool false ∧ R w') := by
  refine calls_of_wp_defers Tryz.func13 rfl ?_
  have hf0 : FD 6 [] { tmps := #[.func (.func f) #[] vs.toArray] ++ Array.replicate (Tryz.f13.ntmps - (#[.func (.func f) #[] vs.toArray] : Array Value).size) undef, defers := [] } [(0, .func (.func f) #[] vs.toArray)] := by
    refine ⟨rfl, rfl, fun i v hv => ?_⟩
    simp only [look] at hv
    by_cases e' : Nat.beq 0 i = true
    · rw [if_pos e'] at hv; have := Nat.eq_of_beq_eq_true e'; subst this; rw [← hv]; rfl
    · rw [if_neg e'] at hv; cases hv
  refine wp_seq (gd_region hf0 ?_)
  refine gd_v (ev_alloc Tryz.zeroValue4) ?_
  refine gd_nil fun a ha => ?_
  refine wp_seq (gd_region ha ?_)
  refine gd_v (ev_mkfunc (vs := [ptr w.heap.size]) rfl) ?_
  refine gd_defer rfl (fun w => by simp [Deferred.ofValue]) ?_
  refine gd_nil fun a ha => ?_
  refine wp_seq (gd_region ha ?_)
  refine gd_v (ev_mv rfl) ?_
  refine gd_call (ec_clos rfl hc) (hcall _ Old.alloc al_new al_size) ?_
  rintro v w2 ⟨h2, hR2⟩ hsm
  refine gd_nil fun a ha => ?_
  refine wp_seq (gd_region ha ?_)
  refine gd_s (es_st (cs' := #[.bool false]) rfl rfl rfl Tryz.sizeOf4 h2 rfl rfl) ?_
  refine gd_nil fun a ha => ?_
  refine wp_ret ?_
  show Leaves _ _ _ _ a.defers _ _
  rw [ha.defs]
  refine leaves_cons (f := 43) (args := #[ptr w.heap.size]) (by simp) (by simp [invoke, Tryz.call43]) ?_
  refine (d43 (sb_same h2)).mono ?_
  rintro _ _ _ ⟨v, rfl, rfl, rfl⟩
  have hv : a.tmps[2]? = some (ptr w.heap.size) := ha.val _ _ rfl
  have hb := sb_same (o := .cells #[.bool false] 4 (0, 0)) (sb_same (o := .cells #[.bool false] 4 (0, 0)) h2)
  have e1 : a.tmps[2]?.getD undef = .pointer (some ⟨w.heap.size, 0, none⟩) := by rw [hv]; rfl
  refine ⟨.bool false, ?_, _, rfl, ⟨rfl, hR _ _ (hR _ _ hR2)⟩, hsm.os, hsm.tape, hsm.out⟩
  have hcl := cell_of (i := 0) (v := .bool false) hb rfl
  simp [results, Tryz.results13, e1, asAddr, loadVar, Tryz.isAgg4, hcl]
end Go.Proofs.YtjaplgfgkigmiaaGreat
