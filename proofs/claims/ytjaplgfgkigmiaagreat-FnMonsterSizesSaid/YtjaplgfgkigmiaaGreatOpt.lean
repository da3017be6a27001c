/-
  More operations: guarded ones, comparisons with nil, boxes.
-/
import Derived.Test.YtjaplgfgkigmiaaGreatApp
namespace Go.Proofs.YtjaplgfgkigmiaaGreat
open Go

section
variable {n : Nat} {P : Program} {Q : Exit → Act → World → Prop} {k : List KItem} {l : Slots} {w : World} {T t u : TypeId} {x y z : Operand}
variable {ops : Array Oper} {rest : List Oper} {op : Op} {pos : String} {aft : Array Edge}

theorem yielded_of {a : Act} {j dj : Nat} {b : Bool} (ha : Fr n a l) (hj : (ops[j]?).bind (·.dst) = some dj) (hl : look l dj = some (.bool b)) : yielded ops a.tmps j = some b := by
  unfold yielded
  rw [hj]
  simp [ha.val _ _ hl]
theorem gr_gv {d j dj : Nat} {b b' : Bool} {v : Value} {w' : World} (hj : (ops[j]?).bind (·.dst) = some dj) (hl : look l dj = some (.bool b')) (hb : b' = b) (he : EV P l op T w v w') (h : GR n P ops Q k rest ((d, v) :: l) w') (hd : d < n := by decide) :
    GR n P ops Q k (⟨some d, op, T, pos, aft, some (j, b)⟩ :: rest) l w := fun β hβ a ha => by
  subst hb
  refine wpList_step fun K hK => ?_
  simp only [Region.wanted, yielded_of ha hj hl, beq_self_eq_true, if_true]
  unfold Oper.wp
  rw [he.1 a.eval _ rfl rfl (fun x v hx => ha.eval hx), Oper.upon_value]
  exact hK _ _ (h β (hβ.trans he.2) _ (ha.put hd v))
theorem gr_gcall {d j dj : Nat} {b b' : Bool} {f : FuncId} {args : Array Value} {R : Value → World → Prop} (hj : (ops[j]?).bind (·.dst) = some dj) (hl : look l dj = some (.bool b')) (hb : b' = b) (he : EC P l op T w f args) (hc : CR P f args w R)
    (h : ∀ v w', R v w' → GR n P ops Q k rest ((d, v) :: l) w') (hd : d < n := by decide) : GR n P ops Q k (⟨some d, op, T, pos, aft, some (j, b)⟩ :: rest) l w := fun β hβ a ha => by
  subst hb
  refine wpList_step fun K hK => ?_
  simp only [Region.wanted, yielded_of ha hj hl, beq_self_eq_true, if_true]
  unfold Oper.wp
  rw [he a.eval _ rfl rfl (fun x v hx => ha.eval hx), Oper.upon_enter]
  refine hc.mono ?_
  rintro e w' ⟨v, rfl, hR, hs⟩
  exact hK _ _ (h v w' hR β (hβ.trans hs) _ (ha.put hd v))
theorem gr_gs {d j dj : Nat} {b b' : Bool} (hj : (ops[j]?).bind (·.dst) = some dj) (hl : look l dj = some (.bool b')) (hb : b' = !b) (h : GR n P ops Q k rest ((d, undef) :: l) w) (hd : d < n := by decide) :
    GR n P ops Q k (⟨some d, op, T, pos, aft, some (j, b)⟩ :: rest) l w := fun β hβ a ha => by
  subst hb
  refine wpList_step fun K hK => ?_
  have e : (some (!b) == some b) = false := by cases b <;> rfl
  simp only [Region.wanted, yielded_of ha hj hl, e]
  exact hK _ _ (h β hβ _ (ha.put hd undef))

theorem ev_pickT {b : Bool} {v : Value} (hx : ev l x = some (.bool b)) (hb : b = true) (hy : ev l y = some v) : EV P l (.pick x y z) T w v w := ev_of <| fun ρ o ho _ hρ => by
  subst hb
  simp [execOp, ho, hρ _ _ hx, hρ _ _ hy, asBool]
theorem ev_pickF {b : Bool} {v : Value} (hx : ev l x = some (.bool b)) (hb : b = false) (hz : ev l z = some v) : EV P l (.pick x y z) T w v w := ev_of <| fun ρ o ho _ hρ => by
  subst hb
  simp [execOp, ho, hρ _ _ hx, hρ _ _ hz, asBool]

theorem eqIn_slice {e : Nat} {a : Option Addr} {m c : Nat} (hT : ∀ w, (underlying t).run P w = .ok (.slice e) w) (w : World) : (Op.equal t (.slice a m c) (.slice none 0 0)).run P w = .ok a.isNone w := by
  unfold Op.equal
  rw [show Op.maxDepth = 9999 + 1 from rfl, Op.equalIn]
  cases a <;> simp [hT]
theorem ev_sliceeql {e : Nat} {a : Option Addr} {m c : Nat} (hx : ev l x = some (.slice a m c)) (hy : ev l y = some (.slice none 0 0)) (hT : ∀ w, (underlying t).run P w = .ok (.slice e) w) :
    EV P l (.binOp .eql t x y u) T w (.bool a.isNone) w := ev_of <| fun ρ o ho _ hρ => by
  simp [execOp, ho, hρ _ _ hx, hρ _ _ hy, eqGuard, binOp, eqIn_slice hT]
theorem ev_sliceneq {e : Nat} {a : Option Addr} {m c : Nat} (hx : ev l x = some (.slice a m c)) (hy : ev l y = some (.slice none 0 0)) (hT : ∀ w, (underlying t).run P w = .ok (.slice e) w) :
    EV P l (.binOp .neq t x y u) T w (.bool (!a.isNone)) w := ev_of <| fun ρ o ho _ hρ => by
  simp [execOp, ho, hρ _ _ hx, hρ _ _ hy, eqGuard, binOp, eqIn_slice hT]
theorem eqIn_ptr {e : Nat} {a : Option Addr} (hT : ∀ w, (underlying t).run P w = .ok (.pointer e) w) (w : World) : (Op.equal t (.pointer a) (.pointer none)).run P w = .ok a.isNone w := by
  unfold Op.equal
  rw [show Op.maxDepth = 9999 + 1 from rfl, Op.equalIn]
  cases a <;> simp [hT]
theorem ev_pointereql {e : Nat} {a : Option Addr} (hx : ev l x = some (.pointer a)) (hy : ev l y = some (.pointer none)) (hT : ∀ w, (underlying t).run P w = .ok (.pointer e) w) :
    EV P l (.binOp .eql t x y u) T w (.bool a.isNone) w := ev_of <| fun ρ o ho _ hρ => by
  simp [execOp, ho, hρ _ _ hx, hρ _ _ hy, eqGuard, binOp, eqIn_ptr hT]
theorem ev_pointerneq {e : Nat} {a : Option Addr} (hx : ev l x = some (.pointer a)) (hy : ev l y = some (.pointer none)) (hT : ∀ w, (underlying t).run P w = .ok (.pointer e) w) :
    EV P l (.binOp .neq t x y u) T w (.bool (!a.isNone)) w := ev_of <| fun ρ o ho _ hρ => by
  simp [execOp, ho, hρ _ _ hx, hρ _ _ hy, eqGuard, binOp, eqIn_ptr hT]
end
end Go.Proofs.YtjaplgfgkigmiaaGreat
