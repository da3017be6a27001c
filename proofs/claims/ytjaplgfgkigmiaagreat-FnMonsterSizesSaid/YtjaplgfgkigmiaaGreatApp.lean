/-
  append, to a row whose elements take any number of cells.
-/
import Derived.Test.YtjaplgfgkigmiaaGreatDraw
namespace Go.Proofs.YtjaplgfgkigmiaaGreat
open Go

theorem growBy_le (n : Nat) : ∀ (r c : Nat), Builtin.growBy n r c ≤ (c + 768) * 2 ^ r
  | 0, c => by simp [Builtin.growBy]
  | r + 1, c => by
    rw [Builtin.growBy]
    split
    · have h1 : 1 ≤ 2 ^ (r + 1) := Nat.one_le_two_pow
      have h2 := Nat.mul_le_mul_left (c + 768) h1
      generalize (c + 768) * 2 ^ (r + 1) = X at *
      rw [Nat.mul_one] at h2
      exact Nat.le_trans (Nat.le_add_right c 768) h2
    · have h := growBy_le n r (c + (c + 768) / 4)
      have : (c + (c + 768) / 4 + 768) * 2 ^ r ≤ ((c + 768) * 2) * 2 ^ r := Nat.mul_le_mul_right _ (by omega)
      rw [Nat.pow_succ, Nat.mul_comm (2 ^ r) 2, ← Nat.mul_assoc]
      exact Nat.le_trans h this
theorem nextcap_le {need cap : Nat} (h : cap < need) : Builtin.nextslicecap need cap ≤ (need + 768) * 16 := by
  unfold Builtin.nextslicecap
  split
  · omega
  · split
    · omega
    · have h := growBy_le need 4 cap
      rw [show (2 : Nat) ^ 4 = 16 from rfl] at h
      exact Nat.le_trans h (Nat.mul_le_mul_right _ (by omega))

def firstRun (P : Program) (w : World) (sz n : Nat) (v : Value) (cs : Array Value) : Prop := ∀ w', w'.heap = w.heap → (Builtin.firstCells sz n v).run P w' = .ok cs w'

theorem first_nil {P : Program} {w : World} {sz n len cap : Nat} : firstRun P w sz n (.slice none len cap) #[] := fun w' _ => by simp [Builtin.firstCells]
theorem first_row {P : Program} {w : World} {sz n len cap b o : Nat} {cs : Array Value} {e : TypeId} {fz : Nat × Nat} (hb : w.heap[b]? = some (.cells cs e fz)) (hl : o + n * sz ≤ cs.size) :
    firstRun P w sz n (.slice (some ⟨b, o, none⟩) len cap) (cs.extract o (o + n * sz)) := fun w' hw => by
  have hb' : w'.heap[b]? = some (.cells cs e fz) := by rw [hw]; exact hb
  have := loadCellsFrom_run (P := P) (w := w') (i := o) hb' (n * sz) 0 #[] (by omega)
  simp only [Nat.add_zero, Array.empty_append] at this
  simp [Builtin.firstCells, loadCells, this]

section
variable {P : Program} {l : Slots} {w : World} {T t t2 : TypeId} {x y : Operand}

/-- What append comes to; nothing else is touched. -/
def AppRun (P : Program) (T : TypeId) (ats : Array TypeId) (args : Array Value) (w : World) (r : Value) (w' : World) : Prop := (Builtin.append_ ats T args).run P w = .ok r w' ∧ SameO w w'
/-- It grows: some capacity, and a new row. -/
theorem run_append_grow {base : Option Addr} {len cap n e sz need : Nat} {v2 z : Value} {i : TypeInfo} {old new : Array Value} {ats : Array TypeId} {e2 : Nat} (h0 : ats[0]? = some t) (h2 : ats[1]? = some t2)
    (hT : ∀ w, (underlying t).run P w = .ok (.slice e) w) (hT2 : ∀ w, (underlying t2).run P w = .ok (.slice e2) w) (hi : ∀ w, (typeInfo e).run P w = .ok i w) (hs : ∀ w, (sizeOf e).run P w = .ok sz w)
    (hz : ∀ w, (zeroValue e).run P w = .ok z w) (hn : ∀ w, (Builtin.lenOf v2).run P w = .ok n w) (hneed : len + n = need) (hcap : cap < need) (hsmall : need * i.bytes ≤ 1000000000000) (hbig : need ≤ 1000000000000) (hib : i.bytes ≤ 10000)
    (hold : firstRun P w sz len (.slice base len cap) old) (hnew : firstRun P w sz n v2 new) :
    ∃ c, need ≤ c ∧ AppRun P T ats #[.slice base len cap, v2] w (.slice (some ⟨w.heap.size, 0, none⟩) need c) (w.drew.alloc (.cells (old ++ new ++ Builtin.zeroCells z.cells (c - need)) e)) := by
  refine ⟨Question.cut (.appendCap need cap e) (w.tape w.drawn (.appendCap need cap e)), by simp only [Question.cut]; omega, ?_, rfl, rfl, rfl⟩
  generalize hc : Question.cut (.appendCap need cap e) (w.tape w.drawn (.appendCap need cap e)) = c
  have hle := nextcap_le hcap
  have c1 : ¬ Builtin.nextslicecap need cap * i.bytes > 2 ^ 48 := by
    have h1 : Builtin.nextslicecap need cap * i.bytes ≤ (need + 768) * 16 * i.bytes := Nat.mul_le_mul_right _ hle
    have h2 : (need + 768) * 16 * i.bytes = 16 * (need * i.bytes) + 12288 * i.bytes := by
      rw [Nat.add_mul, Nat.add_mul, Nat.mul_comm need 16, Nat.mul_assoc]
    omega
  have c2 : ¬ (need ≤ cap) := by omega
  have hold' := hold w.drew rfl
  have hnew' := hnew w.drew rfl
  subst hneed
  have c3 : ¬ (9223372036854775807 < (len : Int) + (n : Int) ∧ i.bytes = 0) := by omega
  have hf : (Question.appendCap (len + n) cap e).forced = false := rfl
  unfold Builtin.append_
  simp [h0, h2, hT, hT2, hi, hs, hz, hn, c1, c2, c3, hf, hold', hnew', hc, newRow]

variable {n : Nat} {Q : Exit → Act → World → Prop} {k : List KItem} {ops : Array Oper} {rest : List Oper} {pos : String} {aft : Array Edge} {S : World → Prop} {fuel : Nat} {listed : Array Bool}

theorem ev_append {s v2 r : Value} {w' : World} {ats : Array TypeId} (hx : ev l x = some s) (hy : ev l y = some v2) (hr : AppRun P T ats #[s, v2] w r w') :
    EV P l (.call ⟨.builtin .append, #[x, y], ats⟩) T w r w' := by
  obtain ⟨hr, hs⟩ := hr
  refine ev_of (fun ρ o ho hT hρ => ?_) hs
  subst hT
  simp [execOp, ho, resolve, invoke, builtin, hρ _ _ hx, hρ _ _ hy, hr]

/-- It fits. -/
theorem run_append_fits {b off len cap m e sz need : Nat} {v2 : Value} {new cs cs' : Array Value} {e1 : TypeId} {ats : Array TypeId} {e2 : Nat} (h0 : ats[0]? = some t) (h2 : ats[1]? = some t2)
    (hT : ∀ w, (underlying t).run P w = .ok (.slice e) w) (hT2 : ∀ w, (underlying t2).run P w = .ok (.slice e2) w) (hs : ∀ w, (sizeOf e).run P w = .ok sz w)
    (hn : ∀ w, (Builtin.lenOf v2).run P w = .ok m w) (hneed : len + m = need) (hcap : need ≤ cap) (hnew : firstRun P w sz m v2 new)
    (hb : w.heap[b]? = some (.cells cs e1 (0, 0))) (h1 : ∀ v ∈ new.toList, one v = true) (hl : off + len * sz + new.size ≤ cs.size) (hc : setMany cs (off + len * sz) new.toList = cs') :
    AppRun P T ats #[.slice (some ⟨b, off, none⟩) len cap, v2] w (.slice (some ⟨b, off, none⟩) need cap) (w.setB b (.cells cs' e1 (0, 0))) := by
  refine ⟨?_, rfl, rfl, rfl⟩
  subst hneed hc
  have hnew' := hnew w rfl
  have hst := run_storeCells (P := P) (i := off + len * sz) new.toList 0 w cs hb h1 (by simpa using hl)
  simp only [Nat.add_zero] at hst
  unfold Builtin.append_
  simp [h0, h2, hT, hT2, hs, hn, hcap, hnew', ok_shift, hst]
end
end Go.Proofs.YtjaplgfgkigmiaaGreat
