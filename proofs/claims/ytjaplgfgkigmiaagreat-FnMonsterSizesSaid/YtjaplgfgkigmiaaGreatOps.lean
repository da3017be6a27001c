/-
  One lemma an operation: what it yields, from what its operands hold.
-/
import Derived.Test.YtjaplgfgkigmiaaGreatEng
namespace Go.Proofs.YtjaplgfgkigmiaaGreat
open Go

/-! ### Worlds by blocks -/
def _root_.Go.World.setB (w : World) (b : Nat) (o : Obj) : World := { w with heap := w.heap.setIfInBounds b o }

section worlds
variable {w : World} {b c : Nat} {o x : Obj}
theorem sb_same (h : w.heap[b]? = some x) : (w.setB b o).heap[b]? = some o := by
  have hb : b < w.heap.size := by
    rcases Nat.lt_or_ge b w.heap.size with h' | h'
    · exact h'
    · simp [Array.getElem?_eq_none h'] at h
  simp [World.setB, Array.getElem?_setIfInBounds_self_of_lt hb]
theorem sb_ne (hn : b ≠ c) (h : w.heap[c]? = some x) : (w.setB b o).heap[c]? = some x := by
  simp [World.setB, Array.getElem?_setIfInBounds_ne hn, h]
theorem sb_size : (w.setB b o).heap.size = w.heap.size := by simp [World.setB]
theorem al_new : (w.alloc o).heap[w.heap.size]? = some o := by
  show (w.heap.push o)[w.heap.size]? = some o
  simp
theorem al_old (h : w.heap[c]? = some x) : (w.alloc o).heap[c]? = some x := by
  have hb : c < w.heap.size := by
    rcases Nat.lt_or_ge c w.heap.size with h' | h'
    · exact h'
    · simp [Array.getElem?_eq_none h'] at h
  show (w.heap.push o)[c]? = some x
  rw [Array.getElem?_push_lt hb]
  rw [Array.getElem?_eq_getElem hb] at h
  exact h
theorem al_size : (w.alloc o).heap.size = w.heap.size + 1 := World.size_alloc w o
theorem lt_of_heap (h : w.heap[c]? = some x) : c < w.heap.size := by
  rcases Nat.lt_or_ge c w.heap.size with h' | h'
  · exact h'
  · simp [Array.getElem?_eq_none h'] at h
theorem dr_heap (h : w.heap[c]? = some x) : w.drew.heap[c]? = some x := h
theorem sb_sb {o' : Obj} : (w.setB b o).setB b o' = w.setB b o' := by
  simp [World.setB]

theorem cell_of {cs : Array Value} {e : TypeId} {f : Nat × Nat} {i : Nat} {v : Value} (h : w.heap[b]? = some (.cells cs e f)) (hi : cs[i]? = some v) : w.cell? ⟨b, i, none⟩ = some v := by
  simp [World.cell?, h, hi]
theorem frozen_of {cs : Array Value} {e : TypeId} {lo hi i : Nat} (h : w.heap[b]? = some (.cells cs e (lo, hi))) (hf : hi ≤ i ∨ i < lo) : w.frozen? ⟨b, i, none⟩ = false := by
  simp only [World.frozen?, h, Bool.and_eq_false_iff, decide_eq_false_iff_not]; omega
theorem setCell_of {cs : Array Value} {e : TypeId} {f : Nat × Nat} {i : Nat} {v : Value} (h : w.heap[b]? = some (.cells cs e f)) : w.setCell ⟨b, i, none⟩ v = w.setB b (.cells (cs.setIfInBounds i v) e f) := by
  have hb := lt_of_heap h
  have hg : w.heap[b] = .cells cs e f := by
    rw [Array.getElem?_eq_getElem hb] at h; exact Option.some.inj h
  simp only [World.setCell, World.setB]
  congr 1
  apply Array.ext
  · simp
  · intro j h1 h2
    have hj : j < w.heap.size := by simpa using h1
    rw [Array.getElem_modify]
    by_cases e' : b = j
    · subst e'; simp [hg]
    · rw [if_neg e']
      rw [Array.getElem_setIfInBounds_ne (by simpa using hj) e']
end worlds

section
variable {P : Program} {l : Slots} {w : World} {T : TypeId} {x y z : Operand}

theorem ev_mv {v : Value} (hx : ev l x = some v) : EV P l (.move x) T w v w := ev_of <| fun ρ o ho _ h => by simp [execOp, ho, h _ _ hx]
theorem ev_as {v : Value} (hx : ev l x = some v) : EV P l (.assign x) T w v w := ev_of <| fun ρ o ho _ h => by simp [execOp, ho, h _ _ hx]
theorem ev_nil {a : Addr} (hx : ev l x = some (.pointer (some a))) : EV P l (.nilCheck x) T w (.pointer (some a)) w := ev_of <| fun ρ o ho _ h => by simp [execOp, ho, h _ _ hx]

theorem ev_fa {S f b i j s : Nat} {fs : Array Field} {fd : Field} (hx : ev l x = some (.pointer (some ⟨b, i, none⟩))) (hS : ∀ w, (underlying S).run P w = .ok (.struct fs) w) (hf : fs[f]? = some fd)
    (hs : ∀ w, (sizeOf fd.type).run P w = .ok s w) (hs0 : Nat.beq s 0 = false) (hj : i + fd.offset = j) : EV P l (.fieldAddr S x f) T w (.pointer (some ⟨b, j, none⟩)) w := ev_of <| fun ρ o ho _ h => by
  have hs1 : s ≠ 0 := fun e => by rw [e] at hs0; simp at hs0
  simp only [execOp, ho, h _ _ hx, Instr.fieldAt]
  simp only [Sem.run_bind, Result.andThen, hS, hf, Instr.sureAddr, fieldPlace, hs, Sem.run_pure, hs1, if_false]
  subst hj
  unfold Addr.add
  by_cases e : fd.offset = 0 <;> simp [e]

theorem ev_ld {t b i : Nat} {cs : Array Value} {e : TypeId} {fz : Nat × Nat} {v : Value} (hx : ev l x = some (.pointer (some ⟨b, i, none⟩))) (hA : ∀ w, (isAgg t).run P w = .ok false w)
    (hb : w.heap[b]? = some (.cells cs e fz)) (hi : cs[i]? = some v) : EV P l (.load t x) T w v w := ev_of <| fun ρ o ho _ h => by
  simp only [execOp, ho, h _ _ hx, Instr.loadAt]
  simp [Instr.sureAddr, loadVar, hA, cell_of hb hi]

theorem loadCellsFrom_run {b : Nat} {cs : Array Value} {e : TypeId} {fz : Nat × Nat} {i : Nat} (hb : w.heap[b]? = some (.cells cs e fz)) :
    ∀ (m s : Nat) (acc : Array Value), i + s + m ≤ cs.size → (loadCellsFrom ⟨b, i, none⟩ s m acc).run P w = .ok (acc ++ cs.extract (i + s) (i + s + m)) w
  | 0, s, acc, _ => by
    have : cs.extract (i + s) (i + s + 0) = #[] := by apply Array.ext <;> simp; omega
    rw [this]; simp [loadCellsFrom]
  | m + 1, s, acc, h => by
    have h1 : cs[i + s]? = some cs[i + s] := Array.getElem?_eq_getElem (by omega)
    have ha : (⟨b, i, none⟩ : Addr).add s = ⟨b, i + s, none⟩ := by unfold Addr.add; by_cases e : s = 0 <;> simp [e]
    simp only [loadCellsFrom, Sem.run_bind, ha, run_load, cell_of hb h1, Result.andThen]
    rw [loadCellsFrom_run hb m (s + 1) _ (by omega)]
    congr 1
    apply Array.ext
    · simp; omega
    · intro j h2 h3
      simp only [Array.getElem_append, Array.size_push, Array.getElem_push, Array.getElem_extract]
      by_cases c1 : j < acc.size
      · simp [c1, Nat.lt_succ_of_lt c1]
      · by_cases c2 : j = acc.size
        · subst c2; simp
        · have : ¬ j < acc.size + 1 := by omega
          simp only [this, c1, dite_false]
          congr 1; omega

theorem ev_lda {t b i s : Nat} {cs : Array Value} {e : TypeId} {fz : Nat × Nat} (hx : ev l x = some (.pointer (some ⟨b, i, none⟩))) (hA : ∀ w, (isAgg t).run P w = .ok true w)
    (hs : ∀ w, (sizeOf t).run P w = .ok s w) (hb : w.heap[b]? = some (.cells cs e fz)) (hi : i + s ≤ cs.size) : EV P l (.load t x) T w (.agg (cs.extract i (i + s))) w := ev_of <| fun ρ o ho _ h => by
  simp only [execOp, ho, h _ _ hx, Instr.loadAt]
  simp [Instr.sureAddr, loadVar, hA, hs, loadCells, loadCellsFrom_run hb s 0 #[] (by omega)]

/-- One cell's value. -/
def one : Value → Bool
  | .agg _ => false
  | .tuple _ => false
  | _ => true
theorem cells_one {v : Value} (h : one v = true) : v.cells = #[v] := by cases v <;> simp_all [one, Value.cells]

theorem run_store1 {b i : Nat} {cs : Array Value} {e : TypeId} {lo hh : Nat} {v : Value} (h1 : one v = true) (hb : w.heap[b]? = some (.cells cs e (lo, hh))) (hi : i < cs.size) (hf : hh ≤ i ∨ i < lo) :
    (store ⟨b, i, none⟩ v).run P w = .ok () (w.setB b (.cells (cs.setIfInBounds i v) e (lo, hh))) := by
  have hc := cell_of (w := w) hb (Array.getElem?_eq_getElem hi)
  have hz := frozen_of (w := w) hb hf
  rw [← setCell_of hb]
  cases v <;> simp_all [one, store, Sem.run]

theorem es_st {t b i : Nat} {cs cs' : Array Value} {e : TypeId} {v : Value} (hx : ev l x = some (.pointer (some ⟨b, i, none⟩))) (hy : ev l y = some v) (h1 : one v = true)
    (hs : ∀ w, (sizeOf t).run P w = .ok 1 w) (hb : w.heap[b]? = some (.cells cs e (0, 0))) (hi : Nat.blt i cs.size = true) (hc : cs.setIfInBounds i v = cs') :
    ES P l (.store t x y) T w (w.setB b (.cells cs' e (0, 0))) := es_of <| fun ρ o ho _ h => by
  subst hc
  have hi' : i < cs.size := by simpa [Nat.blt_eq] using hi
  simp only [execOp, ho, h _ _ hx, h _ _ hy, Instr.storeAt]
  have ha : (⟨b, i, none⟩ : Addr).add 0 = ⟨b, i, none⟩ := rfl
  simp [Instr.sureAddr, storeVar, hs, cells_one h1, storeCells, ha, run_store1 h1 hb hi' (.inl (Nat.zero_le _))]

theorem gr_st {n : Nat} {Q : Exit → Act → World → Prop} {k : List KItem} {ops : Array Oper} {rest : List Oper} {pos : String} {aft : Array Edge} {t b i : Nat} {cs cs' : Array Value} {e : TypeId} {v : Value}
    (hx : ev l x = some (.pointer (some ⟨b, i, none⟩))) (hy : ev l y = some v) (h1 : one v = true)
    (hs : ∀ w, (sizeOf t).run P w = .ok 1 w) (hb : w.heap[b]? = some (.cells cs e (0, 0))) (hi : Nat.blt i cs.size = true) (hc : cs.setIfInBounds i v = cs')
    (h : ∀ w', w' = w.setB b (.cells cs' e (0, 0)) → w'.heap[b]? = some (.cells cs' e (0, 0)) → GR n P ops Q k rest l w') : GR n P ops Q k (⟨none, .store t x y, T, pos, aft, none⟩ :: rest) l w :=
  gr_s (es_st hx hy h1 hs hb hi hc) (h _ rfl (sb_same hb))

theorem sb_new {w w1 : World} {b : Nat} {o x : Obj} (hw : w1 = w.setB b o) (h : w.heap[b]? = some x) : w1.heap[b]? = some o := by subst hw; exact sb_same h
theorem sb_at {w w1 : World} {b c : Nat} {o x : Obj} (hw : w1 = w.setB b o) (hn : b ≠ c) (h : w.heap[c]? = some x) : w1.heap[c]? = some x := by subst hw; exact sb_ne hn h

/-! ints -/
theorem w_i64 {n : Int} (h0 : -9223372036854775808 ≤ n) (h1 : n < 9223372036854775808) : IntKind.wrap .i64 n = n := by
  simp [IntKind.wrap, IntKind.bits, IntKind.signed]; omega
theorem w_i32 {n : Int} (h0 : -2147483648 ≤ n) (h1 : n < 2147483648) : IntKind.wrap .i32 n = n := by
  simp [IntKind.wrap, IntKind.bits, IntKind.signed]; omega
theorem w_u32 {n : Int} (h0 : 0 ≤ n) (h1 : n < 4294967296) : IntKind.wrap .u32 n = n := by
  simp [IntKind.wrap, IntKind.bits, IntKind.signed]; omega
theorem w_u16 {n : Int} (h0 : 0 ≤ n) (h1 : n < 65536) : IntKind.wrap .u16 n = n := by
  simp [IntKind.wrap, IntKind.bits, IntKind.signed]; omega
theorem w_u8 {n : Int} (h0 : 0 ≤ n) (h1 : n < 256) : IntKind.wrap .u8 n = n := by
  simp [IntKind.wrap, IntKind.bits, IntKind.signed]; omega
theorem w_u64 {n : Int} (h0 : 0 ≤ n) (h1 : n < 18446744073709551616) : IntKind.wrap .u64 n = n := by
  simp [IntKind.wrap, IntKind.bits, IntKind.signed]; omega

variable {t u : TypeId} {kd : IntKind} {m n r : Int}
theorem ev_add (hx : ev l x = some (.int kd m)) (hy : ev l y = some (.int kd n)) (h : kd.wrap (m + n) = r) : EV P l (.binOp .add t x y u) T w (.int kd r) w := ev_of <| fun ρ o ho _ hρ => by
  simp [execOp, ho, hρ _ _ hx, hρ _ _ hy, eqGuard, binOp, Op.intArith, h]
theorem ev_sub (hx : ev l x = some (.int kd m)) (hy : ev l y = some (.int kd n)) (h : kd.wrap (m - n) = r) : EV P l (.binOp .sub t x y u) T w (.int kd r) w := ev_of <| fun ρ o ho _ hρ => by
  simp [execOp, ho, hρ _ _ hx, hρ _ _ hy, eqGuard, binOp, Op.intArith, h]
theorem ev_mul (hx : ev l x = some (.int kd m)) (hy : ev l y = some (.int kd n)) (h : kd.wrap (m * n) = r) : EV P l (.binOp .mul t x y u) T w (.int kd r) w := ev_of <| fun ρ o ho _ hρ => by
  simp [execOp, ho, hρ _ _ hx, hρ _ _ hy, eqGuard, binOp, Op.intArith, h]
theorem ev_lss (hx : ev l x = some (.int kd m)) (hy : ev l y = some (.int kd n)) : EV P l (.binOp .lss t x y u) T w (.bool (decide (m < n))) w := ev_of <| fun ρ o ho _ hρ => by
  simp [execOp, ho, hρ _ _ hx, hρ _ _ hy, eqGuard, binOp, Op.intCmp]
theorem ev_leq (hx : ev l x = some (.int kd m)) (hy : ev l y = some (.int kd n)) : EV P l (.binOp .leq t x y u) T w (.bool (decide (m ≤ n))) w := ev_of <| fun ρ o ho _ hρ => by
  simp [execOp, ho, hρ _ _ hx, hρ _ _ hy, eqGuard, binOp, Op.intCmp]
theorem ev_gtr (hx : ev l x = some (.int kd m)) (hy : ev l y = some (.int kd n)) : EV P l (.binOp .gtr t x y u) T w (.bool (decide (m > n))) w := ev_of <| fun ρ o ho _ hρ => by
  simp [execOp, ho, hρ _ _ hx, hρ _ _ hy, eqGuard, binOp, Op.intCmp]
theorem ev_geq (hx : ev l x = some (.int kd m)) (hy : ev l y = some (.int kd n)) : EV P l (.binOp .geq t x y u) T w (.bool (decide (m ≥ n))) w := ev_of <| fun ρ o ho _ hρ => by
  simp [execOp, ho, hρ _ _ hx, hρ _ _ hy, eqGuard, binOp, Op.intCmp]
theorem ev_eql (hx : ev l x = some (.int kd m)) (hy : ev l y = some (.int kd n)) : EV P l (.binOp .eql t x y u) T w (.bool (m == n)) w := ev_of <| fun ρ o ho _ hρ => by
  simp [execOp, ho, hρ _ _ hx, hρ _ _ hy, eqGuard, binOp, Op.intCmp]
theorem ev_neq (hx : ev l x = some (.int kd m)) (hy : ev l y = some (.int kd n)) : EV P l (.binOp .neq t x y u) T w (.bool (m != n)) w := ev_of <| fun ρ o ho _ hρ => by
  simp [execOp, ho, hρ _ _ hx, hρ _ _ hy, eqGuard, binOp, Op.intCmp]
theorem ev_cv {k' : IntKind} {s : TypeId} (hx : ev l x = some (.int kd m)) (hS : ∃ d, ∀ w, (underlying s).run P w = .ok d w) (hD : ∀ w, (underlying t).run P w = .ok (.int k') w) (h : k'.wrap m = r) : EV P l (.convert s t x) T w (.int k' r) w := ev_of <| fun ρ o ho _ hρ => by
  obtain ⟨d, hS⟩ := hS
  simp only [execOp, ho, hρ _ _ hx, convert]
  simp [hS, hD, Conv.intToInt, h]
theorem ev_not {b : Bool} (hx : ev l x = some (.bool b)) : EV P l (.unOp .not t x) T w (.bool (!b)) w := ev_of <| fun ρ o ho _ hρ => by
  simp [execOp, ho, hρ _ _ hx, Op.unary]
theorem ev_pick {b : Bool} {v u' : Value} (hx : ev l x = some (.bool b)) (hy : ev l y = some v) (hz : ev l z = some u') : EV P l (.pick x y z) T w (if b then v else u') w := ev_of <| fun ρ o ho _ hρ => by
  simp [execOp, ho, hρ _ _ hx, hρ _ _ hy, hρ _ _ hz, asBool]

/-! slices -/
theorem ev_ix {b off len cap e s : Nat} {a' : Nat} (hx : ev l x = some (.slice (some ⟨b, off, none⟩) len cap)) (hy : ev l y = some (.int kd m)) (hT : ∀ w, (underlying t).run P w = .ok (.slice e) w)
    (hs : ∀ w, (sizeOf e).run P w = .ok s w) (h0 : 0 ≤ m) (h1 : m < len) (ha : off + m.toNat * s = a') : EV P l (.indexAddr t x y) T w (.pointer (some ⟨b, a', none⟩)) w := ev_of <| fun ρ o ho _ hρ => by
  subst ha
  have e1 : 0 ≤ m ∧ m < (len : Int) := ⟨h0, h1⟩
  simp only [execOp, ho, hρ _ _ hx, hρ _ _ hy, Instr.indexAt]
  simp [asIntOf, hT, hs, e1]
  unfold Addr.add
  by_cases e' : m.toNat * s = 0 <;> simp [e']

theorem ev_len {b : Option Addr} {len cap : Nat} {ats : Array TypeId} (hx : ev l x = some (.slice b len cap)) (hT : ∃ t0, ats[0]? = some t0 ∧ ∃ e, ∀ w, (underlying t0).run P w = .ok (.slice e) w) :
    EV P l (.call ⟨.builtin .len, #[x], ats⟩) T w (.int .i64 len) w := ev_of <| fun ρ o ho _ hρ => by
  obtain ⟨t0, h0, e, he⟩ := hT
  simp [execOp, ho, resolve, invoke, builtin, hρ _ _ hx, Builtin.len_, h0, he, goInt]
theorem ev_cap {b : Option Addr} {len cap : Nat} {ats : Array TypeId} (hx : ev l x = some (.slice b len cap)) (hT : ∃ t0, ats[0]? = some t0 ∧ ∃ e, ∀ w, (underlying t0).run P w = .ok (.slice e) w) :
    EV P l (.call ⟨.builtin .cap, #[x], ats⟩) T w (.int .i64 cap) w := ev_of <| fun ρ o ho _ hρ => by
  obtain ⟨t0, h0, e, he⟩ := hT
  simp [execOp, ho, resolve, invoke, builtin, hρ _ _ hx, Builtin.cap_, h0, he, goInt]
theorem ev_lens {s : ByteArray} {ats : Array TypeId} (hx : ev l x = some (.string s)) (hT : ∃ t0, ats[0]? = some t0 ∧ ∀ w, (underlying t0).run P w = .ok .string w) :
    EV P l (.call ⟨.builtin .len, #[x], ats⟩) T w (.int .i64 s.size) w := ev_of <| fun ρ o ho _ hρ => by
  obtain ⟨t0, h0, he⟩ := hT
  simp [execOp, ho, resolve, invoke, builtin, hρ _ _ hx, Builtin.len_, h0, he, goInt]

/-- 'x[lo:]', lo below the capacity. -/
theorem ev_slo {b off len cap e : Nat} {a' : Nat} (hx : ev l x = some (.slice (some ⟨b, off, none⟩) len cap)) (hy : ev l y = some (.int kd m)) (hT : ∀ w, (underlying t).run P w = .ok (.slice e) w)
    (hs : ∀ w, (sizeOf e).run P w = .ok 1 w) (h0 : 0 ≤ m) (h1 : m ≤ len) (h2 : m < cap) (ha : off + m.toNat = a') :
    EV P l (.slice t x (some y) none none) T w (.slice (some ⟨b, a', none⟩) (len - m.toNat) (cap - m.toNat)) w := ev_of <| fun ρ o ho _ hρ => by
  subst ha
  have e1 : 0 ≤ m ∧ m ≤ (len : Int) := ⟨h0, h1⟩
  have e2 : ¬ cap = m.toNat := by omega
  simp only [execOp, ho, hρ _ _ hx, Option.map_some, Option.map_none, hρ _ _ hy, Instr.sliceAt]
  simp [hT, Instr.slice, Instr.sliceBounds, Instr.sliceBound, asIntOf, e1, hs, e2]
  unfold Addr.add
  by_cases e' : m.toNat = 0 <;> simp [e']
/-- 'x[:hi]'. -/
theorem ev_shi {a : Option Addr} {len cap e s : Nat} (hx : ev l x = some (.slice a len cap)) (hy : ev l y = some (.int kd m)) (hT : ∀ w, (underlying t).run P w = .ok (.slice e) w)
    (hs : ∀ w, (sizeOf e).run P w = .ok s w) (h0 : 0 ≤ m) (h1 : m ≤ cap) :
    EV P l (.slice t x none (some y) none) T w (.slice a m.toNat cap) w := ev_of <| fun ρ o ho _ hρ => by
  have e1 : 0 ≤ m ∧ m ≤ (cap : Int) := ⟨h0, h1⟩
  simp only [execOp, ho, hρ _ _ hx, Option.map_some, Option.map_none, hρ _ _ hy, Instr.sliceAt]
  simp [hT, Instr.slice, Instr.sliceBounds, Instr.sliceBound, asIntOf, e1, hs]
  cases a with
  | none => simp
  | some a => simp [Addr.add]
/-- 'x[lo:hi]'. -/
theorem ev_slh {b off len cap e : Nat} {a' : Nat} {kd' : IntKind} {n' : Int} (hx : ev l x = some (.slice (some ⟨b, off, none⟩) len cap)) (hy : ev l y = some (.int kd m)) (hz : ev l z = some (.int kd' n')) (hT : ∀ w, (underlying t).run P w = .ok (.slice e) w)
    (hs : ∀ w, (sizeOf e).run P w = .ok 1 w) (h0 : 0 ≤ m) (h1 : m ≤ n') (h2 : n' ≤ cap) (h3 : m < cap) (ha : off + m.toNat = a') :
    EV P l (.slice t x (some y) (some z) none) T w (.slice (some ⟨b, a', none⟩) (n'.toNat - m.toNat) (cap - m.toNat)) w := ev_of <| fun ρ o ho _ hρ => by
  subst ha
  have e1 : 0 ≤ n' ∧ n' ≤ (cap : Int) := ⟨by omega, h2⟩
  have e3 : 0 ≤ m ∧ m ≤ ((n'.toNat : Nat) : Int) := ⟨h0, by omega⟩
  have e2 : ¬ cap = m.toNat := by omega
  simp only [execOp, ho, hρ _ _ hx, Option.map_some, Option.map_none, hρ _ _ hy, hρ _ _ hz, Instr.sliceAt]
  simp only [hT, Instr.slice, Instr.sliceBounds, Instr.sliceBound, asIntOf, hs, Sem.run_bind, Sem.run_pure, Result.andThen_ok, if_pos e1, if_pos e3, if_neg e2]
  simp
  unfold Addr.add
  by_cases e' : m.toNat = 0 <;> simp [e']

theorem ev_shr {c : Int} {kd' : IntKind} (hx : ev l x = some (.int kd m)) (hy : ev l y = some (.int kd' c)) (h0 : decide (0 ≤ c) = true) (h1 : decide (c.toNat ≤ kd.bits) = true) (h : m.fdiv (2 ^ c.toNat) = r) :
    EV P l (.binOp .shr t x y u) T w (.int kd r) w := ev_of <| fun ρ o ho _ hρ => by
  have h0' : ¬ c < 0 := by have := of_decide_eq_true h0; omega
  have h1' : min c.toNat kd.bits = c.toNat := Nat.min_eq_left (of_decide_eq_true h1)
  simp [execOp, ho, hρ _ _ hx, hρ _ _ hy, eqGuard, binOp, Op.shift, h0', h1', h]
/-- A body-less function that the model computes. -/
theorem ev_ext {f : FuncId} {xs : List Operand} {ats : Array TypeId} {vs : List Value} {v : Value} (hx : evs l xs = some vs) (hc : (callFunc f vs.toArray).run P w = .ok (.value v) w) :
    EV P l (.call ⟨.value (.func f), xs.toArray, ats⟩) T w v w := by
  refine ev_of ?_
  intro ρ o ho hT hρ
  have hf : ρ (.func f) = .func (.func f) #[] #[] := hρ _ _ rfl
  have hm := evs_map hρ hx
  unfold execOp
  rw [ho]
  simp [resolve, hf, Deferred.ofValue, invoke, hm, hc]

theorem ev_and (hx : ev l x = some (.int kd m)) (hy : ev l y = some (.int kd n)) (h : kd.wrap ((BitVec.ofInt kd.bits m &&& BitVec.ofInt kd.bits n).toNat : Int) = r) : EV P l (.binOp .and t x y u) T w (.int kd r) w := ev_of <| fun ρ o ho _ hρ => by
  simp [execOp, ho, hρ _ _ hx, hρ _ _ hy, eqGuard, binOp, Op.intBits, ← h]
theorem ev_or (hx : ev l x = some (.int kd m)) (hy : ev l y = some (.int kd n)) (h : kd.wrap ((BitVec.ofInt kd.bits m ||| BitVec.ofInt kd.bits n).toNat : Int) = r) : EV P l (.binOp .or t x y u) T w (.int kd r) w := ev_of <| fun ρ o ho _ hρ => by
  simp [execOp, ho, hρ _ _ hx, hρ _ _ hy, eqGuard, binOp, Op.intBits, ← h]
theorem ev_quo (hx : ev l x = some (.int kd m)) (hy : ev l y = some (.int kd n)) (hn : n ≠ 0) (h : kd.wrap (m.tdiv n) = r) : EV P l (.binOp .quo t x y u) T w (.int kd r) w := ev_of <| fun ρ o ho _ hρ => by
  simp [execOp, ho, hρ _ _ hx, hρ _ _ hy, eqGuard, binOp, Op.intDiv, hn, h]
theorem xor_neg {n : Int} (h0 : 0 ≤ n) (h1 : n < 4611686018427387904) : IntKind.wrap .i64 ((BitVec.ofInt 64 (-1) ^^^ BitVec.ofInt 64 n).toNat : Int) = -n - 1 := by
  have e1 : BitVec.ofInt 64 (-1) = BitVec.allOnes 64 := by decide
  rw [e1, BitVec.allOnes_xor, BitVec.toNat_not, BitVec.toNat_ofInt]
  simp [IntKind.wrap, IntKind.bits, IntKind.signed]
  omega
theorem ev_xor (hx : ev l x = some (.int .i64 n)) (h0 : 0 ≤ n) (h1 : n < 4611686018427387904) : EV P l (.unOp .xor t x) T w (.int .i64 (-n - 1)) w := ev_of <| fun ρ o ho _ hρ => by
  have := xor_neg h0 h1
  simp only [execOp, ho, hρ _ _ hx, Op.unary]
  simp only [IntKind.signed, if_true, Op.intBits, IntKind.bits, Sem.run_bind, Sem.run_pure, Result.andThen_ok]
  exact congrArg (fun r => Result.ok (Next.value (Value.int IntKind.i64 r)) w) this

/-- make([]T, n), T of one cell. -/
theorem ev_mk {e c cap' : Nat} {i : TypeInfo} {z : Value} (hx : ev l x = some (.int .i64 m)) (hy : ev l y = some (.int .i64 n)) (hT : ∀ w, (underlying t).run P w = .ok (.slice e) w) (hi : ∀ w, (typeInfo e).run P w = .ok i w)
    (hs : ∀ w, (sizeOf e).run P w = .ok 1 w) (hz : ∀ w, (zeroValue e).run P w = .ok z w) (hz1 : one z = true) (h0 : 0 ≤ m) (h1 : m ≤ n) (h2 : n ≤ 10000000000000) (h3 : decide (i.bytes ≤ 8) = true) (hc : m.toNat = c) (hcap : n.toNat = cap') :
    EV P l (.makeSlice t x y) T w (.slice (some ⟨w.heap.size, 0, none⟩) c cap') (w.alloc (.cells (Array.replicate cap' z) e)) := ev_of <| fun ρ o ho _ hρ => by
  subst hc hcap
  have h3 := of_decide_eq_true h3
  have wm : IntKind.wrap .i64 m = m := w_i64 (by omega) (by omega)
  have wn : IntKind.wrap .i64 n = n := w_i64 (by omega) (by omega)
  have b1 : (i.bytes : Int) * n ≤ 8 * 10000000000000 := by
    have : (i.bytes : Int) * n ≤ 8 * n := Int.mul_le_mul_of_nonneg_right (by omega) (by omega)
    omega
  have c1 : ¬ n < 0 := by omega
  have c2 : ¬ (i.bytes : Int) * n > 2 ^ 48 := by omega
  have c3 : ¬ m < 0 := by omega
  have c4 : ¬ m > n := by omega
  have cells : (Array.range (n.toNat * 1)).map (fun j => (z.cells)[j % z.cells.size]!) = Array.replicate n.toNat z := by
    rw [cells_one hz1]
    apply Array.ext
    · simp
    · intro j h1 h2; simp [Nat.mod_one]
  simp only [execOp, ho, hρ _ _ hx, hρ _ _ hy, Instr.makeSlice, Sem.run_bind, Sem.run_pure, hT, hi, asInt, asIntOf, Result.andThen_ok, wm, wn]
  simp only [c1, c2, c3, c4, decide_false, Bool.or_false, Bool.false_or, Bool.false_eq_true, if_false]
  by_cases e0 : n.toNat * 1 = 0
  · have e1 : n.toNat = 0 := by omega
    have e2 : m.toNat = 0 := by omega
    simp only [if_true, Sem.run_bind, Sem.run_pure, Result.andThen_ok, newRow, run_newObj, e1, e2, hs]
    simp
    exact congrArg (fun c => w.alloc (Obj.cells c e)) (by apply Array.ext <;> simp)
  · simp only [e0, if_false, hz, hs, Sem.run_bind, Sem.run_pure, Result.andThen_ok, cells, newRow]
    simp

theorem ok_shift {b i k : Nat} : (⟨b, i, none⟩ : Addr).add k = ⟨b, i + k, none⟩ := by unfold Addr.add; by_cases e : k = 0 <;> simp [e]

/-- Several cells, one behind the other. -/
def setMany : Array Value → Nat → List Value → Array Value
  | c, _, [] => c
  | c, o, v :: vs => setMany (c.setIfInBounds o v) (o + 1) vs
theorem size_setMany : ∀ (vs : List Value) (c : Array Value) (o : Nat), (setMany c o vs).size = c.size
  | [], _, _ => rfl
  | v :: vs, c, o => by rw [setMany, size_setMany vs]; simp
theorem run_storeCells {b i : Nat} {e : TypeId} : ∀ (vs : List Value) (s : Nat) (w : World) (cs : Array Value), w.heap[b]? = some (.cells cs e (0, 0)) → (∀ v ∈ vs, one v = true) → i + s + vs.length ≤ cs.size →
    (storeCells ⟨b, i, none⟩ vs s).run P w = .ok () (w.setB b (.cells (setMany cs (i + s) vs) e (0, 0)))
  | [], s, w, cs, hb, _, _ => by
    have : w.setB b (.cells cs e (0, 0)) = w := by
      have hl := lt_of_heap hb
      simp only [World.setB]
      have : w.heap.setIfInBounds b (.cells cs e (0, 0)) = w.heap := by
        apply Array.ext
        · simp
        · intro j h1 h2
          by_cases hj : b = j
          · subst hj; simp; rw [Array.getElem?_eq_getElem hl] at hb; exact (Option.some.inj hb).symm
          · rw [Array.getElem_setIfInBounds_ne h2 hj]
      rw [this]
    simp [storeCells, setMany, this]
  | v :: vs, s, w, cs, hb, h1, hl => by
    simp only [List.length_cons] at hl
    have hv := h1 v (by simp)
    simp only [storeCells, Sem.run_bind, ok_shift, run_store1 hv hb (show i + s < cs.size by omega) (.inl (Nat.zero_le _)), Result.andThen_ok]
    rw [run_storeCells vs (s + 1) _ _ (sb_same hb) (fun u hu => h1 u (by simp [hu])) (by simp; omega), sb_sb]
    rfl

/-- copy, out of a row of one-cell elements. -/
theorem ev_copy {b off len cap e b2 o2 len2 cap2 k : Nat} {cs cs2 cs' : Array Value} {e1 e2 : TypeId} {f2 : Nat × Nat} {ats : Array TypeId} (hx : ev l x = some (.slice (some ⟨b, off, none⟩) len cap)) (hy : ev l y = some (.slice (some ⟨b2, o2, none⟩) len2 cap2))
    (h0 : ats[0]? = some t) (hT : ∀ w, (underlying t).run P w = .ok (.slice e) w) (hs : ∀ w, (sizeOf e).run P w = .ok 1 w) (hb : w.heap[b]? = some (.cells cs e1 (0, 0))) (hb2 : w.heap[b2]? = some (.cells cs2 e2 f2))
    (hk : Nat.min len2 len = k) (hl : off + k ≤ cs.size) (hl2 : o2 + k ≤ cs2.size) (h1 : ∀ v ∈ (cs2.extract o2 (o2 + k)).toList, one v = true) (hc : setMany cs off (cs2.extract o2 (o2 + k)).toList = cs') :
    EV P l (.call ⟨.builtin .copy, #[x, y], ats⟩) T w (.int .i64 k) (w.setB b (.cells cs' e1 (0, 0))) := ev_of <| fun ρ o ho _ hρ => by
  subst hc
  have hlc := loadCellsFrom_run (P := P) (w := w) (i := o2) hb2 k 0 #[] (by omega)
  have hsz : (cs2.extract o2 (o2 + k)).toList.length = k := by simp; omega
  have hst := run_storeCells (P := P) (i := off) (cs2.extract o2 (o2 + k)).toList 0 w cs hb h1 (by omega)
  simp only [Nat.add_zero, Array.empty_append] at hlc hst
  generalize cs2.extract o2 (o2 + k) = V at *
  simp [execOp, ho, resolve, invoke, builtin, hρ _ _ hx, hρ _ _ hy, Builtin.copy_, h0, hT, hs, Builtin.lenOf, hk, Builtin.firstCells, loadCells, hlc, hst, goInt]
/-- copy out of a string. -/
theorem ev_copys {b off len cap e k : Nat} {cs cs' : Array Value} {e1 : TypeId} {s : ByteArray} {ats : Array TypeId} (hx : ev l x = some (.slice (some ⟨b, off, none⟩) len cap)) (hy : ev l y = some (.string s))
    (h0 : ats[0]? = some t) (hT : ∀ w, (underlying t).run P w = .ok (.slice e) w) (hs : ∀ w, (sizeOf e).run P w = .ok 1 w) (hb : w.heap[b]? = some (.cells cs e1 (0, 0)))
    (hk : s.size = k) (hkl : k ≤ len) (hl : off + k ≤ cs.size) (hc : setMany cs off (s.data.toList.map fun u => .int .u8 u.toNat) = cs') :
    EV P l (.call ⟨.builtin .copy, #[x, y], ats⟩) T w (.int .i64 k) (w.setB b (.cells cs' e1 (0, 0))) := ev_of <| fun ρ o ho _ hρ => by
  subst hc hk
  have hsz : (s.data.toList.map fun u => Value.int .u8 u.toNat).length = s.size := by simp
  have hst := run_storeCells (P := P) (i := off) (s.data.toList.map fun u => Value.int .u8 u.toNat) 0 w cs hb (by simp [one]) (by omega)
  simp only [Nat.add_zero] at hst
  have hmin : Nat.min s.size len = s.size := Nat.min_eq_left (by omega)
  have hex : List.take s.size (s.data.toList.map fun u => Value.int .u8 u.toNat) = s.data.toList.map fun u => Value.int .u8 u.toNat := List.take_of_length_le (by rw [hsz]; exact Nat.le_refl _)
  simp [execOp, ho, resolve, invoke, builtin, hρ _ _ hx, hρ _ _ hy, Builtin.copy_, h0, hT, hs, Builtin.lenOf, hmin, Builtin.firstCells, hex, hst, goInt]
end
end Go.Proofs.YtjaplgfgkigmiaaGreat
