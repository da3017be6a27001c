/-
  Rows that grow: one element at a time.
-/
import Derived.Test.YtjaplgfgkigmiaaGreatPm
namespace Go.Proofs.YtjaplgfgkigmiaaGreat
open Go Go.Proofs

/-- Whatever stood still stands. -/
def Old (w w' : World) : Prop := ∀ (b : Nat) (x : Obj), w.heap[b]? = some x → w'.heap[b]? = some x
theorem Old.refl {w : World} : Old w w := fun _ _ h => h
theorem Old.trans {w w' w'' : World} (h : Old w w') (h' : Old w' w'') : Old w w'' := fun b x hb => h' b x (h b x hb)
theorem Old.alloc {w : World} {o : Obj} : Old w (w.alloc o) := fun _ _ h => al_old h
theorem Old.same {w w' : World} (h : w'.heap = w.heap) : Old w w' := fun b x hb => by rw [h]; exact hb
theorem Old.size {w w' : World} (h : Old w w') : w.heap.size ≤ w'.heap.size := by
  rcases Nat.lt_or_ge w'.heap.size w.heap.size with hlt | hge
  · have := h w'.heap.size _ (Array.getElem?_eq_getElem hlt)
    have := lt_of_heap this
    omega
  · exact hge
theorem Old.put {w w' : World} {b : Nat} {o : Obj} (h : Old w w') (hb : w.heap.size ≤ b) : Old w (w'.setB b o) := fun c x hc => by
  have := lt_of_heap hc
  exact sb_ne (by omega) (h c x hc)

def blkOf : Value → Option Nat
  | .slice (some a) _ _ => some a.block
  | _ => none

/-- A row that one owns: n elements of sz cells, what they hold, some room behind. -/
def RowB (e : TypeId) (sz : Nat) (w : World) (v : Value) (n : Nat) (fs : List Value) : Prop :=
  (n = 0 ∧ fs = [] ∧ v = .slice none 0 0) ∨ ∃ (b k : Nat) (sp : List Value), v = .slice (some ⟨b, 0, none⟩) n k ∧ (0 < n ∧ n ≤ k) ∧ fs.length = n * sz ∧ w.heap[b]? = some (.cells (fs ++ sp).toArray e (0, 0)) ∧ (fs ++ sp).length = k * sz ∧ ∀ s ∈ sp, one s = true
theorem RowB.old {e : TypeId} {sz n : Nat} {w w' : World} {v : Value} {fs : List Value} (h : RowB e sz w v n fs) (ho : ∀ b, blkOf v = some b → ∀ x, w.heap[b]? = some x → w'.heap[b]? = some x) : RowB e sz w' v n fs := by
  rcases h with h | ⟨b, k, sp, rfl, h1, h2, h3, h4, h5⟩
  · exact .inl h
  · exact .inr ⟨b, k, sp, rfl, h1, h2, ho b rfl _ h3, h4, h5⟩

theorem setMany_list : ∀ (ys : List Value) (fs sp : List Value), ys.length ≤ sp.length → setMany (fs ++ sp).toArray fs.length ys = (fs ++ (ys ++ sp.drop ys.length)).toArray
  | [], fs, sp, _ => by simp [setMany]
  | y :: ys, fs, sp, h => by
    cases sp with
    | nil => simp at h
    | cons s sp =>
      have e : (fs ++ s :: sp).toArray.setIfInBounds fs.length y = ((fs ++ [y]) ++ sp).toArray := by
        rw [List.setIfInBounds_toArray, List.set_append_right _ _ (Nat.le_refl _)]
        simp
      rw [setMany, e, show fs.length + 1 = (fs ++ [y]).length by simp, setMany_list ys (fs ++ [y]) sp (by simpa using h)]
      simp

theorem row_append {P : Program} {t e T sz n sb : Nat} {w : World} {v z : Value} {i : TypeInfo} {fs ys : List Value} (hr : RowB e sz w v n fs) (hT : ∀ w, (underlying t).run P w = .ok (.slice e) w) (hi : ∀ w, (typeInfo e).run P w = .ok i w) (hs : ∀ w, (sizeOf e).run P w = .ok sz w)
    (hz : ∀ w, (zeroValue e).run P w = .ok z w) (hzs : z.cells.size = sz) (hzo : (z.cells.toList.all one) = true) (hib : decide (i.bytes ≤ 10000) = true) (hn : n ≤ 100000) (hsb : w.heap[sb]? = some (.cells ys.toArray e (0, 0))) (hys : ys.length = sz) (hyo : ∀ y ∈ ys, one y = true) :
    ∃ v' w', AppRun P T #[t, t] #[v, .slice (some ⟨sb, 0, none⟩) 1 1] w v' w' ∧ RowB e sz w' v' (n + 1) (fs ++ ys) ∧ (∀ (c : Nat) (x : Obj), blkOf v ≠ some c → w.heap[c]? = some x → w'.heap[c]? = some x) ∧ (blkOf v' = blkOf v ∨ ∃ b, blkOf v' = some b ∧ w.heap.size ≤ b) ∧ w.heap.size ≤ w'.heap.size := by
  have hib := of_decide_eq_true hib
  have hnew : firstRun P w sz 1 (.slice (some ⟨sb, 0, none⟩) 1 1) ys.toArray := by
    have := first_row (P := P) (sz := sz) (n := 1) (len := 1) (cap := 1) (o := 0) hsb (by simp [hys])
    have e1 : ys.toArray.extract 0 (0 + 1 * sz) = ys.toArray := by rw [Nat.zero_add, Nat.one_mul, ← hys]; simp
    rw [e1] at this; exact this
  have key : ∀ (base : Option Addr) (len cap : Nat), v = .slice base len cap → n = len → cap < n + 1 → firstRun P w sz len (.slice base len cap) fs.toArray → fs.length = n * sz →
      ∃ v' w', AppRun P T #[t, t] #[v, .slice (some ⟨sb, 0, none⟩) 1 1] w v' w' ∧ RowB e sz w' v' (n + 1) (fs ++ ys) ∧ (∀ (c : Nat) (x : Obj), blkOf v ≠ some c → w.heap[c]? = some x → w'.heap[c]? = some x) ∧ (blkOf v' = blkOf v ∨ ∃ b, blkOf v' = some b ∧ w.heap.size ≤ b) ∧ w.heap.size ≤ w'.heap.size := by
    intro base len cap hv hl hcap hold hfl
    subst hv hl
    have hmul : (n + 1) * i.bytes ≤ 100001 * 10000 := Nat.mul_le_mul (by omega) hib
    obtain ⟨c, hc, hr2⟩ := run_append_grow (P := P) (T := T) (t := t) (t2 := t) (ats := #[t, t]) (need := n + 1) rfl rfl hT hT hi hs hz (n := 1) (v2 := .slice (some ⟨sb, 0, none⟩) 1 1) (fun _ => rfl) (cap := cap) (len := n) rfl hcap (by omega) (by omega) (by omega) hold hnew
    refine ⟨_, _, hr2, .inr ⟨w.heap.size, c, (Builtin.zeroCells z.cells (c - (n + 1))).toList, rfl, ⟨Nat.succ_pos _, hc⟩, ?_, ?_, ?_, ?_⟩, fun c' x _ hx => al_old (dr_heap hx), .inr ⟨_, rfl, Nat.le_refl _⟩, by rw [al_size]; exact Nat.le_succ _⟩
    · simp [hfl, hys, Nat.add_mul]
    · have e0 : fs.toArray ++ ys.toArray ++ Builtin.zeroCells z.cells (c - (n + 1)) = (fs ++ ys ++ (Builtin.zeroCells z.cells (c - (n + 1))).toList).toArray := by
        apply Array.ext'; simp
      rw [e0]; exact al_new (w := w.drew)
    · have : (c - (n + 1)) * sz = c * sz - (n + 1) * sz := Nat.sub_mul _ _ _
      have h2 : (n + 1) * sz ≤ c * sz := Nat.mul_le_mul_right _ hc
      have h3 : (n + 1) * sz = n * sz + sz := by rw [Nat.add_mul, Nat.one_mul]
      have h4 : (Builtin.zeroCells z.cells (c - (n + 1))).size = (c - (n + 1)) * sz := by simp [Builtin.zeroCells, hzs]
      simp only [List.length_append, Array.length_toList]
      rw [h4]
      omega
    · intro s hs'
      have : s ∈ Builtin.zeroCells z.cells (c - (n + 1)) := by simpa using hs'
      unfold Builtin.zeroCells at this
      rw [Array.mem_map] at this
      obtain ⟨j, hj, rfl⟩ := this
      have hj2 : j < (c - (n + 1)) * z.cells.size := by simpa using hj
      have hp : 0 < z.cells.size := by
        rcases Nat.eq_zero_or_pos z.cells.size with h0 | h0
        · rw [h0] at hj2; simp at hj2
        · exact h0
      have hm : j % z.cells.size < z.cells.size := Nat.mod_lt _ hp
      rw [getElem!_pos z.cells _ hm]
      exact List.all_eq_true.1 hzo _ (by simp)
  rcases hr with ⟨rfl, rfl, rfl⟩ | ⟨b, k, sp, rfl, ⟨hk0, hk⟩, hfl, hb, hlen, hone⟩
  · refine key none 0 0 rfl rfl (by omega) ?_ (by simp)
    intro w' hw
    simp [Builtin.firstCells]
  · by_cases hfit : n + 1 ≤ k
    · have hsp : ys.length ≤ sp.length := by
        have h2 : (n + 1) * sz ≤ k * sz := Nat.mul_le_mul_right _ hfit
        have h3 : (n + 1) * sz = n * sz + sz := by rw [Nat.add_mul, Nat.one_mul]
        simp only [List.length_append] at hlen
        omega
      have e3 : setMany (fs ++ sp).toArray (0 + n * sz) ys.toArray.toList = ((fs ++ ys) ++ sp.drop ys.length).toArray := by
        rw [Nat.zero_add, ← hfl]
        have := setMany_list ys fs sp hsp
        simpa using this
      have hr2 := run_append_fits (P := P) (T := T) (t := t) (t2 := t) (ats := #[t, t]) (off := 0) (b := b) (len := n) (cap := k) (need := n + 1) (m := 1) (v2 := .slice (some ⟨sb, 0, none⟩) 1 1) rfl rfl hT hT hs (fun _ => rfl) rfl hfit hnew hb (by simpa using hyo) (by simp; omega) e3
      refine ⟨_, _, hr2, .inr ⟨b, k, sp.drop ys.length, rfl, ⟨Nat.succ_pos _, hfit⟩, ?_, sb_same hb, ?_, fun s hs' => hone s (List.mem_of_mem_drop hs')⟩, fun c x hn hx => sb_ne (fun e => hn (by rw [e]; rfl)) hx, .inl rfl, by rw [sb_size]; exact Nat.le_refl _⟩
      · simp [hfl, hys, Nat.add_mul]
      · simp only [List.length_append, List.length_drop] at hlen ⊢; omega
    · refine key (some ⟨b, 0, none⟩) n k rfl rfl (by omega) ?_ hfl
      have := first_row (P := P) (sz := sz) (n := n) (len := n) (cap := k) (o := 0) hb (by rw [← hfl]; simp)
      have e1 : (fs ++ sp).toArray.extract 0 (0 + n * sz) = fs.toArray := by
        rw [Nat.zero_add, ← hfl]; simp
      rw [e1] at this; exact this

/-- A row of one element, built. -/
theorem ev_bsn {P : Program} {l : Slots} {w : World} {T t e : TypeId} {x : Operand} {v z : Value} {sz : Nat} {ys : List Value} (hx : ev l x = some v) (hv : v.cells = ys.toArray) (hys : ys.length = sz) (hT : ∀ w, (underlying t).run P w = .ok (.slice e) w) (hs : ∀ w, (sizeOf e).run P w = .ok sz w) (hz : ∀ w, (zeroValue e).run P w = .ok z w)
    (hsz : decide (0 < sz ∧ sz ≤ 1000) = true) (hzs : z.cells.size = sz) :
    EV P l (.buildSlice t 1 #[(0, x)]) T w (.slice (some ⟨w.heap.size, 0, none⟩) 1 1) (w.alloc (.cells ys.toArray e)) := ev_of <| fun ρ o ho _ hρ => by
  have hsz := of_decide_eq_true hsz
  simp only [execOp, ho, Instr.buildSlice]
  have c1 : ¬ 1 * sz > 2 ^ 24 := by omega
  have c2 : ¬ 1 * sz = 0 := by omega
  have hfill : Instr.fill (fun i => some (i * sz, sz)) ((Array.range (1 * sz)).map fun j => z.cells[j % z.cells.size]!) [(0, v)] = some ys.toArray := by
    simp only [Instr.fill]
    have e1 : (v.cells.size ≠ sz || 0 * sz + v.cells.size > ((Array.range (1 * sz)).map fun j => z.cells[j % z.cells.size]!).size) = false := by
      simp [hv, hys]
    rw [e1]
    simp only [Bool.false_eq_true, if_false, hv]
    congr 1
    have key : ∀ (ys : List Value) (k : Nat) (cs : Array Value), (ys.zipIdx k).foldl (fun cs (p : Value × Nat) => cs.setIfInBounds (0 * sz + p.2) p.1) cs = setMany cs k ys := by
      intro ys
      induction ys with
      | nil => intro k cs; rfl
      | cons y ys ih => intro k cs; simp only [List.zipIdx_cons, List.foldl_cons, setMany]; rw [ih]; simp
    have h2 := key ys 0 ((Array.range (1 * sz)).map fun j => z.cells[j % z.cells.size]!)
    have h3 : ys.toArray.zipIdx.foldl (fun (cs : Array Value) (p : Value × Nat) => cs.setIfInBounds (0 * sz + p.2) p.1) ((Array.range (1 * sz)).map fun j => z.cells[j % z.cells.size]!) = (ys.zipIdx 0).foldl (fun cs (p : Value × Nat) => cs.setIfInBounds (0 * sz + p.2) p.1) ((Array.range (1 * sz)).map fun j => z.cells[j % z.cells.size]!) := by
      rw [← Array.foldl_toList]; simp
    refine Eq.trans ?_ (h3.trans (h2.trans ?_))
    · rfl
    · have e4 : ((Array.range (1 * sz)).map fun j => z.cells[j % z.cells.size]!) = ([] ++ (((Array.range (1 * sz)).map fun j => z.cells[j % z.cells.size]!)).toList).toArray := by apply Array.ext'; simp
      rw [e4]
      have := setMany_list ys [] (((Array.range (1 * sz)).map fun j => z.cells[j % z.cells.size]!)).toList (by simp [hys])
      simp only [List.length_nil] at this
      rw [this]
      congr 1
      simp [hys]
  simp only [Sem.run_bind, hT, Result.andThen_ok, hs, if_neg c1, Sem.run_pure, if_neg c2, hz]
  have e5 : (Array.map (fun (p : Nat × Operand) => (match p with | (i, x) => (i, ρ x) : Nat × Value)) #[(0, x)]).toList = [(0, v)] := by simp [hρ _ _ hx]
  rw [e5, hfill]
  simp [newRow]
end Go.Proofs.YtjaplgfgkigmiaaGreat
