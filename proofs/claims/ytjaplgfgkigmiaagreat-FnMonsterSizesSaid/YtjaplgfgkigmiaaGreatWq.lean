/-
  Branches of a region that draws its order; rows of offsets that grow.
-/
import Derived.Test.YtjaplgfgkigmiaaGreatWp
namespace Go.Proofs.YtjaplgfgkigmiaaGreat
open Go Go.Proofs

/-- Number i comes up next. -/
def GO (n : Nat) (P : Program) (ops : Array Oper) (Q : Exit → Act → World → Prop) (k : List KItem) (S : World → Prop) (fuel : Nat) (listed : Array Bool) (i : Nat) (l : Slots) (w : World) : Prop :=
  ∀ β, SameO β w → ∀ a, Fr n a l → wpOp P ops (NoPanic (qk P Q β k)) i (fun a' w' => (S w' ∧ SameO β w') ∧ wpAnyH P .any ops (NoPanic (qk P Q β k)) (fun w => S w ∧ SameO β w) fuel (listed.setIfInBounds i true) a' w') a w

section
variable {n : Nat} {P : Program} {Q : Exit → Act → World → Prop} {k : List KItem} {l : Slots} {w : World} {ops : Array Oper} {S : World → Prop} {fuel : Nat} {listed : Array Bool}
variable {d : Nat} {op : Op} {T : TypeId} {pos : String} {aft : Array Edge} {v : Value}

theorem ga_go2 {i j : Nat} (hr : Region.ready .any ops listed = [i, j]) (hi : GO n P ops Q k S fuel listed i l w) (hj : GO n P ops Q k S fuel listed j l w) : GA n P ops Q k S (fuel + 1) listed l w := fun β hβ a ha =>
  wpAnyH_all hr (by simp) fun m hm => by
    have : m = i ∨ m = j := by simpa using hm
    rcases this with rfl | rfl
    · exact hi β hβ a ha
    · exact hj β hβ a ha
theorem go_v {i : Nat} {w' : World} (ho : ops[i]? = some ⟨some d, op, T, pos, aft, none⟩) (he : EV P l op T w v w') (hS : S w')
    (h : GA n P ops Q k S fuel (listed.setIfInBounds i true) ((d, v) :: l) w') (hd : d < n := by decide) : GO n P ops Q k S fuel listed i l w := fun β hβ a ha => by
  unfold wpOp
  simp only [ho, Region.wanted, if_true]
  refine .inl ?_
  unfold Oper.wp
  rw [he.1 a.eval _ rfl rfl (fun x v hx => ha.eval hx), Oper.upon_value]
  exact ⟨⟨hS, hβ.trans he.2⟩, h β (hβ.trans he.2) _ (ha.put hd v)⟩
theorem go_call {i : Nat} {f : FuncId} {args : Array Value} {R : Value → World → Prop} (ho : ops[i]? = some ⟨some d, op, T, pos, aft, none⟩) (he : EC P l op T w f args)
    (hc : CR P f args w R) (h : ∀ v w', R v w' → S w' ∧ (S w' → GA n P ops Q k S fuel (listed.setIfInBounds i true) ((d, v) :: l) w')) (hd : d < n := by decide) : GO n P ops Q k S fuel listed i l w := fun β hβ a ha => by
  unfold wpOp
  simp only [ho, Region.wanted, if_true]
  refine .inl ?_
  unfold Oper.wp
  rw [he a.eval _ rfl rfl (fun x v hx => ha.eval hx), Oper.upon_enter]
  refine hc.mono ?_
  rintro e w' ⟨v, rfl, hR, hs⟩
  have h1 := h v w' hR
  exact ⟨⟨h1.1, hβ.trans hs⟩, h1.2 h1.1 β (hβ.trans hs) _ (ha.put hd v)⟩

theorem ev_bs1 {t e : TypeId} {x : Operand} {z : Value} (hx : ev l x = some v) (h1 : one v = true) (hT : ∀ w, (underlying t).run P w = .ok (.slice e) w) (hs : ∀ w, (sizeOf e).run P w = .ok 1 w) (hz : ∀ w, (zeroValue e).run P w = .ok z w) (hz1 : one z = true) :
    EV P l (.buildSlice t 1 #[(0, x)]) T w (.slice (some ⟨w.heap.size, 0, none⟩) 1 1) (w.alloc (.cells #[v] e)) := ev_of <| fun ρ o ho _ hρ => by
  simp only [execOp, ho, Instr.buildSlice]
  simp [hT, hs, hz, cells_one hz1, Instr.fill, hρ _ _ hx, cells_one h1, newRow]
  congr 2
  apply Array.ext
  · simp
  · intro i h1 h2
    have : i = 0 := by simp at h2; omega
    subst this; simp
end

theorem setMany_one {c : Array Value} {o : Nat} {v : Value} : setMany c o [v] = c.setIfInBounds o v := rfl
theorem rowU_push {l : List Nat} {v : Value} {x : List Value} {n : Nat} : (rowU l (v :: x)).setIfInBounds l.length (U n) = rowU (l ++ [n]) x := by
  unfold rowU
  rw [List.setIfInBounds_toArray]
  congr 1
  rw [List.set_append_right _ _ (by simp)]
  simp

theorem vts_append {F : Nat → Prop} {w : World} {bb : Nat} {S : St} {g : Gh} (h : BldG F w bb S g) {sb x : Nat} (hs : w.heap[sb]? = some (.cells #[U x] 65 (0, 0))) (hl : S.vts.length ≤ 200000) :
    ∃ tb' tx' w', AppRun Tryz.prog 107 #[107, 107] #[.slice (some ⟨g.tb, 0, none⟩) S.vts.length (S.vts.length + g.tx.length), .slice (some ⟨sb, 0, none⟩) 1 1] w (.slice (some ⟨tb', 0, none⟩) (S.vts ++ [x]).length ((S.vts ++ [x]).length + tx'.length)) w' ∧
      w'.heap[tb']? = some (.cells (rowU (S.vts ++ [x]) tx') 65 (0, 0)) ∧ (∀ c o, g.tb ≠ c → w.heap[c]? = some o → w'.heap[c]? = some o) ∧ (g.tb = tb' ∨ w.heap.size ≤ tb') ∧ w.heap.size ≤ w'.heap.size ∧ ∀ v ∈ tx', one v = true := by
  have hone := h.tone
  have ht := h.ht
  obtain ⟨kb, junk, extra, vb, vx, tb, tx⟩ := g
  simp only at *
  have hnew : firstRun Tryz.prog w 1 1 (.slice (some ⟨sb, 0, none⟩) 1 1) #[U x] := by
    have := first_row (P := Tryz.prog) (sz := 1) (n := 1) (len := 1) (cap := 1) (o := 0) hs (by simp)
    simpa using this
  cases tx with
  | nil =>
    have hold : firstRun Tryz.prog w 1 S.vts.length (.slice (some ⟨tb, 0, none⟩) S.vts.length (S.vts.length + 0)) (rowU S.vts []) := by
      have := first_row (P := Tryz.prog) (sz := 1) (n := S.vts.length) (len := S.vts.length) (cap := S.vts.length + 0) (o := 0) ht (by simp [rowU])
      have e : (rowU S.vts []).extract 0 (0 + S.vts.length * 1) = rowU S.vts [] := by
        apply Array.ext <;> simp [rowU]
      rw [e] at this; exact this
    obtain ⟨c, hc, hr⟩ := run_append_grow (P := Tryz.prog) (T := 107) (t := 107) (t2 := 107) (ats := #[107, 107]) (need := S.vts.length + 1) rfl rfl Tryz.runUnderlying107 Tryz.runUnderlying107 Tryz.typeInfo65 Tryz.sizeOf65 Tryz.zeroValue65 (n := 1) (v2 := .slice (some ⟨sb, 0, none⟩) 1 1) (fun _ => rfl) (cap := S.vts.length + 0) (len := S.vts.length) rfl (by omega) (by rw [show Tryz.t65.bytes = 4 from rfl]; omega) (by omega) (by rw [show Tryz.t65.bytes = 4 from rfl]; omega) hold hnew
    refine ⟨w.heap.size, List.replicate (c - (S.vts.length + 1)) (U 0), w.drew.alloc (.cells (rowU S.vts [] ++ #[U x] ++ Builtin.zeroCells (Value.int .u32 0).cells (c - (S.vts.length + 1))) 65), ?_, ?_, ?_, .inr (Nat.le_refl _), ?_, ?_⟩
    · have e1 : (S.vts ++ [x]).length = S.vts.length + 1 := by simp
      have e2 : (S.vts.length + 1) + (List.replicate (c - (S.vts.length + 1)) (U 0)).length = c := by simp; omega
      rw [e1, e2]; exact hr
    · have e0 : rowU S.vts [] ++ #[U x] ++ Builtin.zeroCells (Value.int .u32 0).cells (c - (S.vts.length + 1)) = rowU (S.vts ++ [x]) (List.replicate (c - (S.vts.length + 1)) (U 0)) := ?_
      · rw [e0]; exact al_new (w := w.drew)
      generalize c - (S.vts.length + 1) = m
      rw [cells_one rfl]
      apply Array.ext'
      simp [rowU, Builtin.zeroCells, U]
      apply List.ext_getElem
      · simp
      · intro i h1 h2
        simp [Nat.mod_one]
    · intro c' o _ ho; exact al_old (dr_heap ho)
    · rw [al_size]; exact Nat.le_succ _
    · intro v hv; rw [(List.mem_replicate.1 hv).2]; rfl
  | cons y tx =>
    have hr := run_append_fits (P := Tryz.prog) (T := 107) (t := 107) (t2 := 107) (ats := #[107, 107]) (off := 0) (b := tb) (len := S.vts.length) (cap := S.vts.length + (y :: tx).length) (need := S.vts.length + 1) (m := 1) (v2 := .slice (some ⟨sb, 0, none⟩) 1 1) rfl rfl Tryz.runUnderlying107 Tryz.runUnderlying107 Tryz.sizeOf65 (fun _ => rfl) rfl (by simp) hnew ht (fun v hv => by have e : v = U x := (by simpa using hv); rw [e]; rfl) (by simp [rowU]) rfl
    have e3 : setMany (rowU S.vts (y :: tx)) (0 + S.vts.length * 1) #[U x].toList = rowU (S.vts ++ [x]) tx := by
      simp only [Nat.zero_add, Nat.mul_one]
      exact rowU_push
    rw [e3] at hr
    refine ⟨tb, tx, w.setB tb (.cells (rowU (S.vts ++ [x]) tx) 65 (0, 0)), ?_, ?_, ?_, .inl rfl, ?_, ?_⟩
    · have e1 : (S.vts ++ [x]).length = S.vts.length + 1 := by simp
      rw [e1, show S.vts.length + 1 + tx.length = S.vts.length + (y :: tx).length by simp; omega]; exact hr
    · exact sb_same ht
    · intro c o hn ho; exact sb_ne hn ho
    · rw [sb_size]; exact Nat.le_refl _
    · intro v hv; exact hone v (List.mem_cons_of_mem _ hv)
end Go.Proofs.YtjaplgfgkigmiaaGreat
