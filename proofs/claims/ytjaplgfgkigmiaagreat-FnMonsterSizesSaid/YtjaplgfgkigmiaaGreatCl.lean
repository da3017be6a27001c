/-
  Clean monsters: what the walk of MonsterClean needs.
-/
import Derived.Test.YtjaplgfgkigmiaaGreatMp
namespace Go.Proofs.YtjaplgfgkigmiaaGreat
open Go Go.Proofs

section
variable {n : Nat} {P : Program} {Q : Exit → Act → World → Prop} {k : List KItem} {l : Slots} {w w' : World} {ops : Array Oper} {rest : List Oper} {op : Op} {T t : TypeId} {pos : String} {aft : Array Edge} {d j dj : Nat} {b g g' : Bool}
/-- A test: its two ways. -/
theorem gr_b (he : EV P l op T w (.bool b) w') (ht : b = true → GR n P ops Q k rest ((d, .bool true) :: l) w') (hf : b = false → GR n P ops Q k rest ((d, .bool false) :: l) w') (hd : d < n := by decide) :
    GR n P ops Q k (⟨some d, op, T, pos, aft, none⟩ :: rest) l w := by
  cases b
  · exact gr_v he (hf rfl) hd
  · exact gr_v he (ht rfl) hd
theorem gr_bb {b' : Bool} (he : EV P l op T w (.bool b) w') (hb : b = b') (h : GR n P ops Q k rest ((d, .bool b') :: l) w') (hd : d < n := by decide) :
    GR n P ops Q k (⟨some d, op, T, pos, aft, none⟩ :: rest) l w := by subst hb; exact gr_v he h hd
theorem gr_gb (hj : (ops[j]?).bind (·.dst) = some dj) (hl : look l dj = some (.bool g')) (hg : g' = g) (he : EV P l op T w (.bool b) w') (ht : b = true → GR n P ops Q k rest ((d, .bool true) :: l) w') (hf : b = false → GR n P ops Q k rest ((d, .bool false) :: l) w') (hd : d < n := by decide) :
    GR n P ops Q k (⟨some d, op, T, pos, aft, some (j, g)⟩ :: rest) l w := by
  cases b
  · exact gr_gv hj hl hg he (hf rfl) hd
  · exact gr_gv hj hl hg he (ht rfl) hd
theorem gr_gbb {b' : Bool} (hj : (ops[j]?).bind (·.dst) = some dj) (hl : look l dj = some (.bool g')) (hg : g' = g) (he : EV P l op T w (.bool b) w') (hb : b = b') (h : GR n P ops Q k rest ((d, .bool b') :: l) w') (hd : d < n := by decide) :
    GR n P ops Q k (⟨some d, op, T, pos, aft, some (j, g)⟩ :: rest) l w := by subst hb; exact gr_gv hj hl hg he h hd
theorem gr_gu (hj : (ops[j]?).bind (·.dst) = some dj) (hl : look l dj = some undef) (h : GR n P ops Q k rest ((d, undef) :: l) w) (hd : d < n := by decide) :
    GR n P ops Q k (⟨some d, op, T, pos, aft, some (j, g)⟩ :: rest) l w := fun β hβ a ha => by
  refine wpList_step fun K hK => ?_
  have e0 : yielded ops a.tmps j = none := by
    unfold yielded
    rw [hj]
    simp [ha.val _ _ hl, undef]
  have e : ((none : Option Bool) == some g) = false := rfl
  simp only [Region.wanted, e0, e]
  exact hK _ _ (h β hβ _ (ha.put hd undef))
/-- Some elements of one cell each, built. -/
theorem ev_bsl {e kk sz : Nat} {z : Value} {ps : List (Nat × Operand)} {vs : List (Nat × Value)} {cs : Array Value} (hx : evp l ps = some vs) (hT : ∀ w, (underlying t).run P w = .ok (.slice e) w) (hs : ∀ w, (sizeOf e).run P w = .ok sz w) (hz : ∀ w, (zeroValue e).run P w = .ok z w)
    (hk : decide (0 < kk * sz ∧ kk * sz ≤ 1000) = true) (hf : Instr.fill (fun i => some (i * sz, sz)) ((Array.range (kk * sz)).map fun j => z.cells[j % z.cells.size]!) vs = some cs) :
    EV P l (.buildSlice t kk ps.toArray) T w (.slice (some ⟨w.heap.size, 0, none⟩) kk kk) (w.alloc (.cells cs e)) := ev_of <| fun ρ o ho _ hρ => by
  have hk := of_decide_eq_true hk
  simp only [execOp, ho, Instr.buildSlice]
  have c1 : ¬ kk * sz > 2 ^ 24 := by omega
  have c2 : ¬ kk * sz = 0 := by omega
  simp only [Sem.run_bind, hT, Result.andThen_ok, hs, if_neg c1, Sem.run_pure, if_neg c2, hz]
  have e5 : (Array.map (fun (p : Nat × Operand) => (match p with | (i, x) => (i, ρ x) : Nat × Value)) ps.toArray).toList = vs := by
    have := evp_map hρ hx
    simpa using this
  rw [e5, hf]
  simp [newRow]
theorem gr_bsl {e kk sz : Nat} {z : Value} {ps : List (Nat × Operand)} {vs : List (Nat × Value)} {cs : Array Value} (hx : evp l ps = some vs) (hT : ∀ w, (underlying t).run P w = .ok (.slice e) w) (hs : ∀ w, (sizeOf e).run P w = .ok sz w) (hz : ∀ w, (zeroValue e).run P w = .ok z w)
    (hk : decide (0 < kk * sz ∧ kk * sz ≤ 1000) = true) (hf : Instr.fill (fun i => some (i * sz, sz)) ((Array.range (kk * sz)).map fun j => z.cells[j % z.cells.size]!) vs = some cs)
    (h : ∀ w', Old w w' → w'.heap[w.heap.size]? = some (.cells cs e (0, 0)) → w'.heap.size = w.heap.size + 1 → GR n P ops Q k rest ((d, .slice (some ⟨w.heap.size, 0, none⟩) kk kk) :: l) w') (hd : d < n := by decide) :
    GR n P ops Q k (⟨some d, .buildSlice t kk ps.toArray, T, pos, aft, none⟩ :: rest) l w := gr_v (ev_bsl hx hT hs hz hk hf) (h _ Old.alloc al_new al_size) hd
end

/-! ### All but one block is as it was -/
def KeepL (lb : Nat) (w w' : World) : Prop := ∀ (b : Nat) (x : Obj), b ≠ lb → w.heap[b]? = some x → w'.heap[b]? = some x
theorem KeepL.refl {lb : Nat} {w : World} : KeepL lb w w := fun _ _ _ h => h
theorem KeepL.trans {lb : Nat} {w w' w'' : World} (h : KeepL lb w w') (h' : KeepL lb w' w'') : KeepL lb w w'' := fun b x hn hb => h' b x hn (h b x hn hb)
theorem KeepL.old {lb : Nat} {w w' w'' : World} (h : KeepL lb w w') (h' : Old w' w'') : KeepL lb w w'' := fun b x hn hb => h' b x (h b x hn hb)
theorem KeepL.has {lb : Nat} {M : Mem} {w w' : World} (h : KeepL lb w w') (hM : Has M w) (hn : M lb = none) : Has M w' := fun b x hb => h b x (fun e => by rw [e, hn] at hb; cases hb) (hM b x hb)

/-! ### The elements of a row -/
def elA (sz : Nat) (M : Mem) (v : Value) (i : Nat) : Array Value := match v with
  | .slice (some a) _ _ => match M a.block with
    | some (.cells cs _ _) => cs.extract (a.off + i * sz) (a.off + i * sz + sz)
    | _ => #[]
  | _ => #[]
theorem rowM.elt {α : Type} {sz : Nat} {M : Mem} {v : Value} {l : List α} {R : Array Value → α → Prop} (h : rowM sz M v l R) {i : Nat} (hi : i < l.length) : ∃ (b o c : Nat) (cs : Array Value) (e : TypeId) (fz : Nat × Nat), v = .slice (some ⟨b, o, none⟩) l.length c ∧ M b = some (.cells cs e fz) ∧ o + l.length * sz ≤ cs.size ∧
    cs.extract (o + i * sz) (o + i * sz + sz) = elA sz M v i ∧ R (elA sz M v i) l[i] := by
  obtain ⟨b, o, c, cs, e, fz, h1, h2, h3, h4⟩ := h.get hi
  have e1 : cs.extract (o + i * sz) (o + i * sz + sz) = elA sz M v i := by rw [h1]; simp only [elA, h2]
  exact ⟨b, o, c, cs, e, fz, h1, h2, h3, e1, by rw [← e1]; exact h4⟩
theorem rowM.re {α β : Type} {sz : Nat} {M : Mem} {v : Value} {l : List α} {l' : List β} {R : Array Value → α → Prop} {R' : Array Value → β → Prop} (h : rowM sz M v l R) (hl : l'.length = l.length) (hR : ∀ i (hi : i < l'.length), R' (elA sz M v i) l'[i]) : rowM sz M v l' R' := by
  rcases h with ⟨h1, a, c, h2⟩ | ⟨h0, b, o, c, cs, e, fz, h1, h2, h3, h4, h5⟩
  · refine .inl ⟨List.length_eq_zero_iff.1 (by rw [hl, h1]; rfl), a, c, h2⟩
  · refine .inr ⟨fun e' => h0 (List.length_eq_zero_iff.1 (by rw [← hl, e']; rfl)), b, o, c, cs, e, fz, by rw [hl]; exact h1, by rw [hl]; exact h2, h3, by rw [hl]; exact h4, fun i hi => ?_⟩
    have := hR i hi
    rw [h1] at this
    simp only [elA, h3] at this
    exact this
/-- How a monster lies, to a depth. -/
def MonR : Nat → Mem → Array Value → Prop
  | 0, _, cs => cs.size = 51 ∧ ones cs
  | n + 1, M, cs => ∃ d x, cs = cells52 d x ∧ SrcR (fun M cs (_ : PK) => MonR n M cs) M d x
theorem MonR.ok {n : Nat} {M : Mem} {cs : Array Value} (h : MonR n M cs) : cs.size = 51 ∧ ones cs := by
  cases n with
  | zero => exact h
  | succ n =>
    obtain ⟨d, x, rfl, hs⟩ := h
    exact ⟨rfl, hs.ones⟩
theorem totL_snoc : ∀ {l : List PK} {p : PK} {a b : Nat}, TotL l a → TotV p b → TotL (l ++ [p]) (a + b)
  | [], p, a, b, _, hp => ⟨b, a, by omega, hp, trivial⟩
  | q :: l, p, a, b, ⟨c, e, h, hq, hl⟩, hp => ⟨c, e + b, by omega, hq, totL_snoc hl hp⟩
/-- The monsters of a row, so far. -/
def Subs (M : Mem) (v : Value) (pks : List PK) (k : Nat) : Prop := (∀ i (hi : i < pks.length), SpecOK M (elA 51 M v i) pks[i]) ∧ TotL pks k
theorem Subs.nil {M : Mem} {v : Value} {k : Nat} : Subs M v [] k := ⟨fun i hi => absurd hi (by simp), trivial⟩
theorem Subs.snoc {M : Mem} {v : Value} {pks : List PK} {k c i : Nat} {pk : PK} (h : Subs M v pks k) (hi : pks.length = i) (hp : SpecOK M (elA 51 M v i) pk) (ht : TotV pk c) : Subs M v (pks ++ [pk]) (k + c) := by
  refine ⟨fun j hj => ?_, totL_snoc h.2 ht⟩
  by_cases e : j = pks.length
  · subst e; simp; rw [hi]; exact hp
  · have hj' : j < pks.length := by simp at hj; omega
    rw [List.getElem_append_left hj']; exact h.1 j hj'
theorem Subs.row {α : Type} {M : Mem} {v : Value} {l : List α} {R : Array Value → α → Prop} {pks : List PK} {k : Nat} (h : Subs M v pks k) (hr : rowM 51 M v l R) (hl : pks.length = l.length) : rowM 51 M v pks (SpecOK M) := hr.re hl h.1

/-! ### A row appended to a row -/
theorem zc_ok {z : Value} {sz m : Nat} (hzs : z.cells.size = sz) (hzo : (z.cells.toList.all one) = true) : (Builtin.zeroCells z.cells m).size = m * sz ∧ ∀ s ∈ (Builtin.zeroCells z.cells m).toList, one s = true := by
  refine ⟨by simp [Builtin.zeroCells, hzs], fun s hs' => ?_⟩
  have : s ∈ Builtin.zeroCells z.cells m := by simpa using hs'
  unfold Builtin.zeroCells at this
  rw [Array.mem_map] at this
  obtain ⟨j, hj, rfl⟩ := this
  have hj2 : j < m * z.cells.size := by simpa using hj
  have hp : 0 < z.cells.size := by
    rcases Nat.eq_zero_or_pos z.cells.size with h0 | h0
    · rw [h0] at hj2; simp at hj2
    · exact h0
  have hm : j % z.cells.size < z.cells.size := Nat.mod_lt _ hp
  rw [getElem!_pos z.cells _ hm]
  exact List.all_eq_true.1 hzo _ (by simp)
theorem row_appends {P : Program} {t e T n m : Nat} {w : World} {v v2 z : Value} {i : TypeInfo} {fs ys : List Value} (hr : RowB e 1 w v n fs) (hT : ∀ w, (underlying t).run P w = .ok (.slice e) w) (hi : ∀ w, (typeInfo e).run P w = .ok i w) (hs : ∀ w, (sizeOf e).run P w = .ok 1 w)
    (hz : ∀ w, (zeroValue e).run P w = .ok z w) (hzs : z.cells.size = 1) (hzo : (z.cells.toList.all one) = true) (hib : decide (i.bytes ≤ 10000) = true) (hn : n + m ≤ 100000) (h0 : 0 < n) (hm : ∀ w, (Builtin.lenOf v2).run P w = .ok m w) (hnew : firstRun P w 1 m v2 ys.toArray) (hys : ys.length = m) (hyo : ∀ y ∈ ys, one y = true) :
    ∃ v' w', AppRun P T #[t, t] #[v, v2] w v' w' ∧ RowB e 1 w' v' (n + m) (fs ++ ys) ∧ (∀ (c : Nat) (x : Obj), blkOf v ≠ some c → w.heap[c]? = some x → w'.heap[c]? = some x) ∧ (blkOf v' = blkOf v ∨ ∃ b, blkOf v' = some b ∧ w.heap.size ≤ b) ∧ w.heap.size ≤ w'.heap.size := by
  have hib := of_decide_eq_true hib
  rcases hr with ⟨rfl, _, _⟩ | ⟨b, k, sp, rfl, ⟨hk0, hk⟩, hfl, hb, hlen, hone⟩
  · omega
  · rw [Nat.mul_one] at hfl hlen
    by_cases hfit : n + m ≤ k
    · have hsp : ys.length ≤ sp.length := by
        simp only [List.length_append] at hlen
        omega
      have e3 : setMany (fs ++ sp).toArray (0 + n * 1) ys.toArray.toList = ((fs ++ ys) ++ sp.drop ys.length).toArray := by
        rw [Nat.zero_add, Nat.mul_one, ← hfl]
        have := setMany_list ys fs sp hsp
        simpa using this
      have hr2 := run_append_fits (P := P) (T := T) (t := t) (t2 := t) (ats := #[t, t]) (off := 0) (b := b) (len := n) (cap := k) (need := n + m) (m := m) (v2 := v2) rfl rfl hT hT hs hm rfl hfit hnew hb (by simpa using hyo) (by simp; omega) e3
      refine ⟨_, _, hr2, .inr ⟨b, k, sp.drop ys.length, rfl, ⟨by omega, hfit⟩, ?_, sb_same hb, ?_, fun s hs' => hone s (List.mem_of_mem_drop hs')⟩, fun c x hn hx => sb_ne (fun e => hn (by rw [e]; rfl)) hx, .inl rfl, by rw [sb_size]; exact Nat.le_refl _⟩
      · simp [hfl, hys]
      · simp only [List.length_append, List.length_drop] at hlen ⊢; omega
    · have hold : firstRun P w 1 n (.slice (some ⟨b, 0, none⟩) n k) fs.toArray := by
        have := first_row (P := P) (sz := 1) (n := n) (len := n) (cap := k) (o := 0) hb (by rw [Nat.mul_one, ← hfl]; simp)
        have e1 : (fs ++ sp).toArray.extract 0 (0 + n * 1) = fs.toArray := by
          rw [Nat.zero_add, Nat.mul_one, ← hfl]; simp
        rw [e1] at this; exact this
      have hmul : (n + m) * i.bytes ≤ 100000 * 10000 := Nat.mul_le_mul hn hib
      obtain ⟨c, hc, hr2⟩ := run_append_grow (P := P) (T := T) (t := t) (t2 := t) (ats := #[t, t]) (need := n + m) rfl rfl hT hT hi hs hz (n := m) (v2 := v2) hm (cap := k) (len := n) rfl (by omega) (by omega) (by omega) (by omega) hold hnew
      have hzc := zc_ok (m := c - (n + m)) hzs hzo
      refine ⟨_, _, hr2, .inr ⟨w.heap.size, c, (Builtin.zeroCells z.cells (c - (n + m))).toList, rfl, ⟨by omega, hc⟩, by simp [hfl, hys], ?_, ?_, hzc.2⟩, fun c' x _ hx => al_old (dr_heap hx), .inr ⟨_, rfl, Nat.le_refl _⟩, by rw [al_size]; exact Nat.le_succ _⟩
      · have e0 : fs.toArray ++ ys.toArray ++ Builtin.zeroCells z.cells (c - (n + m)) = (fs ++ ys ++ (Builtin.zeroCells z.cells (c - (n + m))).toList).toArray := by
          apply Array.ext'; simp
        rw [e0]; exact al_new (w := w.drew)
      · simp only [List.length_append, Array.length_toList]
        rw [hzc.1]
        omega
theorem grow_steps {P : Program} {t e T n m : Nat} {M Mk : Mem} {w wk : World} {v v2 z : Value} {i : TypeInfo} {fs ys : List Value} (h : GRow e 1 M w wk Mk v n fs) (hT : ∀ w, (underlying t).run P w = .ok (.slice e) w) (hi : ∀ w, (typeInfo e).run P w = .ok i w) (hs : ∀ w, (sizeOf e).run P w = .ok 1 w)
    (hz : ∀ w, (zeroValue e).run P w = .ok z w) (hzs : z.cells.size = 1) (hzo : (z.cells.toList.all one) = true) (hib : decide (i.bytes ≤ 10000) = true) (hn : n + m ≤ 100000) (h0 : 0 < n) (hm : ∀ w, (Builtin.lenOf v2).run P w = .ok m w) (hnew : firstRun P wk 1 m v2 ys.toArray) (hys : ys.length = m) (hyo : ∀ y ∈ ys, one y = true) :
    ∃ v' w', AppRun P T #[t, t] #[v, v2] wk v' w' ∧ GRow e 1 M w w' Mk v' (n + m) (fs ++ ys) := by
  obtain ⟨v', w', hr, hR, hk, hb, hsz⟩ := row_appends (T := T) h.row hT hi hs hz hzs hzo hib hn h0 hm hnew hys hyo
  have hown : ∀ b, blkOf v' = some b → w.heap.size ≤ b ∧ Mk b = none := fun b hb' => by
    rcases hb with e1 | ⟨b2, e1, e2⟩
    · exact h.own b (by rw [← e1]; exact hb')
    · rw [e1] at hb'
      cases hb'
      exact ⟨Nat.le_trans h.bl.old.size e2, h.bl.has.none e2⟩
  refine ⟨v', w', hr, ⟨⟨h.bl.sub, fun b x hb' => hk b x (fun e => by have := (h.own b e).2; rw [this] at hb'; cases hb') (h.bl.has b x hb'), h.bl.new, fun b x hb' => ?_⟩, hR, hown⟩⟩
  have hlt := lt_of_heap hb'
  exact hk b x (fun e => by have := (h.own b e).1; omega) (h.bl.old b x hb')
/-- Strings to be appended. -/
theorem rowS.strs {P : Program} {M : Mem} {w : World} {v : Value} {l : List ByteArray} (h : rowS M v l isStr) (hM : Has M w) : (∀ w, (Builtin.lenOf v).run P w = .ok l.length w) ∧ firstRun P w 1 l.length v (l.map Value.string).toArray := by
  rcases h with ⟨rfl, a, c, rfl⟩ | ⟨_, b, o, c, cs, e, fz, rfl, h2, h3, h4, h5⟩
  · refine ⟨fun _ => rfl, ?_⟩
    cases a with
    | none => exact first_nil
    | some a => exact fun w' _ => by simp [Builtin.firstCells, loadCells, loadCellsFrom]
  · refine ⟨fun _ => rfl, ?_⟩
    have := first_row (P := P) (sz := 1) (n := l.length) (len := l.length) (cap := c) (o := o) (hM _ _ h3) (by omega)
    have e1 : cs.extract o (o + l.length * 1) = (l.map Value.string).toArray := by
      apply Array.ext
      · simp; omega
      · intro i h1 h2
        have hi : i < l.length := by simpa using h2
        obtain ⟨y, hy, hy2⟩ := h5 i hi
        have hlt : o + i < cs.size := by omega
        rw [Array.getElem?_eq_getElem hlt] at hy
        simp only [Array.getElem_extract, List.getElem_toArray, List.getElem_map]
        rw [Option.some.inj hy, hy2]
    rw [e1] at this; exact this
end Go.Proofs.YtjaplgfgkigmiaaGreat
