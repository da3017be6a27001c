/-
  Parts of memories that grow; rows as they come in; the small makers of rows.
-/
import Derived.Test.YtjaplgfgkigmiaaGreatAr
import Derived.Laws.IdiomStrings
namespace Go.Proofs.YtjaplgfgkigmiaaGreat
open Go Go.Proofs

abbrev Has (M : Mem) (w : World) : Prop := ∀ (b : Nat) (x : Obj), M b = some x → w.heap[b]? = some x
def Sub (M M' : Mem) : Prop := ∀ (b : Nat) (x : Obj), M b = some x → M' b = some x
theorem Sub.refl {M : Mem} : Sub M M := fun _ _ h => h
theorem Sub.trans {M M' M'' : Mem} (h : Sub M M') (h' : Sub M' M'') : Sub M M'' := fun b x hb => h' b x (h b x hb)
structure Builds (M : Mem) (w w' : World) (M' : Mem) : Prop where
  sub : Sub M M'
  has : Has M' w'
  new : ∀ (b : Nat) (x : Obj), M' b = some x → M b = some x ∨ w.heap.size ≤ b
  old : Old w w'
theorem Builds.refl {M : Mem} {w : World} (h : Has M w) : Builds M w w M := ⟨Sub.refl, h, fun _ _ h => .inl h, Old.refl⟩
theorem Builds.trans {M M' M'' : Mem} {w w' w'' : World} (h : Builds M w w' M') (h' : Builds M' w' w'' M'') : Builds M w w'' M'' :=
  ⟨h.sub.trans h'.sub, h'.has, fun b x hb => (h'.new b x hb).elim (h.new b x) (fun e => .inr (Nat.le_trans h.old.size e)), h.old.trans h'.old⟩
theorem Builds.step {M M' : Mem} {w w' w'' : World} (h : Builds M w w' M') (ho : Old w' w'') : Builds M w w'' M' :=
  ⟨h.sub, fun b x hb => ho b x (h.has b x hb), h.new, h.old.trans ho⟩
def putM (M : Mem) (b : Nat) (x : Obj) : Mem := fun c => if c = b then some x else M c
theorem putM_same {M : Mem} {b : Nat} {x : Obj} : putM M b x b = some x := by simp [putM]
theorem putM_old {M : Mem} {b c : Nat} {x y : Obj} (h : M c = some y) (hn : c ≠ b) : putM M b x c = some y := by simp [putM, hn, h]
theorem Builds.add {M M' : Mem} {w w' : World} {b : Nat} {x : Obj} (h : Builds M w w' M') (hb : w'.heap[b]? = some x) (hn : M' b = none) (hw : w.heap.size ≤ b) : Builds M w w' (putM M' b x) := by
  refine ⟨fun c y hc => putM_old (h.sub c y hc) (fun e => ?_), fun c y hc => ?_, fun c y hc => ?_, h.old⟩
  · subst e; have := h.sub c y hc; rw [hn] at this; cases this
  · unfold putM at hc
    by_cases e : c = b
    · rw [if_pos e] at hc; rw [e, hb, ← hc]
    · rw [if_neg e] at hc; exact h.has c y hc
  · unfold putM at hc
    by_cases e : c = b
    · exact .inr (e ▸ hw)
    · rw [if_neg e] at hc; exact h.new c y hc
/-- A store into a block that is not told. -/
theorem Builds.put {M M' : Mem} {w w' : World} {b : Nat} {o : Obj} (h : Builds M w w' M') (hn : M' b = none) (hw : w.heap.size ≤ b) : Builds M w (w'.setB b o) M' :=
  ⟨h.sub, fun c x hc => sb_ne (fun e => by rw [← e, hn] at hc; cases hc) (h.has c x hc), h.new, h.old.put hw⟩
theorem Has.none {M : Mem} {w : World} {b : Nat} (h : Has M w) (hb : w.heap.size ≤ b) : M b = none := by
  cases hm : M b with
  | none => rfl
  | some x => have := lt_of_heap (h b x hm); omega

/-- A growing row among what is built. -/
structure GRow (e : TypeId) (sz : Nat) (M : Mem) (w wk : World) (Mk : Mem) (v : Value) (n : Nat) (fs : List Value) : Prop where
  bl : Builds M w wk Mk
  row : RowB e sz wk v n fs
  own : ∀ b, blkOf v = some b → w.heap.size ≤ b ∧ Mk b = none
theorem RowB.lt {e : TypeId} {sz n b : Nat} {w : World} {v : Value} {fs : List Value} (h : RowB e sz w v n fs) (hb : blkOf v = some b) : b < w.heap.size := by
  rcases h with ⟨_, _, rfl⟩ | ⟨b', k, sp, rfl, _, _, h3, _⟩
  · cases hb
  · cases hb; exact lt_of_heap h3
theorem GRow.nil {e : TypeId} {sz : Nat} {M : Mem} {w wk : World} {Mk : Mem} (h : Builds M w wk Mk) : GRow e sz M w wk Mk (.slice none 0 0) 0 [] := ⟨h, .inl ⟨rfl, rfl, rfl⟩, fun b hb => by cases hb⟩
/-- Other things built meanwhile. -/
theorem GRow.more {e : TypeId} {sz n : Nat} {M Mk Ma : Mem} {w wk wa : World} {v : Value} {fs : List Value} (h : GRow e sz M w wk Mk v n fs) (hb : Builds Mk wk wa Ma) : GRow e sz M w wa Ma v n fs := by
  refine ⟨h.bl.trans hb, h.row.old fun b _ x hx => hb.old b x hx, fun b e' => ⟨(h.own b e').1, ?_⟩⟩
  cases hm : Ma b with
  | none => rfl
  | some x =>
    rcases hb.new b x hm with h1 | h1
    · rw [(h.own b e').2] at h1; cases h1
    · have := h.row.lt e'; omega
theorem GRow.step {P : Program} {t e T sz n sb : Nat} {M Mk : Mem} {w wk : World} {v z : Value} {i : TypeInfo} {fs ys : List Value} (h : GRow e sz M w wk Mk v n fs) (hT : ∀ w, (underlying t).run P w = .ok (.slice e) w) (hi : ∀ w, (typeInfo e).run P w = .ok i w) (hs : ∀ w, (sizeOf e).run P w = .ok sz w)
    (hz : ∀ w, (zeroValue e).run P w = .ok z w) (hzs : z.cells.size = sz) (hzo : (z.cells.toList.all one) = true) (hib : decide (i.bytes ≤ 10000) = true) (hn : n ≤ 100000) (hsb : wk.heap[sb]? = some (.cells ys.toArray e (0, 0))) (hys : ys.length = sz) (hyo : ∀ y ∈ ys, one y = true) :
    ∃ v' w', AppRun P T #[t, t] #[v, .slice (some ⟨sb, 0, none⟩) 1 1] wk v' w' ∧ GRow e sz M w w' Mk v' (n + 1) (fs ++ ys) ∧ (∀ (c : Nat) (x : Obj), blkOf v ≠ some c → wk.heap[c]? = some x → w'.heap[c]? = some x) := by
  obtain ⟨v', w', h1, h2, h3, h4, h5⟩ := row_append (T := T) h.row hT hi hs hz hzs hzo hib hn hsb hys hyo
  refine ⟨v', w', h1, ⟨⟨h.bl.sub, fun b x hb => h3 b x (fun e' => ?_) (h.bl.has b x hb), h.bl.new, fun b x hb => h3 b x (fun e' => ?_) (h.bl.old b x hb)⟩, h2, fun b e' => ?_⟩, h3⟩
  · rw [(h.own b e').2] at hb; cases hb
  · have := (h.own b e').1; have := lt_of_heap hb; omega
  · rcases h4 with h4 | ⟨b', h4, h6⟩
    · rw [h4] at e'; exact h.own b e'
    · rw [h4] at e'; cases e'
      exact ⟨Nat.le_trans h.bl.old.size h6, h.bl.has.none h6⟩

/-! ### Rows as they come in -/
def rowS {α : Type} (M : Mem) (v : Value) (l : List α) (R : Value → α → Prop) : Prop :=
  (l = [] ∧ ∃ a c, v = .slice a 0 c) ∨ (l ≠ [] ∧ ∃ (b o c : Nat) (cs : Array Value) (e : TypeId) (fz : Nat × Nat), v = .slice (some ⟨b, o, none⟩) l.length c ∧ l.length ≤ c ∧ M b = some (.cells cs e fz) ∧ o + l.length ≤ cs.size ∧
    ∀ i (h : i < l.length), ∃ y, cs[o + i]? = some y ∧ R y l[i])
def rowM {α : Type} (sz : Nat) (M : Mem) (v : Value) (l : List α) (R : Array Value → α → Prop) : Prop :=
  (l = [] ∧ ∃ a c, v = .slice a 0 c) ∨ (l ≠ [] ∧ ∃ (b o c : Nat) (cs : Array Value) (e : TypeId) (fz : Nat × Nat), v = .slice (some ⟨b, o, none⟩) l.length c ∧ l.length ≤ c ∧ M b = some (.cells cs e fz) ∧ o + l.length * sz ≤ cs.size ∧
    ∀ i (h : i < l.length), R (cs.extract (o + i * sz) (o + i * sz + sz)) l[i])
theorem rowR.rowS {α : Type} {M : Mem} {v : Value} {l : List α} {R : Value → α → Prop} (h : rowR M v l R) : rowS M v l R := by
  rcases h with ⟨h1, h2⟩ | h
  · exact .inl ⟨h1, _, _, h2⟩
  · exact .inr h
theorem rowR.sub {α : Type} {M M' : Mem} {v : Value} {l : List α} {R R' : Value → α → Prop} (h : rowR M v l R) (hs : Sub M M') (hR : ∀ y a, R y a → R' y a) : rowR M' v l R' := by
  rcases h with h | ⟨hl, b, o, c, cs, e, fz, h1, h2, h3, h4, h5⟩
  · exact .inl h
  · exact .inr ⟨hl, b, o, c, cs, e, fz, h1, h2, hs _ _ h3, h4, fun i hi => by obtain ⟨y, hy, hr⟩ := h5 i hi; exact ⟨y, hy, hR _ _ hr⟩⟩
theorem rowS.sub {α : Type} {M M' : Mem} {v : Value} {l : List α} {R R' : Value → α → Prop} (h : rowS M v l R) (hs : Sub M M') (hR : ∀ y a, R y a → R' y a) : rowS M' v l R' := by
  rcases h with h | ⟨hl, b, o, c, cs, e, fz, h1, h2, h3, h4, h5⟩
  · exact .inl h
  · exact .inr ⟨hl, b, o, c, cs, e, fz, h1, h2, hs _ _ h3, h4, fun i hi => by obtain ⟨y, hy, hr⟩ := h5 i hi; exact ⟨y, hy, hR _ _ hr⟩⟩
theorem rowM.sub {α : Type} {sz : Nat} {M M' : Mem} {v : Value} {l : List α} {R R' : Array Value → α → Prop} (h : rowM sz M v l R) (hs : Sub M M') (hR : ∀ y a, R y a → R' y a) : rowM sz M' v l R' := by
  rcases h with h | ⟨hl, b, o, c, cs, e, fz, h1, h2, h3, h4, h5⟩
  · exact .inl h
  · exact .inr ⟨hl, b, o, c, cs, e, fz, h1, h2, hs _ _ h3, h4, fun i hi => hR _ _ (h5 i hi)⟩
/-- A slice of so many elements. -/
def isLen (v : Value) (n : Nat) : Prop := ∃ a c, v = .slice a n c
theorem rowS.len {α : Type} {M : Mem} {v : Value} {l : List α} {R : Value → α → Prop} (h : rowS M v l R) : isLen v l.length := by
  rcases h with ⟨rfl, a, c, rfl⟩ | ⟨_, b, o, c, _, _, _, rfl, _⟩
  · exact ⟨a, c, rfl⟩
  · exact ⟨_, c, rfl⟩
theorem rowM.len {α : Type} {sz : Nat} {M : Mem} {v : Value} {l : List α} {R : Array Value → α → Prop} (h : rowM sz M v l R) : isLen v l.length := by
  rcases h with ⟨rfl, a, c, rfl⟩ | ⟨_, b, o, c, _, _, _, rfl, _⟩
  · exact ⟨a, c, rfl⟩
  · exact ⟨_, c, rfl⟩
theorem gr_cv {n : Nat} {P : Program} {Q : Exit → Act → World → Prop} {k : List KItem} {ops : Array Oper} {rest : List Oper} {l : Slots} {w : World} {op : Op} {T : TypeId} {pos : String} {aft : Array Edge} {d sz : Nat} {V : Nat → Value} {W : Nat → Nat × Nat → World}
    (he : ∃ (c : Nat) (fz : Nat × Nat), sz ≤ c ∧ EV P l op T w (V c) (W c fz)) (h : ∀ c fz, sz ≤ c → GR n P ops Q k rest ((d, V c) :: l) (W c fz)) (hd : d < n := by decide) : GR n P ops Q k (⟨some d, op, T, pos, aft, none⟩ :: rest) l w := by
  obtain ⟨c, fz, hc, he⟩ := he
  exact gr_v he (h c fz hc) hd
theorem ev_lenL {P : Program} {l : Slots} {w : World} {T : TypeId} {x : Operand} {v : Value} {n : Nat} {ats : Array TypeId} (h : isLen v n) (hx : ev l x = some v) (hT : ∃ t0, ats[0]? = some t0 ∧ ∃ e, ∀ w, (underlying t0).run P w = .ok (.slice e) w) :
    EV P l (.call ⟨.builtin .len, #[x], ats⟩) T w (.int .i64 n) w := by
  obtain ⟨a, c, rfl⟩ := h
  exact ev_len hx hT
/-- The row that was grown, told as a row. -/
theorem GRow.done {α : Type} {e : TypeId} {M Mk : Mem} {w wk : World} {v : Value} {l : List α} {fs : List Value} {R : Value → α → Prop} (h : GRow e 1 M w wk Mk v l.length fs) (hR : ∀ i (hi : i < l.length), ∃ y, fs[i]? = some y ∧ R y l[i]) :
    ∃ M', Builds M w wk M' ∧ Sub Mk M' ∧ rowR M' v l R ∧ ∀ c, Mk c = none → blkOf v ≠ some c → M' c = none := by
  rcases h.row with ⟨h1, h2, h3⟩ | ⟨b, k, sp, rfl, h1, h2, h3, h4, h5⟩
  · exact ⟨Mk, h.bl, Sub.refl, .inl ⟨List.length_eq_zero_iff.1 h1, h3⟩, fun c hc _ => hc⟩
  · have ho := h.own b rfl
    by_cases hl : l = []
    · subst hl
      exact absurd h1.1 (by simp)
    · refine ⟨_, h.bl.add h3 ho.2 ho.1, fun c y hc => putM_old hc (fun e' => by rw [e', ho.2] at hc; cases hc), .inr ⟨hl, b, 0, k, _, e, (0, 0), rfl, h1.2, putM_same, by simp; omega, fun i hi => ?_⟩, fun c hc hn => ?_⟩
      case refine_2 => exact (if_neg (fun e' => hn (by rw [e']; rfl))).trans hc
      obtain ⟨y, hy, hr⟩ := hR i hi
      refine ⟨y, ?_, hr⟩
      have hlt : i < fs.length := by omega
      simp [Nat.zero_add, List.getElem?_append_left hlt, hy]


theorem ev_stringeql {P : Program} {l : Slots} {w : World} {T t u : TypeId} {x y : Operand} {a b : ByteArray} (hx : ev l x = some (.string a)) (hy : ev l y = some (.string b)) :
    EV P l (.binOp .eql t x y u) T w (.bool (a.data.toList == b.data.toList)) w := ev_of <| fun ρ o ho _ hρ => by
  simp [execOp, ho, hρ _ _ hx, hρ _ _ hy, eqGuard, binOp, Op.stringOp, ByteArray.toList_eq]
theorem bytesRow_eq (s : ByteArray) (c : Nat) : bytesRow s c = (s.data.toList.map B ++ List.replicate (c - s.size) (Value.int .u8 0)).toArray := by
  apply Array.ext'
  simp [bytesRow, B]
/-- '[]byte(s)'. -/
theorem ev_bytes {l : Slots} {w : World} {T : TypeId} {x : Operand} {s : ByteArray} (hx : ev l x = some (.string s)) :
    ∃ (c : Nat) (fz : Nat × Nat), s.size ≤ c ∧ EV Tryz.prog l (.convert 9 69 x) T w (.slice (some ⟨w.heap.size, 0, none⟩) s.size c) (w.drew.alloc (.cells (s.data.toList.map B ++ List.replicate (c - s.size) (Value.int .u8 0)).toArray 5 fz)) := by
  refine ⟨grownCap w s.size 0 5, ((bytesRow s (grownCap w s.size 0 5)).size, (bytesRow s (grownCap w s.size 0 5)).size + 1), by simp [grownCap, Question.cut], ev_of (fun ρ o ho _ hρ => ?_)⟩
  have h := run_bytes_of_string (P := Tryz.prog) w 9 69 5 s (by kernel_rfl) (by kernel_rfl) (by kernel_rfl)
  rw [show (bytesRow s (grownCap w s.size 0 5)) = _ from bytesRow_eq s _] at h ⊢
  simp only [execOp, ho, hρ _ _ hx, Sem.run_bind, h, Result.andThen_ok, Sem.run_pure]

theorem i49 {α : Type} {M : Mem} {v : Value} {l : List α} {R : Value → α → Prop} (h : rowS M v l R) (w : World) : CR Tryz.prog 49 #[v] w (fun v' w' => rowR M v' l R ∧ w = w') := by
  rcases h with ⟨rfl, a, c, rfl⟩ | ⟨hl, h⟩
  · skip
    refine cr_enter Tryz.func49 rfl Tryz.ntmps49 ?_
    refine gk_seq ?_
    refine gk_region ?_
    refine gr_v (ev_as rfl) ?_
    refine gr_nil ?_
    refine gk_seq ?_
    refine gk_seq ?_
    refine gk_region ?_
    refine gr_v (ev_mv rfl) ?_
    refine gr_v (ev_len rfl ⟨_, rfl, _, Tryz.runUnderlying28⟩) ?_
    refine gr_v (ev_eql rfl rfl) ?_
    refine gr_nil ?_
    refine gk_true rfl (rfl) ?_
    refine gk_seq ?_
    refine gk_region ?_
    refine gr_v (ev_as rfl) ?_
    refine gr_nil ?_
    refine gk_ret1 Tryz.results49 rfl ?_
    exact ⟨_, rfl, .inl ⟨rfl, rfl⟩, rfl⟩
  · obtain ⟨b, o, c, cs, e, fz, rfl, h2, h3, h4, h5⟩ := h
    have hl0 : ¬ l.length = 0 := fun h => hl (List.length_eq_zero_iff.1 h)
    refine cr_enter Tryz.func49 rfl Tryz.ntmps49 ?_
    refine gk_seq ?_
    refine gk_region ?_
    refine gr_v (ev_as rfl) ?_
    refine gr_nil ?_
    refine gk_seq ?_
    refine gk_seq ?_
    refine gk_region ?_
    refine gr_v (ev_mv rfl) ?_
    refine gr_v (ev_len rfl ⟨_, rfl, _, Tryz.runUnderlying28⟩) ?_
    refine gr_v (ev_eql rfl rfl) ?_
    refine gr_nil ?_
    refine gk_false rfl (beq_eq_false_iff_ne.2 (by omega)) ?_
    refine gk_skip ?_
    refine gk_seq ?_
    refine gk_region ?_
    refine gr_v (ev_mv rfl) ?_
    refine gr_v (ev_as rfl) ?_
    refine gr_nil ?_
    refine gk_ret1 Tryz.results49 rfl ?_
    exact ⟨_, rfl, .inr ⟨hl, b, o, c, cs, e, fz, rfl, h2, h3, h4, h5⟩, rfl⟩

theorem i50 {α : Type} {M : Mem} {v : Value} {l : List α} {R : Value → α → Prop} (h : rowS M v l R) (w : World) : CR Tryz.prog 50 #[v] w (fun v' w' => rowR M v' l R ∧ w = w') := by
  rcases h with ⟨rfl, a, c, rfl⟩ | ⟨hl, h⟩
  · skip
    refine cr_enter Tryz.func50 rfl Tryz.ntmps50 ?_
    refine gk_seq ?_
    refine gk_region ?_
    refine gr_v (ev_as rfl) ?_
    refine gr_nil ?_
    refine gk_seq ?_
    refine gk_seq ?_
    refine gk_region ?_
    refine gr_v (ev_mv rfl) ?_
    refine gr_v (ev_len rfl ⟨_, rfl, _, Tryz.runUnderlying32⟩) ?_
    refine gr_v (ev_eql rfl rfl) ?_
    refine gr_nil ?_
    refine gk_true rfl (rfl) ?_
    refine gk_seq ?_
    refine gk_region ?_
    refine gr_v (ev_as rfl) ?_
    refine gr_nil ?_
    refine gk_ret1 Tryz.results50 rfl ?_
    exact ⟨_, rfl, .inl ⟨rfl, rfl⟩, rfl⟩
  · obtain ⟨b, o, c, cs, e, fz, rfl, h2, h3, h4, h5⟩ := h
    have hl0 : ¬ l.length = 0 := fun h => hl (List.length_eq_zero_iff.1 h)
    refine cr_enter Tryz.func50 rfl Tryz.ntmps50 ?_
    refine gk_seq ?_
    refine gk_region ?_
    refine gr_v (ev_as rfl) ?_
    refine gr_nil ?_
    refine gk_seq ?_
    refine gk_seq ?_
    refine gk_region ?_
    refine gr_v (ev_mv rfl) ?_
    refine gr_v (ev_len rfl ⟨_, rfl, _, Tryz.runUnderlying32⟩) ?_
    refine gr_v (ev_eql rfl rfl) ?_
    refine gr_nil ?_
    refine gk_false rfl (beq_eq_false_iff_ne.2 (by omega)) ?_
    refine gk_skip ?_
    refine gk_seq ?_
    refine gk_region ?_
    refine gr_v (ev_mv rfl) ?_
    refine gr_v (ev_as rfl) ?_
    refine gr_nil ?_
    refine gk_ret1 Tryz.results50 rfl ?_
    exact ⟨_, rfl, .inr ⟨hl, b, o, c, cs, e, fz, rfl, h2, h3, h4, h5⟩, rfl⟩

theorem i52 {α : Type} {M : Mem} {v : Value} {l : List α} {R : Value → α → Prop} (h : rowS M v l R) (w : World) : CR Tryz.prog 52 #[v] w (fun v' w' => rowR M v' l R ∧ w = w') := by
  rcases h with ⟨rfl, a, c, rfl⟩ | ⟨hl, h⟩
  · skip
    refine cr_enter Tryz.func52 rfl Tryz.ntmps52 ?_
    refine gk_seq ?_
    refine gk_region ?_
    refine gr_v (ev_as rfl) ?_
    refine gr_nil ?_
    refine gk_seq ?_
    refine gk_seq ?_
    refine gk_region ?_
    refine gr_v (ev_mv rfl) ?_
    refine gr_v (ev_len rfl ⟨_, rfl, _, Tryz.runUnderlying34⟩) ?_
    refine gr_v (ev_eql rfl rfl) ?_
    refine gr_nil ?_
    refine gk_true rfl (rfl) ?_
    refine gk_seq ?_
    refine gk_region ?_
    refine gr_v (ev_as rfl) ?_
    refine gr_nil ?_
    refine gk_ret1 Tryz.results52 rfl ?_
    exact ⟨_, rfl, .inl ⟨rfl, rfl⟩, rfl⟩
  · obtain ⟨b, o, c, cs, e, fz, rfl, h2, h3, h4, h5⟩ := h
    have hl0 : ¬ l.length = 0 := fun h => hl (List.length_eq_zero_iff.1 h)
    refine cr_enter Tryz.func52 rfl Tryz.ntmps52 ?_
    refine gk_seq ?_
    refine gk_region ?_
    refine gr_v (ev_as rfl) ?_
    refine gr_nil ?_
    refine gk_seq ?_
    refine gk_seq ?_
    refine gk_region ?_
    refine gr_v (ev_mv rfl) ?_
    refine gr_v (ev_len rfl ⟨_, rfl, _, Tryz.runUnderlying34⟩) ?_
    refine gr_v (ev_eql rfl rfl) ?_
    refine gr_nil ?_
    refine gk_false rfl (beq_eq_false_iff_ne.2 (by omega)) ?_
    refine gk_skip ?_
    refine gk_seq ?_
    refine gk_region ?_
    refine gr_v (ev_mv rfl) ?_
    refine gr_v (ev_as rfl) ?_
    refine gr_nil ?_
    refine gk_ret1 Tryz.results52 rfl ?_
    exact ⟨_, rfl, .inr ⟨hl, b, o, c, cs, e, fz, rfl, h2, h3, h4, h5⟩, rfl⟩

theorem i54 {α : Type} {M : Mem} {v : Value} {l : List α} {R : Value → α → Prop} (h : rowS M v l R) (w : World) : CR Tryz.prog 54 #[v] w (fun v' w' => rowR M v' l R ∧ w = w') := by
  rcases h with ⟨rfl, a, c, rfl⟩ | ⟨hl, h⟩
  · skip
    refine cr_enter Tryz.func54 rfl Tryz.ntmps54 ?_
    refine gk_seq ?_
    refine gk_region ?_
    refine gr_v (ev_as rfl) ?_
    refine gr_nil ?_
    refine gk_seq ?_
    refine gk_seq ?_
    refine gk_region ?_
    refine gr_v (ev_mv rfl) ?_
    refine gr_v (ev_len rfl ⟨_, rfl, _, Tryz.runUnderlying35⟩) ?_
    refine gr_v (ev_eql rfl rfl) ?_
    refine gr_nil ?_
    refine gk_true rfl (rfl) ?_
    refine gk_seq ?_
    refine gk_region ?_
    refine gr_v (ev_as rfl) ?_
    refine gr_nil ?_
    refine gk_ret1 Tryz.results54 rfl ?_
    exact ⟨_, rfl, .inl ⟨rfl, rfl⟩, rfl⟩
  · obtain ⟨b, o, c, cs, e, fz, rfl, h2, h3, h4, h5⟩ := h
    have hl0 : ¬ l.length = 0 := fun h => hl (List.length_eq_zero_iff.1 h)
    refine cr_enter Tryz.func54 rfl Tryz.ntmps54 ?_
    refine gk_seq ?_
    refine gk_region ?_
    refine gr_v (ev_as rfl) ?_
    refine gr_nil ?_
    refine gk_seq ?_
    refine gk_seq ?_
    refine gk_region ?_
    refine gr_v (ev_mv rfl) ?_
    refine gr_v (ev_len rfl ⟨_, rfl, _, Tryz.runUnderlying35⟩) ?_
    refine gr_v (ev_eql rfl rfl) ?_
    refine gr_nil ?_
    refine gk_false rfl (beq_eq_false_iff_ne.2 (by omega)) ?_
    refine gk_skip ?_
    refine gk_seq ?_
    refine gk_region ?_
    refine gr_v (ev_mv rfl) ?_
    refine gr_v (ev_as rfl) ?_
    refine gr_nil ?_
    refine gk_ret1 Tryz.results54 rfl ?_
    exact ⟨_, rfl, .inr ⟨hl, b, o, c, cs, e, fz, rfl, h2, h3, h4, h5⟩, rfl⟩

theorem i26 {α : Type} {M : Mem} {v : Value} {l : List α} {R : Value → α → Prop} (h : rowS M v l R) (w : World) : CR Tryz.prog 26 #[v] w (fun v' w' => rowR M v' l R ∧ w = w') := by
  rcases h with ⟨rfl, a, c, rfl⟩ | ⟨hl, h⟩
  · skip
    refine cr_enter Tryz.func26 rfl Tryz.ntmps26 ?_
    refine gk_seq ?_
    refine gk_region ?_
    refine gr_v (ev_as rfl) ?_
    refine gr_nil ?_
    refine gk_seq ?_
    refine gk_seq ?_
    refine gk_region ?_
    refine gr_v (ev_mv rfl) ?_
    refine gr_v (ev_len rfl ⟨_, rfl, _, Tryz.runUnderlying28⟩) ?_
    refine gr_v (ev_eql rfl rfl) ?_
    refine gr_nil ?_
    refine gk_true rfl (rfl) ?_
    refine gk_seq ?_
    refine gk_region ?_
    refine gr_v (ev_as rfl) ?_
    refine gr_nil ?_
    refine gk_ret1 Tryz.results26 rfl ?_
    exact ⟨_, rfl, .inl ⟨rfl, rfl⟩, rfl⟩
  · obtain ⟨b, o, c, cs, e, fz, rfl, h2, h3, h4, h5⟩ := h
    have hl0 : ¬ l.length = 0 := fun h => hl (List.length_eq_zero_iff.1 h)
    refine cr_enter Tryz.func26 rfl Tryz.ntmps26 ?_
    refine gk_seq ?_
    refine gk_region ?_
    refine gr_v (ev_as rfl) ?_
    refine gr_nil ?_
    refine gk_seq ?_
    refine gk_seq ?_
    refine gk_region ?_
    refine gr_v (ev_mv rfl) ?_
    refine gr_v (ev_len rfl ⟨_, rfl, _, Tryz.runUnderlying28⟩) ?_
    refine gr_v (ev_eql rfl rfl) ?_
    refine gr_nil ?_
    refine gk_false rfl (beq_eq_false_iff_ne.2 (by omega)) ?_
    refine gk_skip ?_
    refine gk_seq ?_
    refine gk_region ?_
    refine gr_v (ev_mv rfl) ?_
    refine gr_v (ev_as rfl) ?_
    refine gr_nil ?_
    refine gk_ret1 Tryz.results26 rfl ?_
    exact ⟨_, rfl, .inr ⟨hl, b, o, c, cs, e, fz, rfl, h2, h3, h4, h5⟩, rfl⟩

theorem i29 {α : Type} {M : Mem} {v : Value} {l : List α} {R : Value → α → Prop} (h : rowS M v l R) (w : World) : CR Tryz.prog 29 #[v] w (fun v' w' => rowR M v' l R ∧ w = w') := by
  rcases h with ⟨rfl, a, c, rfl⟩ | ⟨hl, h⟩
  · skip
    refine cr_enter Tryz.func29 rfl Tryz.ntmps29 ?_
    refine gk_seq ?_
    refine gk_region ?_
    refine gr_v (ev_as rfl) ?_
    refine gr_nil ?_
    refine gk_seq ?_
    refine gk_seq ?_
    refine gk_region ?_
    refine gr_v (ev_mv rfl) ?_
    refine gr_v (ev_len rfl ⟨_, rfl, _, Tryz.runUnderlying32⟩) ?_
    refine gr_v (ev_eql rfl rfl) ?_
    refine gr_nil ?_
    refine gk_true rfl (rfl) ?_
    refine gk_seq ?_
    refine gk_region ?_
    refine gr_v (ev_as rfl) ?_
    refine gr_nil ?_
    refine gk_ret1 Tryz.results29 rfl ?_
    exact ⟨_, rfl, .inl ⟨rfl, rfl⟩, rfl⟩
  · obtain ⟨b, o, c, cs, e, fz, rfl, h2, h3, h4, h5⟩ := h
    have hl0 : ¬ l.length = 0 := fun h => hl (List.length_eq_zero_iff.1 h)
    refine cr_enter Tryz.func29 rfl Tryz.ntmps29 ?_
    refine gk_seq ?_
    refine gk_region ?_
    refine gr_v (ev_as rfl) ?_
    refine gr_nil ?_
    refine gk_seq ?_
    refine gk_seq ?_
    refine gk_region ?_
    refine gr_v (ev_mv rfl) ?_
    refine gr_v (ev_len rfl ⟨_, rfl, _, Tryz.runUnderlying32⟩) ?_
    refine gr_v (ev_eql rfl rfl) ?_
    refine gr_nil ?_
    refine gk_false rfl (beq_eq_false_iff_ne.2 (by omega)) ?_
    refine gk_skip ?_
    refine gk_seq ?_
    refine gk_region ?_
    refine gr_v (ev_mv rfl) ?_
    refine gr_v (ev_as rfl) ?_
    refine gr_nil ?_
    refine gk_ret1 Tryz.results29 rfl ?_
    exact ⟨_, rfl, .inr ⟨hl, b, o, c, cs, e, fz, rfl, h2, h3, h4, h5⟩, rfl⟩

theorem i33 {α : Type} {M : Mem} {v : Value} {l : List α} {R : Value → α → Prop} (h : rowS M v l R) (w : World) : CR Tryz.prog 33 #[v] w (fun v' w' => rowR M v' l R ∧ w = w') := by
  rcases h with ⟨rfl, a, c, rfl⟩ | ⟨hl, h⟩
  · skip
    refine cr_enter Tryz.func33 rfl Tryz.ntmps33 ?_
    refine gk_seq ?_
    refine gk_region ?_
    refine gr_v (ev_as rfl) ?_
    refine gr_nil ?_
    refine gk_seq ?_
    refine gk_seq ?_
    refine gk_region ?_
    refine gr_v (ev_mv rfl) ?_
    refine gr_v (ev_len rfl ⟨_, rfl, _, Tryz.runUnderlying34⟩) ?_
    refine gr_v (ev_eql rfl rfl) ?_
    refine gr_nil ?_
    refine gk_true rfl (rfl) ?_
    refine gk_seq ?_
    refine gk_region ?_
    refine gr_v (ev_as rfl) ?_
    refine gr_nil ?_
    refine gk_ret1 Tryz.results33 rfl ?_
    exact ⟨_, rfl, .inl ⟨rfl, rfl⟩, rfl⟩
  · obtain ⟨b, o, c, cs, e, fz, rfl, h2, h3, h4, h5⟩ := h
    have hl0 : ¬ l.length = 0 := fun h => hl (List.length_eq_zero_iff.1 h)
    refine cr_enter Tryz.func33 rfl Tryz.ntmps33 ?_
    refine gk_seq ?_
    refine gk_region ?_
    refine gr_v (ev_as rfl) ?_
    refine gr_nil ?_
    refine gk_seq ?_
    refine gk_seq ?_
    refine gk_region ?_
    refine gr_v (ev_mv rfl) ?_
    refine gr_v (ev_len rfl ⟨_, rfl, _, Tryz.runUnderlying34⟩) ?_
    refine gr_v (ev_eql rfl rfl) ?_
    refine gr_nil ?_
    refine gk_false rfl (beq_eq_false_iff_ne.2 (by omega)) ?_
    refine gk_skip ?_
    refine gk_seq ?_
    refine gk_region ?_
    refine gr_v (ev_mv rfl) ?_
    refine gr_v (ev_as rfl) ?_
    refine gr_nil ?_
    refine gk_ret1 Tryz.results33 rfl ?_
    exact ⟨_, rfl, .inr ⟨hl, b, o, c, cs, e, fz, rfl, h2, h3, h4, h5⟩, rfl⟩

theorem i34 {α : Type} {M : Mem} {v : Value} {l : List α} {R : Value → α → Prop} (h : rowS M v l R) (w : World) : CR Tryz.prog 34 #[v] w (fun v' w' => rowR M v' l R ∧ w = w') := by
  rcases h with ⟨rfl, a, c, rfl⟩ | ⟨hl, h⟩
  · skip
    refine cr_enter Tryz.func34 rfl Tryz.ntmps34 ?_
    refine gk_seq ?_
    refine gk_region ?_
    refine gr_v (ev_as rfl) ?_
    refine gr_nil ?_
    refine gk_seq ?_
    refine gk_seq ?_
    refine gk_region ?_
    refine gr_v (ev_mv rfl) ?_
    refine gr_v (ev_len rfl ⟨_, rfl, _, Tryz.runUnderlying35⟩) ?_
    refine gr_v (ev_eql rfl rfl) ?_
    refine gr_nil ?_
    refine gk_true rfl (rfl) ?_
    refine gk_seq ?_
    refine gk_region ?_
    refine gr_v (ev_as rfl) ?_
    refine gr_nil ?_
    refine gk_ret1 Tryz.results34 rfl ?_
    exact ⟨_, rfl, .inl ⟨rfl, rfl⟩, rfl⟩
  · obtain ⟨b, o, c, cs, e, fz, rfl, h2, h3, h4, h5⟩ := h
    have hl0 : ¬ l.length = 0 := fun h => hl (List.length_eq_zero_iff.1 h)
    refine cr_enter Tryz.func34 rfl Tryz.ntmps34 ?_
    refine gk_seq ?_
    refine gk_region ?_
    refine gr_v (ev_as rfl) ?_
    refine gr_nil ?_
    refine gk_seq ?_
    refine gk_seq ?_
    refine gk_region ?_
    refine gr_v (ev_mv rfl) ?_
    refine gr_v (ev_len rfl ⟨_, rfl, _, Tryz.runUnderlying35⟩) ?_
    refine gr_v (ev_eql rfl rfl) ?_
    refine gr_nil ?_
    refine gk_false rfl (beq_eq_false_iff_ne.2 (by omega)) ?_
    refine gk_skip ?_
    refine gk_seq ?_
    refine gk_region ?_
    refine gr_v (ev_mv rfl) ?_
    refine gr_v (ev_as rfl) ?_
    refine gr_nil ?_
    refine gk_ret1 Tryz.results34 rfl ?_
    exact ⟨_, rfl, .inr ⟨hl, b, o, c, cs, e, fz, rfl, h2, h3, h4, h5⟩, rfl⟩

theorem b47 (s : ByteArray) {M : Mem} {w : World} (hM : Has M w) : CR Tryz.prog 47 #[.string s] w (fun v' w' => ∃ M', Builds M w w' M' ∧ rowR M' v' s.data.toList isB) := by
  by_cases hs : s.data.toList = []
  · skip
    refine cr_enter Tryz.func47 rfl Tryz.ntmps47 ?_
    refine gk_seq ?_
    refine gk_region ?_
    refine gr_v (ev_as rfl) ?_
    refine gr_nil ?_
    refine gk_seq ?_
    refine gk_seq ?_
    refine gk_region ?_
    refine gr_v (ev_mv rfl) ?_
    refine gr_v (ev_stringeql rfl rfl) ?_
    refine gr_nil ?_
    refine gk_true rfl (by rw [hs]; rfl) ?_
    refine gk_seq ?_
    refine gk_region ?_
    refine gr_v (ev_as rfl) ?_
    refine gr_nil ?_
    refine gk_ret1 Tryz.results47 rfl ?_
    exact ⟨_, rfl, M, Builds.refl hM, .inl ⟨hs, rfl⟩⟩
  · have hsz : s.data.toList.length = s.size := rfl
    refine cr_enter Tryz.func47 rfl Tryz.ntmps47 ?_
    refine gk_seq ?_
    refine gk_region ?_
    refine gr_v (ev_as rfl) ?_
    refine gr_nil ?_
    refine gk_seq ?_
    refine gk_seq ?_
    refine gk_region ?_
    refine gr_v (ev_mv rfl) ?_
    refine gr_v (ev_stringeql rfl rfl) ?_
    refine gr_nil ?_
    refine gk_false rfl (by rw [beq_eq_false_iff_ne]; exact hs) ?_
    refine gk_skip ?_
    refine gk_seq ?_
    refine gk_region ?_
    refine gr_v (ev_mv rfl) ?_
    refine gr_cv (ev_bytes rfl) ?_
    intro c fz hc
    refine gr_v (ev_as rfl) ?_
    refine gr_nil ?_
    refine gk_ret1 Tryz.results47 rfl ?_
    refine ⟨_, rfl, _, ((Builds.refl hM).step (show Old w (w.drew.alloc _) from Old.alloc (w := w.drew))).add (al_new (w := w.drew)) (hM.none (Nat.le_refl _)) (Nat.le_refl _), .inr ⟨hs, _, 0, c, _, 5, fz, rfl, hc, putM_same, (by rw [List.size_toArray, List.length_append, List.length_map]; omega), fun i hi => ⟨B s.data.toList[i], ?_, rfl⟩⟩⟩
    have hlt : i < (s.data.toList.map B).length := by simpa using hi
    rw [Nat.zero_add, List.getElem?_toArray, List.getElem?_append_left hlt, List.getElem?_map, List.getElem?_eq_getElem hi]; rfl
end Go.Proofs.YtjaplgfgkigmiaaGreat