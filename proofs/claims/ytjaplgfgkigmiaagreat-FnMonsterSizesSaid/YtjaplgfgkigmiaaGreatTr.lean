/-
  The makers of rows that build what the rows point to.
-/
import Derived.Test.YtjaplgfgkigmiaaGreatSd
namespace Go.Proofs.YtjaplgfgkigmiaaGreat
open Go Go.Proofs

section
variable {n : Nat} {P : Program} {Q : Exit → Act → World → Prop} {k : List KItem} {ops : Array Oper} {rest : List Oper} {l : Slots} {w : World} {T T2 t : TypeId} {pos pos2 : String} {aft aft2 : Array Edge} {d : Nat} {x : Operand}
theorem gr_box {v : Value} (hx : ev l x = some v) (h : ∀ w', Old w w' → w'.heap[w.heap.size]? = some (.cells v.cells t (0, 0)) → w'.heap.size = w.heap.size + 1 → GR n P ops Q k rest ((d, .pointer (some ⟨w.heap.size, 0, none⟩)) :: l) w') (hd : d < n := by decide) :
    GR n P ops Q k (⟨some d, .box t x, T, pos, aft, none⟩ :: rest) l w := gr_v (ev_box hx) (h _ Old.alloc al_new al_size) hd
theorem gr_bs {v z : Value} {ys : List Value} {e sz : Nat} (hx : ev l x = some v) (hv : v.cells = ys.toArray) (hys : ys.length = sz) (hT : ∀ w, (underlying t).run P w = .ok (.slice e) w) (hs : ∀ w, (sizeOf e).run P w = .ok sz w) (hz : ∀ w, (zeroValue e).run P w = .ok z w)
    (hsz : decide (0 < sz ∧ sz ≤ 1000) = true) (hzs : z.cells.size = sz) (h : ∀ w', Old w w' → w'.heap[w.heap.size]? = some (.cells ys.toArray e (0, 0)) → w'.heap.size = w.heap.size + 1 → GR n P ops Q k rest ((d, .slice (some ⟨w.heap.size, 0, none⟩) 1 1) :: l) w') (hd : d < n := by decide) :
    GR n P ops Q k (⟨some d, .buildSlice t 1 #[(0, x)], T, pos, aft, none⟩ :: rest) l w := gr_v (ev_bsn hx hv hys hT hs hz hsz hzs) (h _ Old.alloc al_new al_size) hd

/-- A whole variable stored. -/
theorem es_sta {cs cs' : Array Value} {e b sz : Nat} {y : Operand} (hx : ev l x = some (.pointer (some ⟨b, 0, none⟩))) (hy : ev l y = some (.agg cs')) (hs : ∀ w, (sizeOf t).run P w = .ok sz w) (hb : w.heap[b]? = some (.cells cs e (0, 0))) (h1 : cs.size = sz) (h2 : cs'.size = sz) (ho : ∀ v ∈ cs'.toList, one v = true) :
    ES P l (.store t x y) T w (w.setB b (.cells cs' e (0, 0))) := es_of <| fun ρ o hoo _ h => by
  have hr := run_storeCells (P := P) (i := 0) cs'.toList 0 w cs hb ho (by simp; omega)
  have e1 : setMany cs (0 + 0) cs'.toList = cs' := by
    have := setMany_list cs'.toList [] cs.toList (by simp; omega)
    simp only [List.nil_append, List.length_nil] at this
    have e2 : cs.toList.toArray = cs := by simp
    rw [e2] at this
    rw [Nat.zero_add, this]
    have e3 : cs.toList.drop cs'.toList.length = [] := by apply List.drop_of_length_le; simp; omega
    rw [e3]; simp
  rw [e1] at hr
  simp only [execOp, hoo, h _ _ hx, h _ _ hy, Instr.storeAt]
  simp [Instr.sureAddr, storeVar, hs, Value.cells, h2, hr]
/-- A variable made. -/
theorem gr_var {z : Value} {cs : Array Value} {sz : Nat} {y : Operand} (hz : ∀ w, (zeroValue t).run P w = .ok z w) (hs : ∀ w, (sizeOf t).run P w = .ok sz w) (hzs : z.cells.size = sz) (hy : ev ((d, .pointer (some ⟨w.heap.size, 0, none⟩)) :: l) y = some (.agg cs)) (h2 : cs.size = sz) (ho : ∀ v ∈ cs.toList, one v = true)
    (h : ∀ w', Old w w' → w'.heap[w.heap.size]? = some (.cells cs t (0, 0)) → w'.heap.size = w.heap.size + 1 → GR n P ops Q k rest ((d, .pointer (some ⟨w.heap.size, 0, none⟩)) :: l) w') (hd : d < n := by decide) :
    GR n P ops Q k (⟨some d, .alloc t, T, pos, aft, none⟩ :: ⟨none, .store t (.tmp d) y, T2, pos2, aft2, none⟩ :: rest) l w := by
  refine gr_v (ev_alloc hz) ?_ hd
  refine gr_s (es_sta (sz := sz) (x := .tmp d) (b := w.heap.size) ?_ hy hs al_new hzs h2 ho) ?_
  · simp [ev, look]
  · exact h _ (Old.alloc.put (Nat.le_refl _)) (sb_same al_new) (by rw [sb_size]; exact al_size)
end
/-- Cells that stand alone, each. -/
def ones (cs : Array Value) : Prop := ∀ v ∈ cs.toList, one v = true
theorem ones_lit {l : List Value} (h : l.all one = true) : ones l.toArray := fun v hv => List.all_eq_true.1 h v (by simpa using hv)
theorem rowM.get {α : Type} {sz : Nat} {M : Mem} {v : Value} {l : List α} {R : Array Value → α → Prop} (h : rowM sz M v l R) {i : Nat} (hi : i < l.length) : ∃ (b o c : Nat) (cs : Array Value) (e : TypeId) (fz : Nat × Nat), v = .slice (some ⟨b, o, none⟩) l.length c ∧ M b = some (.cells cs e fz) ∧ o + l.length * sz ≤ cs.size ∧
    R (cs.extract (o + i * sz) (o + i * sz + sz)) l[i] := by
  rcases h with ⟨rfl, _⟩ | ⟨_, b, o, c, cs, e, fz, h1, h2, h3, h4, h5⟩
  · simp at hi
  · exact ⟨b, o, c, cs, e, fz, h1, h3, h4, h5 i hi⟩
theorem rowS.get {α : Type} {M : Mem} {v : Value} {l : List α} {R : Value → α → Prop} (h : rowS M v l R) {i : Nat} (hi : i < l.length) : ∃ (b o c : Nat) (cs : Array Value) (e : TypeId) (fz : Nat × Nat) (y : Value), v = .slice (some ⟨b, o, none⟩) l.length c ∧ M b = some (.cells cs e fz) ∧ o + l.length ≤ cs.size ∧
    cs[o + i]? = some y ∧ R y l[i] := by
  rcases h with ⟨rfl, _⟩ | ⟨_, b, o, c, cs, e, fz, h1, h2, h3, h4, h5⟩
  · simp at hi
  · obtain ⟨y, hy, hr⟩ := h5 i hi
    exact ⟨b, o, c, cs, e, fz, y, h1, h3, h4, hy, hr⟩
theorem mul_lt_ext {o i sz n s : Nat} (hi : i < n) (h : o + n * sz ≤ s) : o + i * sz + sz ≤ s := by
  have h1 : (i + 1) * sz ≤ n * sz := Nat.mul_le_mul_right _ hi
  rw [Nat.add_mul, Nat.one_mul] at h1
  omega
def isTest (cs : Array Value) (ab : Int × Int) : Prop := cs = #[.int .i16 ab.1, .int .i8 ab.2]
/-- What the growing row points to, so far. -/
def SoFar {α : Type} (R : Value → α → Prop) (l : List α) (i : Nat) (fs : List Value) : Prop := fs.length = i ∧ ∀ j (hj : j < l.length), j < i → ∃ y, fs[j]? = some y ∧ R y l[j]
theorem SoFar.nil {α : Type} {R : Value → α → Prop} {l : List α} : SoFar R l 0 [] := ⟨rfl, fun j _ h => absurd h (by omega)⟩
theorem SoFar.mono {α : Type} {R R' : Value → α → Prop} {l : List α} {i : Nat} {fs : List Value} (h : SoFar R l i fs) (hR : ∀ y a, R y a → R' y a) : SoFar R' l i fs := ⟨h.1, fun j hj hi => by obtain ⟨y, h1, h2⟩ := h.2 j hj hi; exact ⟨y, h1, hR _ _ h2⟩⟩
theorem SoFar.step {α : Type} {R : Value → α → Prop} {l : List α} {i : Nat} {fs : List Value} {y : Value} (h : SoFar R l i fs) (hi : i < l.length) (hy : R y l[i]) : SoFar R l (i + 1) (fs ++ [y]) := by
  refine ⟨by simp [h.1], fun j hj hlt => ?_⟩
  by_cases e : j = i
  · subst e; exact ⟨y, by rw [← h.1]; simp, hy⟩
  · obtain ⟨y', h1, h2⟩ := h.2 j hj (by omega)
    exact ⟨y', by rw [List.getElem?_append_left (by have := h.1; omega)]; exact h1, h2⟩
theorem SoFar.all {α : Type} {R : Value → α → Prop} {l : List α} {fs : List Value} (h : SoFar R l l.length fs) : ∀ i (hi : i < l.length), ∃ y, fs[i]? = some y ∧ R y l[i] := fun i hi => h.2 i hi hi


theorem b48 {M : Mem} {w : World} {v : Value} {l : List (Int × Int)} (hr : rowM 2 M v l isTest) (hM : Has M w) (hlen : l.length ≤ 1000) :
    CR Tryz.prog 48 #[v] w (fun v' w' => ∃ M', Builds M w w' M' ∧ rowR M' v' l fun y ab => Packs 62 M' y (testPK ab)) := by
  refine cr_enter Tryz.func48 rfl Tryz.ntmps48 ?_
  refine gk_seq ?_
  refine gk_region ?_
  refine gr_v (ev_as rfl) ?_
  refine gr_nil ?_
  refine gk_seq ?_
  refine gk_region ?_
  refine gr_v (ev_as rfl) ?_
  refine gr_nil ?_
  refine gk_seq ?_
  refine gk_seq ?_
  refine gk_region ?_
  refine gr_v (ev_mv rfl) ?_
  refine gr_v (ev_lenL hr.len rfl ⟨_, rfl, _, Tryz.runUnderlying48⟩) ?_
  refine gr_v (ev_mv rfl) ?_
  refine gr_nil ?_
  refine gk_block ?_
  refine gk_loop (fun i : Nat × Value × List Value × Mem => [(6, v), (7, .int .i64 l.length), (8, .int .i64 (i.1 : Int)), (3, i.2.1)]) (fun i w' => GRow 134 1 M w w' i.2.2.2 i.2.1 i.1 i.2.2.1 ∧ i.1 ≤ l.length ∧ SoFar (fun y ab => Packs 62 i.2.2.2 y (testPK ab)) l i.1 i.2.2.1) (fun i => l.length - i.1) (0, .slice none 0 0, [], M) ⟨rfl, rfl, rfl, rfl, trivial⟩ ⟨GRow.nil (Builds.refl hM), Nat.zero_le _, SoFar.nil⟩ ?_
  rintro ⟨i, vc, fs, Mk⟩ wk ⟨hG, hil, hF⟩
  simp only at hG hil hF
  rcases Nat.lt_or_ge i l.length with hi | hge
  · skip
    obtain ⟨b, o, c, cs, e, fz, rfl, hcs, hle, he⟩ := hr.get hi
    unfold isTest at he
    refine gk_seq ?_
    refine gk_region ?_
    refine gr_v (ev_lss rfl rfl) ?_
    refine gr_nil ?_
    refine gk_seq ?_
    refine gk_true rfl (decide_eq_true (by omega)) ?_
    refine gk_skip ?_
    refine gk_seq ?_
    refine gk_block ?_
    refine gk_seq ?_
    refine gk_region ?_
    refine gr_v (ev_ix (len := l.length) (a' := o + i * 2) rfl rfl Tryz.runUnderlying48 Tryz.sizeOf81 (by omega) (by omega) (by omega)) ?_
    refine gr_v (ev_lda rfl Tryz.isAgg81 Tryz.sizeOf81 (hG.bl.has _ _ (hG.bl.sub _ _ hcs)) (mul_lt_ext hi hle)) ?_
    rw [he]
    refine gr_var Tryz.zeroValue81 Tryz.sizeOf81 rfl rfl rfl (ones_lit rfl) ?_
    intro wk1 ho1 hb1 hs1
    refine gr_nil ?_
    refine gk_region ?_
    refine gr_v (ev_mv rfl) ?_
    refine gr_v (ev_fa (j := 0) rfl Tryz.runUnderlying81 rfl Tryz.sizeOf23 rfl rfl) ?_
    refine gr_v (ev_ld rfl Tryz.isAgg23 hb1 (by rfl)) ?_
    refine gr_v (ev_fa (j := 1) rfl Tryz.runUnderlying81 rfl Tryz.sizeOf36 rfl rfl) ?_
    refine gr_v (ev_ld rfl Tryz.isAgg36 hb1 (by rfl)) ?_
    refine gr_v (ev_build (ps := [(0, .tmp 14), (1, .tmp 16)]) (vs := [(0, .int .i16 l[i].1), (1, .int .i8 l[i].2)]) (cs := #[.int .i16 l[i].1, .int .i8 l[i].2]) rfl (by kernel_rfl)) ?_
    refine gr_box rfl ?_
    intro wk2 ho2 hb2 hs2
    refine gr_bs (ys := [ptr wk1.heap.size]) (sz := 1) rfl rfl rfl Tryz.runUnderlying113 Tryz.sizeOf134 Tryz.zeroValue134 (by decide) rfl ?_
    intro wk3 ho3 hb3 hs3
    have hBs : Builds Mk wk wk3 (putM Mk wk1.heap.size (.cells #[.int .i16 l[i].1, .int .i8 l[i].2] 135 (0, 0))) := ((Builds.refl hG.bl.has).step ((ho1.trans ho2).trans ho3)).add (ho3 _ _ hb2) (hG.bl.has.none (by omega)) (by omega)
    obtain ⟨v', wk4, hap, hG4, _⟩ := (hG.more hBs).step (t := 113) (T := 113) Tryz.runUnderlying113 Tryz.typeInfo134 Tryz.sizeOf134 Tryz.zeroValue134 rfl rfl rfl (by omega) hb3 rfl (by simp [one])
    refine gr_v (ev_append rfl rfl hap) ?_
    refine gr_v (ev_as rfl) ?_
    refine gr_nil ?_
    refine gk_endblk ?_
    refine gk_region ?_
    refine gr_v (ev_add (r := ((i + 1 : Nat) : Int)) rfl rfl (by rw [w_i64 (by omega) (by omega)]; omega)) ?_
    refine gr_v (ev_mv rfl) ?_
    refine gr_nil ?_
    refine gk_fin fun a ha => ?_
    exact ⟨(i + 1, v', fs ++ [ptr wk1.heap.size], _), ha.keep ⟨rfl, rfl, rfl, rfl, trivial⟩, ⟨hG4, hi, (hF.mono fun y a h => h.old hBs.sub).step hi (p62 _ _ putM_same)⟩, (by show l.length - (i + 1) < l.length - i; omega)⟩
  · skip
    obtain rfl : i = l.length := by omega
    refine gk_seq ?_
    refine gk_region ?_
    refine gr_v (ev_lss rfl rfl) ?_
    refine gr_nil ?_
    refine gk_seq ?_
    refine gk_false rfl (decide_eq_false (by omega)) ?_
    refine gk_exit rfl ?_
    refine gk_seq ?_
    refine gk_region ?_
    refine gr_v (ev_mv rfl) ?_
    refine gr_v (ev_as rfl) ?_
    refine gr_nil ?_
    refine gk_ret1 Tryz.results48 rfl ?_
    obtain ⟨M', h1, h2, h3, _⟩ := hG.done (R := fun y ab => Packs 62 Mk y (testPK ab)) hF.all
    exact ⟨_, rfl, M', h1, h3.sub Sub.refl fun y a h => h.old h2⟩

theorem b53 {M : Mem} {w : World} {v : Value} {l : List Int} (hr : rowS M v l isU64) (hM : Has M w) (hlen : l.length ≤ 1000) :
    CR Tryz.prog 53 #[v] w (fun v' w' => ∃ M', Builds M w w' M' ∧ rowR M' v' l fun y n => Packs 78 M' y (packRef n)) := by
  refine cr_enter Tryz.func53 rfl Tryz.ntmps53 ?_
  refine gk_seq ?_
  refine gk_region ?_
  refine gr_v (ev_as rfl) ?_
  refine gr_nil ?_
  refine gk_seq ?_
  refine gk_region ?_
  refine gr_v (ev_as rfl) ?_
  refine gr_nil ?_
  refine gk_seq ?_
  refine gk_seq ?_
  refine gk_region ?_
  refine gr_v (ev_mv rfl) ?_
  refine gr_v (ev_lenL hr.len rfl ⟨_, rfl, _, Tryz.runUnderlying35⟩) ?_
  refine gr_v (ev_mv rfl) ?_
  refine gr_nil ?_
  refine gk_block ?_
  refine gk_loop (fun i : Nat × Value × List Value × Mem => [(6, v), (7, .int .i64 l.length), (8, .int .i64 (i.1 : Int)), (3, i.2.1)]) (fun i w' => GRow 161 1 M w w' i.2.2.2 i.2.1 i.1 i.2.2.1 ∧ i.1 ≤ l.length ∧ SoFar (fun y n => Packs 78 i.2.2.2 y (packRef n)) l i.1 i.2.2.1) (fun i => l.length - i.1) (0, .slice none 0 0, [], M) ⟨rfl, rfl, rfl, rfl, trivial⟩ ⟨GRow.nil (Builds.refl hM), Nat.zero_le _, SoFar.nil⟩ ?_
  rintro ⟨i, vc, fs, Mk⟩ wk ⟨hG, hil, hF⟩
  simp only at hG hil hF
  rcases Nat.lt_or_ge i l.length with hi | hge
  · skip
    obtain ⟨b, o, c, cs, e, fz, y, rfl, hcs, hle, hy, rfl⟩ := hr.get hi
    refine gk_seq ?_
    refine gk_region ?_
    refine gr_v (ev_lss rfl rfl) ?_
    refine gr_nil ?_
    refine gk_seq ?_
    refine gk_true rfl (decide_eq_true (by omega)) ?_
    refine gk_skip ?_
    refine gk_seq ?_
    refine gk_block ?_
    refine gk_seq ?_
    refine gk_region ?_
    refine gr_v (ev_ix (len := l.length) (a' := o + i) rfl rfl Tryz.runUnderlying35 Tryz.sizeOf31 (by omega) (by omega) (by omega)) ?_
    refine gr_v (ev_ld rfl Tryz.isAgg31 (hG.bl.has _ _ (hG.bl.sub _ _ hcs)) hy) ?_
    refine gr_v (ev_as rfl) ?_
    refine gr_nil ?_
    refine gk_region ?_
    refine gr_v (ev_mv rfl) ?_
    refine gr_v (ev_mv rfl) ?_
    refine gr_v (ev_build (ps := [(0, .tmp 13)]) (vs := [(0, .int .u64 l[i])]) (cs := #[.int .u64 l[i]]) rfl (by kernel_rfl)) ?_
    refine gr_box rfl ?_
    intro wk2 ho2 hb2 hs2
    refine gr_bs (ys := [ptr wk.heap.size]) (sz := 1) rfl rfl rfl Tryz.runUnderlying117 Tryz.sizeOf161 Tryz.zeroValue161 (by decide) rfl ?_
    intro wk3 ho3 hb3 hs3
    have hBs : Builds Mk wk wk3 (putM Mk wk.heap.size (.cells #[.int .u64 l[i]] 233 (0, 0))) := ((Builds.refl hG.bl.has).step (ho2.trans ho3)).add (ho3 _ _ hb2) (hG.bl.has.none (by omega)) (by omega)
    obtain ⟨v', wk4, hap, hG4, _⟩ := (hG.more hBs).step (t := 117) (T := 117) Tryz.runUnderlying117 Tryz.typeInfo161 Tryz.sizeOf161 Tryz.zeroValue161 rfl rfl rfl (by omega) hb3 rfl (by simp [one])
    refine gr_v (ev_append rfl rfl hap) ?_
    refine gr_v (ev_as rfl) ?_
    refine gr_nil ?_
    refine gk_endblk ?_
    refine gk_region ?_
    refine gr_v (ev_add (r := ((i + 1 : Nat) : Int)) rfl rfl (by rw [w_i64 (by omega) (by omega)]; omega)) ?_
    refine gr_v (ev_mv rfl) ?_
    refine gr_nil ?_
    refine gk_fin fun a ha => ?_
    exact ⟨(i + 1, v', fs ++ [ptr wk.heap.size], _), ha.keep ⟨rfl, rfl, rfl, rfl, trivial⟩, ⟨hG4, hi, (hF.mono fun y a h => h.old hBs.sub).step hi (p78 _ putM_same)⟩, (by show l.length - (i + 1) < l.length - i; omega)⟩
  · skip
    obtain rfl : i = l.length := by omega
    refine gk_seq ?_
    refine gk_region ?_
    refine gr_v (ev_lss rfl rfl) ?_
    refine gr_nil ?_
    refine gk_seq ?_
    refine gk_false rfl (decide_eq_false (by omega)) ?_
    refine gk_exit rfl ?_
    refine gk_seq ?_
    refine gk_region ?_
    refine gr_v (ev_mv rfl) ?_
    refine gr_v (ev_as rfl) ?_
    refine gr_nil ?_
    refine gk_ret1 Tryz.results53 rfl ?_
    obtain ⟨M', h1, h2, h3, _⟩ := hG.done (R := fun y n => Packs 78 Mk y (packRef n)) hF.all
    exact ⟨_, rfl, M', h1, h3.sub Sub.refl fun y a h => h.old h2⟩

end Go.Proofs.YtjaplgfgkigmiaaGreat