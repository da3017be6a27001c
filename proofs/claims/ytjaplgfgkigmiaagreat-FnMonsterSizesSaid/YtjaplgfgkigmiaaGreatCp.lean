/-
  Copies of elements, rows of them.
-/
import Derived.Test.YtjaplgfgkigmiaaGreatOo
namespace Go.Proofs.YtjaplgfgkigmiaaGreat
open Go Go.Proofs

section
variable {n : Nat} {P : Program} {k : List KItem} {l : Slots} {w : World} {Q : Exit → Act → World → Prop} {ops : Array Oper} {rest : List Oper} {T t : TypeId} {pos : String} {aft : Array Edge} {d : Nat}
theorem gk_endc {fn : Func} {R : Ending → World → Prop} {t b s : Nat} {ty e : TypeId} {cs : Array Value} {fz : Nat × Nat} (hr : fn.results = #[.cell t ty]) (hv : look l t = some (.pointer (some ⟨b, 0, none⟩))) (hA : ∀ w, (isAgg ty).run P w = .ok true w) (hs : ∀ w, (sizeOf ty).run P w = .ok s w)
    (hb : w.heap[b]? = some (.cells cs e fz)) (hi : cs.size = s) (h : R (.returned (.agg cs)) w) : GK n P (bodyPost P fn R) [] l w := fun β hβ a ha => by
  rw [wpK]
  have e1 : a.tmps[t]?.getD undef = .pointer (some ⟨b, 0, none⟩) := by simp [ha.val _ _ hv]
  have e2 := loadCellsFrom_run (P := P) (w := w) (i := 0) hb s 0 #[] (by omega)
  have e3 : cs.extract (0 + 0) (0 + 0 + s) = cs := by subst hi; simp
  rw [e3] at e2
  refine ⟨⟨ha.nodef, .agg cs, ?_, h⟩, hβ⟩
  simp [results, hr, e1, asAddr, loadVar, hA, hs, loadCells, e2]
theorem gk_retc {fn : Func} {R : Ending → World → Prop} {t b s : Nat} {ty e : TypeId} {cs : Array Value} {fz : Nat × Nat} (hr : fn.results = #[.cell t ty]) (hv : look l t = some (.pointer (some ⟨b, 0, none⟩))) (hA : ∀ w, (isAgg ty).run P w = .ok true w) (hs : ∀ w, (sizeOf ty).run P w = .ok s w)
    (hb : w.heap[b]? = some (.cells cs e fz)) (hi : cs.size = s) (h : R (.returned (.agg cs)) w) : GK n P (bodyPost P fn R) (.code .ret :: k) l w := fun β hβ a ha => by
  have := gk_endc (n := n) (P := P) (w := w) (l := l) (R := R) hr hv hA hs hb hi h β hβ a ha
  rw [wpK] at this
  exact wpK_code (wp_ret this)
theorem ec_dyn {f : FuncId} {x : Operand} {xs : List Operand} {ats : Array TypeId} {vs : List Value} (hf : ev l x = some (.func (.func f) #[] #[])) (hc : ∀ (args : Array Value) (w : World), (callFunc f args).run P w = .ok (.enter f args) w) (hx : evs l xs = some vs) :
    EC P l (.call ⟨.value x, xs.toArray, ats⟩) T w f vs.toArray := by
  intro ρ o ho hT hρ
  have hf : ρ x = .func (.func f) #[] #[] := hρ _ _ hf
  have hm := evs_map hρ hx
  unfold execOp
  rw [ho]
  simp [resolve, hf, Deferred.ofValue, invoke, hc, hm]
theorem gr_al {z : Value} (hz : ∀ w, (zeroValue t).run P w = .ok z w) (h : ∀ w', Old w w' → w'.heap[w.heap.size]? = some (.cells z.cells t (0, 0)) → w'.heap.size = w.heap.size + 1 → GR n P ops Q k rest ((d, .pointer (some ⟨w.heap.size, 0, none⟩)) :: l) w') (hd : d < n := by decide) :
    GR n P ops Q k (⟨some d, .alloc t, T, pos, aft, none⟩ :: rest) l w := gr_v (ev_alloc hz) (h _ Old.alloc al_new al_size) hd
end
/-- What the rows of several cells hold so far. -/
def SoFarM {α : Type} (sz : Nat) (R : Array Value → α → Prop) (l : List α) (i : Nat) (fs : List Value) : Prop := fs.length = i * sz ∧ ∀ j (hj : j < l.length), j < i → R (fs.toArray.extract (j * sz) (j * sz + sz)) l[j]
theorem SoFarM.nil {α : Type} {sz : Nat} {R : Array Value → α → Prop} {l : List α} : SoFarM sz R l 0 [] := ⟨by simp, fun j _ h => absurd h (by omega)⟩
theorem SoFarM.mono {α : Type} {sz : Nat} {R R' : Array Value → α → Prop} {l : List α} {i : Nat} {fs : List Value} (h : SoFarM sz R l i fs) (hR : ∀ y a, R y a → R' y a) : SoFarM sz R' l i fs := ⟨h.1, fun j hj hi => hR _ _ (h.2 j hj hi)⟩
theorem SoFarM.step {α : Type} {sz : Nat} {R : Array Value → α → Prop} {l : List α} {i : Nat} {fs : List Value} {cs : Array Value} (h : SoFarM sz R l i fs) (hi : i < l.length) (hs : cs.size = sz) (hy : R cs l[i]) : SoFarM sz R l (i + 1) (fs ++ cs.toList) := by
  have hl := h.1
  refine ⟨by rw [Nat.add_mul, Nat.one_mul, ← hl]; simp [hs], fun j hj hlt => ?_⟩
  by_cases e : j = i
  · subst e
    have e2 : (fs ++ cs.toList).toArray.extract (j * sz) (j * sz + sz) = cs := by
      rw [← hl]
      apply Array.ext'
      simp [hs]
      exact List.take_of_length_le (by simp [hs])
    rw [e2]; exact hy
  · have e2 : (fs ++ cs.toList).toArray.extract (j * sz) (j * sz + sz) = fs.toArray.extract (j * sz) (j * sz + sz) := by
      have h1 : (j + 1) * sz ≤ i * sz := Nat.mul_le_mul_right _ (by omega)
      rw [Nat.add_mul, Nat.one_mul] at h1
      apply Array.ext'
      simp only [Array.toList_extract, List.extract_eq_take_drop]
      rw [List.drop_append_of_le_length (by omega), List.take_append_of_le_length (by simp; omega)]
    rw [e2]; exact h.2 j hj (by omega)
theorem GRow.doneM {α : Type} {e : TypeId} {sz : Nat} {M Mk : Mem} {w wk : World} {v : Value} {l : List α} {fs : List Value} {R : Array Value → α → Prop} (h : GRow e sz M w wk Mk v l.length fs) (hF : SoFarM sz R l l.length fs) :
    ∃ M', Builds M w wk M' ∧ Sub Mk M' ∧ rowM sz M' v l R := by
  rcases h.row with ⟨h1, h2, h3⟩ | ⟨b, k, sp, rfl, h1, h2, h3, h4, h5⟩
  · exact ⟨Mk, h.bl, Sub.refl, .inl ⟨List.length_eq_zero_iff.1 h1, _, _, h3⟩⟩
  · have ho := h.own b rfl
    refine ⟨_, h.bl.add h3 ho.2 ho.1, fun c y hc => putM_old hc (fun e' => by rw [e', ho.2] at hc; cases hc), .inr ⟨fun hl => by rw [hl] at h1; exact absurd h1.1 (by simp), b, 0, k, _, e, (0, 0), rfl, h1.2, putM_same, by simp; omega, fun i hi => ?_⟩⟩
    have h6 := hF.2 i hi hi
    have e2 : (fs ++ sp).toArray.extract (0 + i * sz) (0 + i * sz + sz) = fs.toArray.extract (i * sz) (i * sz + sz) := by
      have h1 : (i + 1) * sz ≤ l.length * sz := Nat.mul_le_mul_right _ hi
      rw [Nat.add_mul, Nat.one_mul] at h1
      rw [Nat.zero_add]
      apply Array.ext'
      simp only [Array.toList_extract, List.extract_eq_take_drop]
      rw [List.drop_append_of_le_length (by omega), List.take_append_of_le_length (by simp; omega)]
    rw [e2]; exact h6

theorem k23 {cs : Array Value} (hsz : cs.size = 7) (hone : ones cs) (w : World) : CR Tryz.prog 23 #[.agg cs] w (fun v w' => v = .agg cs ∧ Old w w') := by
  refine cr_enter Tryz.func23 rfl Tryz.ntmps23 ?_
  refine gk_seq ?_
  refine gk_region ?_
  refine gr_box rfl ?_
  intro w1 ho1 hb1 hs1
  refine gr_al Tryz.zeroValue76 ?_
  intro w2 ho2 hb2 hs2
  refine gr_nil ?_
  refine gk_seq ?_
  refine gk_region ?_
  refine gr_v (ev_ldall rfl Tryz.isAgg75 Tryz.sizeOf75 (ho2 _ _ hb1) hsz) ?_
  refine gr_s (es_sta rfl rfl Tryz.sizeOf76 hb2 rfl hsz hone) ?_
  refine gr_nil ?_
  refine gk_retc Tryz.results23 rfl Tryz.isAgg76 Tryz.sizeOf76 (sb_same hb2) hsz ?_
  exact ⟨_, rfl, rfl, (ho1.trans ho2).put (by omega)⟩

theorem k25 {cs : Array Value} (hsz : cs.size = 2) (hone : ones cs) (w : World) : CR Tryz.prog 25 #[.agg cs] w (fun v w' => v = .agg cs ∧ Old w w') := by
  refine cr_enter Tryz.func25 rfl Tryz.ntmps25 ?_
  refine gk_seq ?_
  refine gk_region ?_
  refine gr_box rfl ?_
  intro w1 ho1 hb1 hs1
  refine gr_al Tryz.zeroValue81 ?_
  intro w2 ho2 hb2 hs2
  refine gr_nil ?_
  refine gk_seq ?_
  refine gk_region ?_
  refine gr_v (ev_ldall rfl Tryz.isAgg80 Tryz.sizeOf80 (ho2 _ _ hb1) hsz) ?_
  refine gr_s (es_sta rfl rfl Tryz.sizeOf81 hb2 rfl hsz hone) ?_
  refine gr_nil ?_
  refine gk_retc Tryz.results25 rfl Tryz.isAgg81 Tryz.sizeOf81 (sb_same hb2) hsz ?_
  exact ⟨_, rfl, rfl, (ho1.trans ho2).put (by omega)⟩

theorem k32 {cs : Array Value} (hsz : cs.size = 2) (hone : ones cs) (w : World) : CR Tryz.prog 32 #[.agg cs] w (fun v w' => v = .agg cs ∧ Old w w') := by
  refine cr_enter Tryz.func32 rfl Tryz.ntmps32 ?_
  refine gk_seq ?_
  refine gk_region ?_
  refine gr_box rfl ?_
  intro w1 ho1 hb1 hs1
  refine gr_al Tryz.zeroValue81 ?_
  intro w2 ho2 hb2 hs2
  refine gr_nil ?_
  refine gk_seq ?_
  refine gk_region ?_
  refine gr_v (ev_ldall rfl Tryz.isAgg80 Tryz.sizeOf80 (ho2 _ _ hb1) hsz) ?_
  refine gr_s (es_sta rfl rfl Tryz.sizeOf81 hb2 rfl hsz hone) ?_
  refine gr_nil ?_
  refine gk_retc Tryz.results32 rfl Tryz.isAgg81 Tryz.sizeOf81 (sb_same hb2) hsz ?_
  exact ⟨_, rfl, rfl, (ho1.trans ho2).put (by omega)⟩

theorem k28 {cs : Array Value} (hsz : cs.size = 3) (hone : ones cs) (w : World) : CR Tryz.prog 28 #[.agg cs] w (fun v w' => v = .agg cs ∧ Old w w') := by
  refine cr_enter Tryz.func28 rfl Tryz.ntmps28 ?_
  refine gk_seq ?_
  refine gk_region ?_
  refine gr_box rfl ?_
  intro w1 ho1 hb1 hs1
  refine gr_al Tryz.zeroValue87 ?_
  intro w2 ho2 hb2 hs2
  refine gr_nil ?_
  refine gk_seq ?_
  refine gk_region ?_
  refine gr_v (ev_ldall rfl Tryz.isAgg86 Tryz.sizeOf86 (ho2 _ _ hb1) hsz) ?_
  refine gr_s (es_sta rfl rfl Tryz.sizeOf87 hb2 rfl hsz hone) ?_
  refine gr_nil ?_
  refine gk_retc Tryz.results28 rfl Tryz.isAgg87 Tryz.sizeOf87 (sb_same hb2) hsz ?_
  exact ⟨_, rfl, rfl, (ho1.trans ho2).put (by omega)⟩

theorem k31 {cs : Array Value} (hsz : cs.size = 2) (hone : ones cs) (w : World) : CR Tryz.prog 31 #[.agg cs] w (fun v w' => v = .agg cs ∧ Old w w') := by
  refine cr_enter Tryz.func31 rfl Tryz.ntmps31 ?_
  refine gk_seq ?_
  refine gk_region ?_
  refine gr_box rfl ?_
  intro w1 ho1 hb1 hs1
  refine gr_al Tryz.zeroValue93 ?_
  intro w2 ho2 hb2 hs2
  refine gr_nil ?_
  refine gk_seq ?_
  refine gk_region ?_
  refine gr_v (ev_ldall rfl Tryz.isAgg92 Tryz.sizeOf92 (ho2 _ _ hb1) hsz) ?_
  refine gr_s (es_sta rfl rfl Tryz.sizeOf93 hb2 rfl hsz hone) ?_
  refine gr_nil ?_
  refine gk_retc Tryz.results31 rfl Tryz.isAgg93 Tryz.sizeOf93 (sb_same hb2) hsz ?_
  exact ⟨_, rfl, rfl, (ho1.trans ho2).put (by omega)⟩

theorem i21 {α : Type} {M : Mem} {w : World} {v : Value} {l : List α} {R : Array Value → α → Prop} {R' : Mem → Array Value → α → Prop} (hr : rowM 51 M v l R) (hM : Has M w) (hlen : l.length ≤ 1000) (hsz : ∀ cs a, R cs a → cs.size = 51 ∧ ones cs)
    (hsz' : ∀ M' cs a, R' M' cs a → cs.size = 51 ∧ ones cs) (hmono : ∀ M1 M2 cs a, Sub M1 M2 → R' M1 cs a → R' M2 cs a)
    (hcall : ∀ (Mk : Mem) (wk : World), Sub M Mk → Has Mk wk → ∀ cs a, R cs a → CR Tryz.prog 8 #[.agg cs] wk (fun y w' => ∃ M' cs', y = .agg cs' ∧ Builds Mk wk w' M' ∧ R' M' cs' a)) :
    CR Tryz.prog 21 #[v, .func (.func 8) #[] #[]] w (fun v' w' => ∃ M', Builds M w w' M' ∧ rowM 51 M' v' l (R' M')) := by
  refine cr_enter Tryz.func21 rfl Tryz.ntmps21 ?_
  refine gk_seq ?_
  refine gk_region ?_
  refine gr_v (ev_as rfl) ?_
  refine gr_nil ?_
  refine gk_seq ?_
  refine gk_region ?_
  refine gr_v (ev_as rfl) ?_
  refine gr_nil ?_
  refine gk_seq ?_
  refine gk_seq ?_
  refine gk_region ?_
  refine gr_v (ev_mv rfl) ?_
  refine gr_v (ev_lenL hr.len rfl ⟨_, rfl, _, Tryz.runUnderlying24⟩) ?_
  refine gr_v (ev_mv rfl) ?_
  refine gr_nil ?_
  refine gk_block ?_
  refine gk_loop (fun i : Nat × Value × List Value × Mem => [(1, .func (.func 8) #[] #[]), (8, v), (9, .int .i64 l.length), (10, .int .i64 (i.1 : Int)), (5, i.2.1)]) (fun i w' => GRow 52 51 M w w' i.2.2.2 i.2.1 i.1 i.2.2.1 ∧ i.1 ≤ l.length ∧ SoFarM 51 (R' i.2.2.2) l i.1 i.2.2.1) (fun i => l.length - i.1) (0, .slice none 0 0, [], M) ⟨rfl, rfl, rfl, rfl, rfl, trivial⟩ ⟨GRow.nil (Builds.refl hM), Nat.zero_le _, SoFarM.nil⟩ ?_
  rintro ⟨i, vc, fs, Mk⟩ wk ⟨hG, hil, hF⟩
  simp only at hG hil hF
  rcases Nat.lt_or_ge i l.length with hi | hge
  · skip
    obtain ⟨b, o, c, cs, e, fz, hvv, hcs, hle, he⟩ := hr.get hi
    refine gk_seq ?_
    refine gk_region ?_
    refine gr_v (ev_lss rfl rfl) ?_
    refine gr_nil ?_
    refine gk_seq ?_
    refine gk_true rfl (decide_eq_true (by omega)) ?_
    refine gk_skip ?_
    refine gk_seq ?_
    refine gk_block ?_
    refine gk_seq ?_
    refine gk_region ?_
    refine gr_v (ev_ix (len := l.length) (a' := o + i * 51) (by rw [← hvv]; rfl) rfl Tryz.runUnderlying24 Tryz.sizeOf38 (by omega) (by omega) (by omega)) ?_
    refine gr_v (ev_lda rfl Tryz.isAgg38 Tryz.sizeOf38 (hG.bl.has _ _ (hG.bl.sub _ _ hcs)) (mul_lt_ext hi hle)) ?_
    refine gr_var Tryz.zeroValue38 Tryz.sizeOf38 rfl rfl (hsz _ _ he).1 (hsz _ _ he).2 ?_
    intro wk1 ho1 hb1 hs1
    refine gr_nil ?_
    refine gk_region ?_
    refine gr_v (ev_mv rfl) ?_
    refine gr_v (ev_mv rfl) ?_
    refine gr_v (ev_ldall rfl Tryz.isAgg38 Tryz.sizeOf38 hb1 (hsz _ _ he).1) ?_
    have hB1 := (Builds.refl hG.bl.has).step ho1
    refine gr_call (ec_dyn rfl Tryz.call8 rfl) (hcall Mk wk1 hG.bl.sub hB1.has _ _ he) ?_
    rintro _ wk2 ⟨M2, cs2, rfl, hb2, hr2⟩
    refine gr_bs (ys := cs2.toList) (sz := 51) rfl (by simp [Value.cells]) (hsz' _ _ _ hr2).1 Tryz.runUnderlying45 Tryz.sizeOf52 Tryz.zeroValue52 (by decide) rfl ?_
    intro wk3 ho3 hb3 hs3
    have hBs : Builds Mk wk wk3 M2 := (hB1.trans hb2).step ho3
    obtain ⟨v', wk4, hap, hG4, _⟩ := (hG.more hBs).step (t := 45) (T := 45) Tryz.runUnderlying45 Tryz.typeInfo52 Tryz.sizeOf52 Tryz.zeroValue52 rfl rfl rfl (by omega) hb3 (hsz' _ _ _ hr2).1 (hsz' _ _ _ hr2).2
    refine gr_v (ev_append rfl rfl hap) ?_
    refine gr_v (ev_as rfl) ?_
    refine gr_nil ?_
    refine gk_endblk ?_
    refine gk_region ?_
    refine gr_v (ev_add (r := ((i + 1 : Nat) : Int)) rfl rfl (by rw [w_i64 (by omega) (by omega)]; omega)) ?_
    refine gr_v (ev_mv rfl) ?_
    refine gr_nil ?_
    refine gk_fin fun a ha => ?_
    exact ⟨(i + 1, v', fs ++ cs2.toList, M2), ha.keep ⟨rfl, rfl, rfl, rfl, rfl, trivial⟩, ⟨hG4, hi, (hF.mono fun y a h => hmono _ _ _ _ hBs.sub h).step hi (hsz' _ _ _ hr2).1 hr2⟩, (by show l.length - (i + 1) < l.length - i; omega)⟩
  · skip
    obtain rfl : i = l.length := by omega
    refine gk_seq ?_
    refine gk_region ?_
    refine gr_v (ev_lss rfl rfl) ?_
    refine gr_nil ?_
    refine gk_seq ?_
    refine gk_false rfl (decide_eq_false (by omega)) ?_
    refine gk_exit rfl ?_
    refine gk_seq ?_
    refine gk_region ?_
    refine gr_v (ev_mv rfl) ?_
    refine gr_v (ev_as rfl) ?_
    refine gr_nil ?_
    refine gk_ret1 Tryz.results21 rfl ?_
    obtain ⟨M', h1, h2, h3⟩ := hG.doneM hF
    exact ⟨_, rfl, M', h1, h3.sub Sub.refl fun y a h => hmono _ _ _ _ h2 h⟩

theorem i22 {α : Type} {M : Mem} {w : World} {v : Value} {l : List α} {R : Array Value → α → Prop} {R' : Mem → Array Value → α → Prop} (hr : rowM 7 M v l R) (hM : Has M w) (hlen : l.length ≤ 1000) (hsz : ∀ cs a, R cs a → cs.size = 7 ∧ ones cs)
    (hsz' : ∀ M' cs a, R' M' cs a → cs.size = 7 ∧ ones cs) (hmono : ∀ M1 M2 cs a, Sub M1 M2 → R' M1 cs a → R' M2 cs a)
    (hcall : ∀ (Mk : Mem) (wk : World), Sub M Mk → Has Mk wk → ∀ cs a, R cs a → CR Tryz.prog 23 #[.agg cs] wk (fun y w' => ∃ M' cs', y = .agg cs' ∧ Builds Mk wk w' M' ∧ R' M' cs' a)) :
    CR Tryz.prog 22 #[v, .func (.func 23) #[] #[]] w (fun v' w' => ∃ M', Builds M w w' M' ∧ rowM 7 M' v' l (R' M')) := by
  refine cr_enter Tryz.func22 rfl Tryz.ntmps22 ?_
  refine gk_seq ?_
  refine gk_region ?_
  refine gr_v (ev_as rfl) ?_
  refine gr_nil ?_
  refine gk_seq ?_
  refine gk_region ?_
  refine gr_v (ev_as rfl) ?_
  refine gr_nil ?_
  refine gk_seq ?_
  refine gk_seq ?_
  refine gk_region ?_
  refine gr_v (ev_mv rfl) ?_
  refine gr_v (ev_lenL hr.len rfl ⟨_, rfl, _, Tryz.runUnderlying22⟩) ?_
  refine gr_v (ev_mv rfl) ?_
  refine gr_nil ?_
  refine gk_block ?_
  refine gk_loop (fun i : Nat × Value × List Value × Mem => [(1, .func (.func 23) #[] #[]), (8, v), (9, .int .i64 l.length), (10, .int .i64 (i.1 : Int)), (5, i.2.1)]) (fun i w' => GRow 76 7 M w w' i.2.2.2 i.2.1 i.1 i.2.2.1 ∧ i.1 ≤ l.length ∧ SoFarM 7 (R' i.2.2.2) l i.1 i.2.2.1) (fun i => l.length - i.1) (0, .slice none 0 0, [], M) ⟨rfl, rfl, rfl, rfl, rfl, trivial⟩ ⟨GRow.nil (Builds.refl hM), Nat.zero_le _, SoFarM.nil⟩ ?_
  rintro ⟨i, vc, fs, Mk⟩ wk ⟨hG, hil, hF⟩
  simp only at hG hil hF
  rcases Nat.lt_or_ge i l.length with hi | hge
  · skip
    obtain ⟨b, o, c, cs, e, fz, hvv, hcs, hle, he⟩ := hr.get hi
    refine gk_seq ?_
    refine gk_region ?_
    refine gr_v (ev_lss rfl rfl) ?_
    refine gr_nil ?_
    refine gk_seq ?_
    refine gk_true rfl (decide_eq_true (by omega)) ?_
    refine gk_skip ?_
    refine gk_seq ?_
    refine gk_block ?_
    refine gk_seq ?_
    refine gk_region ?_
    refine gr_v (ev_ix (len := l.length) (a' := o + i * 7) (by rw [← hvv]; rfl) rfl Tryz.runUnderlying22 Tryz.sizeOf75 (by omega) (by omega) (by omega)) ?_
    refine gr_v (ev_lda rfl Tryz.isAgg75 Tryz.sizeOf75 (hG.bl.has _ _ (hG.bl.sub _ _ hcs)) (mul_lt_ext hi hle)) ?_
    refine gr_var Tryz.zeroValue75 Tryz.sizeOf75 rfl rfl (hsz _ _ he).1 (hsz _ _ he).2 ?_
    intro wk1 ho1 hb1 hs1
    refine gr_nil ?_
    refine gk_region ?_
    refine gr_v (ev_mv rfl) ?_
    refine gr_v (ev_mv rfl) ?_
    refine gr_v (ev_ldall rfl Tryz.isAgg75 Tryz.sizeOf75 hb1 (hsz _ _ he).1) ?_
    have hB1 := (Builds.refl hG.bl.has).step ho1
    refine gr_call (ec_dyn rfl Tryz.call23 rfl) (hcall Mk wk1 hG.bl.sub hB1.has _ _ he) ?_
    rintro _ wk2 ⟨M2, cs2, rfl, hb2, hr2⟩
    refine gr_bs (ys := cs2.toList) (sz := 7) rfl (by simp [Value.cells]) (hsz' _ _ _ hr2).1 Tryz.runUnderlying44 Tryz.sizeOf76 Tryz.zeroValue76 (by decide) rfl ?_
    intro wk3 ho3 hb3 hs3
    have hBs : Builds Mk wk wk3 M2 := (hB1.trans hb2).step ho3
    obtain ⟨v', wk4, hap, hG4, _⟩ := (hG.more hBs).step (t := 44) (T := 44) Tryz.runUnderlying44 Tryz.typeInfo76 Tryz.sizeOf76 Tryz.zeroValue76 rfl rfl rfl (by omega) hb3 (hsz' _ _ _ hr2).1 (hsz' _ _ _ hr2).2
    refine gr_v (ev_append rfl rfl hap) ?_
    refine gr_v (ev_as rfl) ?_
    refine gr_nil ?_
    refine gk_endblk ?_
    refine gk_region ?_
    refine gr_v (ev_add (r := ((i + 1 : Nat) : Int)) rfl rfl (by rw [w_i64 (by omega) (by omega)]; omega)) ?_
    refine gr_v (ev_mv rfl) ?_
    refine gr_nil ?_
    refine gk_fin fun a ha => ?_
    exact ⟨(i + 1, v', fs ++ cs2.toList, M2), ha.keep ⟨rfl, rfl, rfl, rfl, rfl, trivial⟩, ⟨hG4, hi, (hF.mono fun y a h => hmono _ _ _ _ hBs.sub h).step hi (hsz' _ _ _ hr2).1 hr2⟩, (by show l.length - (i + 1) < l.length - i; omega)⟩
  · skip
    obtain rfl : i = l.length := by omega
    refine gk_seq ?_
    refine gk_region ?_
    refine gr_v (ev_lss rfl rfl) ?_
    refine gr_nil ?_
    refine gk_seq ?_
    refine gk_false rfl (decide_eq_false (by omega)) ?_
    refine gk_exit rfl ?_
    refine gk_seq ?_
    refine gk_region ?_
    refine gr_v (ev_mv rfl) ?_
    refine gr_v (ev_as rfl) ?_
    refine gr_nil ?_
    refine gk_ret1 Tryz.results22 rfl ?_
    obtain ⟨M', h1, h2, h3⟩ := hG.doneM hF
    exact ⟨_, rfl, M', h1, h3.sub Sub.refl fun y a h => hmono _ _ _ _ h2 h⟩

theorem i24_25 {α : Type} {M : Mem} {w : World} {v : Value} {l : List α} {R : Array Value → α → Prop} {R' : Mem → Array Value → α → Prop} (hr : rowM 2 M v l R) (hM : Has M w) (hlen : l.length ≤ 1000) (hsz : ∀ cs a, R cs a → cs.size = 2 ∧ ones cs)
    (hsz' : ∀ M' cs a, R' M' cs a → cs.size = 2 ∧ ones cs) (hmono : ∀ M1 M2 cs a, Sub M1 M2 → R' M1 cs a → R' M2 cs a)
    (hcall : ∀ (Mk : Mem) (wk : World), Sub M Mk → Has Mk wk → ∀ cs a, R cs a → CR Tryz.prog 25 #[.agg cs] wk (fun y w' => ∃ M' cs', y = .agg cs' ∧ Builds Mk wk w' M' ∧ R' M' cs' a)) :
    CR Tryz.prog 24 #[v, .func (.func 25) #[] #[]] w (fun v' w' => ∃ M', Builds M w w' M' ∧ rowM 2 M' v' l (R' M')) := by
  refine cr_enter Tryz.func24 rfl Tryz.ntmps24 ?_
  refine gk_seq ?_
  refine gk_region ?_
  refine gr_v (ev_as rfl) ?_
  refine gr_nil ?_
  refine gk_seq ?_
  refine gk_region ?_
  refine gr_v (ev_as rfl) ?_
  refine gr_nil ?_
  refine gk_seq ?_
  refine gk_seq ?_
  refine gk_region ?_
  refine gr_v (ev_mv rfl) ?_
  refine gr_v (ev_lenL hr.len rfl ⟨_, rfl, _, Tryz.runUnderlying27⟩) ?_
  refine gr_v (ev_mv rfl) ?_
  refine gr_nil ?_
  refine gk_block ?_
  refine gk_loop (fun i : Nat × Value × List Value × Mem => [(1, .func (.func 25) #[] #[]), (8, v), (9, .int .i64 l.length), (10, .int .i64 (i.1 : Int)), (5, i.2.1)]) (fun i w' => GRow 81 2 M w w' i.2.2.2 i.2.1 i.1 i.2.2.1 ∧ i.1 ≤ l.length ∧ SoFarM 2 (R' i.2.2.2) l i.1 i.2.2.1) (fun i => l.length - i.1) (0, .slice none 0 0, [], M) ⟨rfl, rfl, rfl, rfl, rfl, trivial⟩ ⟨GRow.nil (Builds.refl hM), Nat.zero_le _, SoFarM.nil⟩ ?_
  rintro ⟨i, vc, fs, Mk⟩ wk ⟨hG, hil, hF⟩
  simp only at hG hil hF
  rcases Nat.lt_or_ge i l.length with hi | hge
  · skip
    obtain ⟨b, o, c, cs, e, fz, hvv, hcs, hle, he⟩ := hr.get hi
    refine gk_seq ?_
    refine gk_region ?_
    refine gr_v (ev_lss rfl rfl) ?_
    refine gr_nil ?_
    refine gk_seq ?_
    refine gk_true rfl (decide_eq_true (by omega)) ?_
    refine gk_skip ?_
    refine gk_seq ?_
    refine gk_block ?_
    refine gk_seq ?_
    refine gk_region ?_
    refine gr_v (ev_ix (len := l.length) (a' := o + i * 2) (by rw [← hvv]; rfl) rfl Tryz.runUnderlying27 Tryz.sizeOf80 (by omega) (by omega) (by omega)) ?_
    refine gr_v (ev_lda rfl Tryz.isAgg80 Tryz.sizeOf80 (hG.bl.has _ _ (hG.bl.sub _ _ hcs)) (mul_lt_ext hi hle)) ?_
    refine gr_var Tryz.zeroValue80 Tryz.sizeOf80 rfl rfl (hsz _ _ he).1 (hsz _ _ he).2 ?_
    intro wk1 ho1 hb1 hs1
    refine gr_nil ?_
    refine gk_region ?_
    refine gr_v (ev_mv rfl) ?_
    refine gr_v (ev_mv rfl) ?_
    refine gr_v (ev_ldall rfl Tryz.isAgg80 Tryz.sizeOf80 hb1 (hsz _ _ he).1) ?_
    have hB1 := (Builds.refl hG.bl.has).step ho1
    refine gr_call (ec_dyn rfl Tryz.call25 rfl) (hcall Mk wk1 hG.bl.sub hB1.has _ _ he) ?_
    rintro _ wk2 ⟨M2, cs2, rfl, hb2, hr2⟩
    refine gr_bs (ys := cs2.toList) (sz := 2) rfl (by simp [Value.cells]) (hsz' _ _ _ hr2).1 Tryz.runUnderlying48 Tryz.sizeOf81 Tryz.zeroValue81 (by decide) rfl ?_
    intro wk3 ho3 hb3 hs3
    have hBs : Builds Mk wk wk3 M2 := (hB1.trans hb2).step ho3
    obtain ⟨v', wk4, hap, hG4, _⟩ := (hG.more hBs).step (t := 48) (T := 48) Tryz.runUnderlying48 Tryz.typeInfo81 Tryz.sizeOf81 Tryz.zeroValue81 rfl rfl rfl (by omega) hb3 (hsz' _ _ _ hr2).1 (hsz' _ _ _ hr2).2
    refine gr_v (ev_append rfl rfl hap) ?_
    refine gr_v (ev_as rfl) ?_
    refine gr_nil ?_
    refine gk_endblk ?_
    refine gk_region ?_
    refine gr_v (ev_add (r := ((i + 1 : Nat) : Int)) rfl rfl (by rw [w_i64 (by omega) (by omega)]; omega)) ?_
    refine gr_v (ev_mv rfl) ?_
    refine gr_nil ?_
    refine gk_fin fun a ha => ?_
    exact ⟨(i + 1, v', fs ++ cs2.toList, M2), ha.keep ⟨rfl, rfl, rfl, rfl, rfl, trivial⟩, ⟨hG4, hi, (hF.mono fun y a h => hmono _ _ _ _ hBs.sub h).step hi (hsz' _ _ _ hr2).1 hr2⟩, (by show l.length - (i + 1) < l.length - i; omega)⟩
  · skip
    obtain rfl : i = l.length := by omega
    refine gk_seq ?_
    refine gk_region ?_
    refine gr_v (ev_lss rfl rfl) ?_
    refine gr_nil ?_
    refine gk_seq ?_
    refine gk_false rfl (decide_eq_false (by omega)) ?_
    refine gk_exit rfl ?_
    refine gk_seq ?_
    refine gk_region ?_
    refine gr_v (ev_mv rfl) ?_
    refine gr_v (ev_as rfl) ?_
    refine gr_nil ?_
    refine gk_ret1 Tryz.results24 rfl ?_
    obtain ⟨M', h1, h2, h3⟩ := hG.doneM hF
    exact ⟨_, rfl, M', h1, h3.sub Sub.refl fun y a h => hmono _ _ _ _ h2 h⟩

theorem i24_32 {α : Type} {M : Mem} {w : World} {v : Value} {l : List α} {R : Array Value → α → Prop} {R' : Mem → Array Value → α → Prop} (hr : rowM 2 M v l R) (hM : Has M w) (hlen : l.length ≤ 1000) (hsz : ∀ cs a, R cs a → cs.size = 2 ∧ ones cs)
    (hsz' : ∀ M' cs a, R' M' cs a → cs.size = 2 ∧ ones cs) (hmono : ∀ M1 M2 cs a, Sub M1 M2 → R' M1 cs a → R' M2 cs a)
    (hcall : ∀ (Mk : Mem) (wk : World), Sub M Mk → Has Mk wk → ∀ cs a, R cs a → CR Tryz.prog 32 #[.agg cs] wk (fun y w' => ∃ M' cs', y = .agg cs' ∧ Builds Mk wk w' M' ∧ R' M' cs' a)) :
    CR Tryz.prog 24 #[v, .func (.func 32) #[] #[]] w (fun v' w' => ∃ M', Builds M w w' M' ∧ rowM 2 M' v' l (R' M')) := by
  refine cr_enter Tryz.func24 rfl Tryz.ntmps24 ?_
  refine gk_seq ?_
  refine gk_region ?_
  refine gr_v (ev_as rfl) ?_
  refine gr_nil ?_
  refine gk_seq ?_
  refine gk_region ?_
  refine gr_v (ev_as rfl) ?_
  refine gr_nil ?_
  refine gk_seq ?_
  refine gk_seq ?_
  refine gk_region ?_
  refine gr_v (ev_mv rfl) ?_
  refine gr_v (ev_lenL hr.len rfl ⟨_, rfl, _, Tryz.runUnderlying27⟩) ?_
  refine gr_v (ev_mv rfl) ?_
  refine gr_nil ?_
  refine gk_block ?_
  refine gk_loop (fun i : Nat × Value × List Value × Mem => [(1, .func (.func 32) #[] #[]), (8, v), (9, .int .i64 l.length), (10, .int .i64 (i.1 : Int)), (5, i.2.1)]) (fun i w' => GRow 81 2 M w w' i.2.2.2 i.2.1 i.1 i.2.2.1 ∧ i.1 ≤ l.length ∧ SoFarM 2 (R' i.2.2.2) l i.1 i.2.2.1) (fun i => l.length - i.1) (0, .slice none 0 0, [], M) ⟨rfl, rfl, rfl, rfl, rfl, trivial⟩ ⟨GRow.nil (Builds.refl hM), Nat.zero_le _, SoFarM.nil⟩ ?_
  rintro ⟨i, vc, fs, Mk⟩ wk ⟨hG, hil, hF⟩
  simp only at hG hil hF
  rcases Nat.lt_or_ge i l.length with hi | hge
  · skip
    obtain ⟨b, o, c, cs, e, fz, hvv, hcs, hle, he⟩ := hr.get hi
    refine gk_seq ?_
    refine gk_region ?_
    refine gr_v (ev_lss rfl rfl) ?_
    refine gr_nil ?_
    refine gk_seq ?_
    refine gk_true rfl (decide_eq_true (by omega)) ?_
    refine gk_skip ?_
    refine gk_seq ?_
    refine gk_block ?_
    refine gk_seq ?_
    refine gk_region ?_
    refine gr_v (ev_ix (len := l.length) (a' := o + i * 2) (by rw [← hvv]; rfl) rfl Tryz.runUnderlying27 Tryz.sizeOf80 (by omega) (by omega) (by omega)) ?_
    refine gr_v (ev_lda rfl Tryz.isAgg80 Tryz.sizeOf80 (hG.bl.has _ _ (hG.bl.sub _ _ hcs)) (mul_lt_ext hi hle)) ?_
    refine gr_var Tryz.zeroValue80 Tryz.sizeOf80 rfl rfl (hsz _ _ he).1 (hsz _ _ he).2 ?_
    intro wk1 ho1 hb1 hs1
    refine gr_nil ?_
    refine gk_region ?_
    refine gr_v (ev_mv rfl) ?_
    refine gr_v (ev_mv rfl) ?_
    refine gr_v (ev_ldall rfl Tryz.isAgg80 Tryz.sizeOf80 hb1 (hsz _ _ he).1) ?_
    have hB1 := (Builds.refl hG.bl.has).step ho1
    refine gr_call (ec_dyn rfl Tryz.call32 rfl) (hcall Mk wk1 hG.bl.sub hB1.has _ _ he) ?_
    rintro _ wk2 ⟨M2, cs2, rfl, hb2, hr2⟩
    refine gr_bs (ys := cs2.toList) (sz := 2) rfl (by simp [Value.cells]) (hsz' _ _ _ hr2).1 Tryz.runUnderlying48 Tryz.sizeOf81 Tryz.zeroValue81 (by decide) rfl ?_
    intro wk3 ho3 hb3 hs3
    have hBs : Builds Mk wk wk3 M2 := (hB1.trans hb2).step ho3
    obtain ⟨v', wk4, hap, hG4, _⟩ := (hG.more hBs).step (t := 48) (T := 48) Tryz.runUnderlying48 Tryz.typeInfo81 Tryz.sizeOf81 Tryz.zeroValue81 rfl rfl rfl (by omega) hb3 (hsz' _ _ _ hr2).1 (hsz' _ _ _ hr2).2
    refine gr_v (ev_append rfl rfl hap) ?_
    refine gr_v (ev_as rfl) ?_
    refine gr_nil ?_
    refine gk_endblk ?_
    refine gk_region ?_
    refine gr_v (ev_add (r := ((i + 1 : Nat) : Int)) rfl rfl (by rw [w_i64 (by omega) (by omega)]; omega)) ?_
    refine gr_v (ev_mv rfl) ?_
    refine gr_nil ?_
    refine gk_fin fun a ha => ?_
    exact ⟨(i + 1, v', fs ++ cs2.toList, M2), ha.keep ⟨rfl, rfl, rfl, rfl, rfl, trivial⟩, ⟨hG4, hi, (hF.mono fun y a h => hmono _ _ _ _ hBs.sub h).step hi (hsz' _ _ _ hr2).1 hr2⟩, (by show l.length - (i + 1) < l.length - i; omega)⟩
  · skip
    obtain rfl : i = l.length := by omega
    refine gk_seq ?_
    refine gk_region ?_
    refine gr_v (ev_lss rfl rfl) ?_
    refine gr_nil ?_
    refine gk_seq ?_
    refine gk_false rfl (decide_eq_false (by omega)) ?_
    refine gk_exit rfl ?_
    refine gk_seq ?_
    refine gk_region ?_
    refine gr_v (ev_mv rfl) ?_
    refine gr_v (ev_as rfl) ?_
    refine gr_nil ?_
    refine gk_ret1 Tryz.results24 rfl ?_
    obtain ⟨M', h1, h2, h3⟩ := hG.doneM hF
    exact ⟨_, rfl, M', h1, h3.sub Sub.refl fun y a h => hmono _ _ _ _ h2 h⟩

theorem i27 {α : Type} {M : Mem} {w : World} {v : Value} {l : List α} {R : Array Value → α → Prop} {R' : Mem → Array Value → α → Prop} (hr : rowM 3 M v l R) (hM : Has M w) (hlen : l.length ≤ 1000) (hsz : ∀ cs a, R cs a → cs.size = 3 ∧ ones cs)
    (hsz' : ∀ M' cs a, R' M' cs a → cs.size = 3 ∧ ones cs) (hmono : ∀ M1 M2 cs a, Sub M1 M2 → R' M1 cs a → R' M2 cs a)
    (hcall : ∀ (Mk : Mem) (wk : World), Sub M Mk → Has Mk wk → ∀ cs a, R cs a → CR Tryz.prog 28 #[.agg cs] wk (fun y w' => ∃ M' cs', y = .agg cs' ∧ Builds Mk wk w' M' ∧ R' M' cs' a)) :
    CR Tryz.prog 27 #[v, .func (.func 28) #[] #[]] w (fun v' w' => ∃ M', Builds M w w' M' ∧ rowM 3 M' v' l (R' M')) := by
  refine cr_enter Tryz.func27 rfl Tryz.ntmps27 ?_
  refine gk_seq ?_
  refine gk_region ?_
  refine gr_v (ev_as rfl) ?_
  refine gr_nil ?_
  refine gk_seq ?_
  refine gk_region ?_
  refine gr_v (ev_as rfl) ?_
  refine gr_nil ?_
  refine gk_seq ?_
  refine gk_seq ?_
  refine gk_region ?_
  refine gr_v (ev_mv rfl) ?_
  refine gr_v (ev_lenL hr.len rfl ⟨_, rfl, _, Tryz.runUnderlying29⟩) ?_
  refine gr_v (ev_mv rfl) ?_
  refine gr_nil ?_
  refine gk_block ?_
  refine gk_loop (fun i : Nat × Value × List Value × Mem => [(1, .func (.func 28) #[] #[]), (8, v), (9, .int .i64 l.length), (10, .int .i64 (i.1 : Int)), (5, i.2.1)]) (fun i w' => GRow 87 3 M w w' i.2.2.2 i.2.1 i.1 i.2.2.1 ∧ i.1 ≤ l.length ∧ SoFarM 3 (R' i.2.2.2) l i.1 i.2.2.1) (fun i => l.length - i.1) (0, .slice none 0 0, [], M) ⟨rfl, rfl, rfl, rfl, rfl, trivial⟩ ⟨GRow.nil (Builds.refl hM), Nat.zero_le _, SoFarM.nil⟩ ?_
  rintro ⟨i, vc, fs, Mk⟩ wk ⟨hG, hil, hF⟩
  simp only at hG hil hF
  rcases Nat.lt_or_ge i l.length with hi | hge
  · skip
    obtain ⟨b, o, c, cs, e, fz, hvv, hcs, hle, he⟩ := hr.get hi
    refine gk_seq ?_
    refine gk_region ?_
    refine gr_v (ev_lss rfl rfl) ?_
    refine gr_nil ?_
    refine gk_seq ?_
    refine gk_true rfl (decide_eq_true (by omega)) ?_
    refine gk_skip ?_
    refine gk_seq ?_
    refine gk_block ?_
    refine gk_seq ?_
    refine gk_region ?_
    refine gr_v (ev_ix (len := l.length) (a' := o + i * 3) (by rw [← hvv]; rfl) rfl Tryz.runUnderlying29 Tryz.sizeOf86 (by omega) (by omega) (by omega)) ?_
    refine gr_v (ev_lda rfl Tryz.isAgg86 Tryz.sizeOf86 (hG.bl.has _ _ (hG.bl.sub _ _ hcs)) (mul_lt_ext hi hle)) ?_
    refine gr_var Tryz.zeroValue86 Tryz.sizeOf86 rfl rfl (hsz _ _ he).1 (hsz _ _ he).2 ?_
    intro wk1 ho1 hb1 hs1
    refine gr_nil ?_
    refine gk_region ?_
    refine gr_v (ev_mv rfl) ?_
    refine gr_v (ev_mv rfl) ?_
    refine gr_v (ev_ldall rfl Tryz.isAgg86 Tryz.sizeOf86 hb1 (hsz _ _ he).1) ?_
    have hB1 := (Builds.refl hG.bl.has).step ho1
    refine gr_call (ec_dyn rfl Tryz.call28 rfl) (hcall Mk wk1 hG.bl.sub hB1.has _ _ he) ?_
    rintro _ wk2 ⟨M2, cs2, rfl, hb2, hr2⟩
    refine gr_bs (ys := cs2.toList) (sz := 3) rfl (by simp [Value.cells]) (hsz' _ _ _ hr2).1 Tryz.runUnderlying49 Tryz.sizeOf87 Tryz.zeroValue87 (by decide) rfl ?_
    intro wk3 ho3 hb3 hs3
    have hBs : Builds Mk wk wk3 M2 := (hB1.trans hb2).step ho3
    obtain ⟨v', wk4, hap, hG4, _⟩ := (hG.more hBs).step (t := 49) (T := 49) Tryz.runUnderlying49 Tryz.typeInfo87 Tryz.sizeOf87 Tryz.zeroValue87 rfl rfl rfl (by omega) hb3 (hsz' _ _ _ hr2).1 (hsz' _ _ _ hr2).2
    refine gr_v (ev_append rfl rfl hap) ?_
    refine gr_v (ev_as rfl) ?_
    refine gr_nil ?_
    refine gk_endblk ?_
    refine gk_region ?_
    refine gr_v (ev_add (r := ((i + 1 : Nat) : Int)) rfl rfl (by rw [w_i64 (by omega) (by omega)]; omega)) ?_
    refine gr_v (ev_mv rfl) ?_
    refine gr_nil ?_
    refine gk_fin fun a ha => ?_
    exact ⟨(i + 1, v', fs ++ cs2.toList, M2), ha.keep ⟨rfl, rfl, rfl, rfl, rfl, trivial⟩, ⟨hG4, hi, (hF.mono fun y a h => hmono _ _ _ _ hBs.sub h).step hi (hsz' _ _ _ hr2).1 hr2⟩, (by show l.length - (i + 1) < l.length - i; omega)⟩
  · skip
    obtain rfl : i = l.length := by omega
    refine gk_seq ?_
    refine gk_region ?_
    refine gr_v (ev_lss rfl rfl) ?_
    refine gr_nil ?_
    refine gk_seq ?_
    refine gk_false rfl (decide_eq_false (by omega)) ?_
    refine gk_exit rfl ?_
    refine gk_seq ?_
    refine gk_region ?_
    refine gr_v (ev_mv rfl) ?_
    refine gr_v (ev_as rfl) ?_
    refine gr_nil ?_
    refine gk_ret1 Tryz.results27 rfl ?_
    obtain ⟨M', h1, h2, h3⟩ := hG.doneM hF
    exact ⟨_, rfl, M', h1, h3.sub Sub.refl fun y a h => hmono _ _ _ _ h2 h⟩

theorem i30 {α : Type} {M : Mem} {w : World} {v : Value} {l : List α} {R : Array Value → α → Prop} {R' : Mem → Array Value → α → Prop} (hr : rowM 2 M v l R) (hM : Has M w) (hlen : l.length ≤ 1000) (hsz : ∀ cs a, R cs a → cs.size = 2 ∧ ones cs)
    (hsz' : ∀ M' cs a, R' M' cs a → cs.size = 2 ∧ ones cs) (hmono : ∀ M1 M2 cs a, Sub M1 M2 → R' M1 cs a → R' M2 cs a)
    (hcall : ∀ (Mk : Mem) (wk : World), Sub M Mk → Has Mk wk → ∀ cs a, R cs a → CR Tryz.prog 31 #[.agg cs] wk (fun y w' => ∃ M' cs', y = .agg cs' ∧ Builds Mk wk w' M' ∧ R' M' cs' a)) :
    CR Tryz.prog 30 #[v, .func (.func 31) #[] #[]] w (fun v' w' => ∃ M', Builds M w w' M' ∧ rowM 2 M' v' l (R' M')) := by
  refine cr_enter Tryz.func30 rfl Tryz.ntmps30 ?_
  refine gk_seq ?_
  refine gk_region ?_
  refine gr_v (ev_as rfl) ?_
  refine gr_nil ?_
  refine gk_seq ?_
  refine gk_region ?_
  refine gr_v (ev_as rfl) ?_
  refine gr_nil ?_
  refine gk_seq ?_
  refine gk_seq ?_
  refine gk_region ?_
  refine gr_v (ev_mv rfl) ?_
  refine gr_v (ev_lenL hr.len rfl ⟨_, rfl, _, Tryz.runUnderlying33⟩) ?_
  refine gr_v (ev_mv rfl) ?_
  refine gr_nil ?_
  refine gk_block ?_
  refine gk_loop (fun i : Nat × Value × List Value × Mem => [(1, .func (.func 31) #[] #[]), (8, v), (9, .int .i64 l.length), (10, .int .i64 (i.1 : Int)), (5, i.2.1)]) (fun i w' => GRow 93 2 M w w' i.2.2.2 i.2.1 i.1 i.2.2.1 ∧ i.1 ≤ l.length ∧ SoFarM 2 (R' i.2.2.2) l i.1 i.2.2.1) (fun i => l.length - i.1) (0, .slice none 0 0, [], M) ⟨rfl, rfl, rfl, rfl, rfl, trivial⟩ ⟨GRow.nil (Builds.refl hM), Nat.zero_le _, SoFarM.nil⟩ ?_
  rintro ⟨i, vc, fs, Mk⟩ wk ⟨hG, hil, hF⟩
  simp only at hG hil hF
  rcases Nat.lt_or_ge i l.length with hi | hge
  · skip
    obtain ⟨b, o, c, cs, e, fz, hvv, hcs, hle, he⟩ := hr.get hi
    refine gk_seq ?_
    refine gk_region ?_
    refine gr_v (ev_lss rfl rfl) ?_
    refine gr_nil ?_
    refine gk_seq ?_
    refine gk_true rfl (decide_eq_true (by omega)) ?_
    refine gk_skip ?_
    refine gk_seq ?_
    refine gk_block ?_
    refine gk_seq ?_
    refine gk_region ?_
    refine gr_v (ev_ix (len := l.length) (a' := o + i * 2) (by rw [← hvv]; rfl) rfl Tryz.runUnderlying33 Tryz.sizeOf92 (by omega) (by omega) (by omega)) ?_
    refine gr_v (ev_lda rfl Tryz.isAgg92 Tryz.sizeOf92 (hG.bl.has _ _ (hG.bl.sub _ _ hcs)) (mul_lt_ext hi hle)) ?_
    refine gr_var Tryz.zeroValue92 Tryz.sizeOf92 rfl rfl (hsz _ _ he).1 (hsz _ _ he).2 ?_
    intro wk1 ho1 hb1 hs1
    refine gr_nil ?_
    refine gk_region ?_
    refine gr_v (ev_mv rfl) ?_
    refine gr_v (ev_mv rfl) ?_
    refine gr_v (ev_ldall rfl Tryz.isAgg92 Tryz.sizeOf92 hb1 (hsz _ _ he).1) ?_
    have hB1 := (Builds.refl hG.bl.has).step ho1
    refine gr_call (ec_dyn rfl Tryz.call31 rfl) (hcall Mk wk1 hG.bl.sub hB1.has _ _ he) ?_
    rintro _ wk2 ⟨M2, cs2, rfl, hb2, hr2⟩
    refine gr_bs (ys := cs2.toList) (sz := 2) rfl (by simp [Value.cells]) (hsz' _ _ _ hr2).1 Tryz.runUnderlying50 Tryz.sizeOf93 Tryz.zeroValue93 (by decide) rfl ?_
    intro wk3 ho3 hb3 hs3
    have hBs : Builds Mk wk wk3 M2 := (hB1.trans hb2).step ho3
    obtain ⟨v', wk4, hap, hG4, _⟩ := (hG.more hBs).step (t := 50) (T := 50) Tryz.runUnderlying50 Tryz.typeInfo93 Tryz.sizeOf93 Tryz.zeroValue93 rfl rfl rfl (by omega) hb3 (hsz' _ _ _ hr2).1 (hsz' _ _ _ hr2).2
    refine gr_v (ev_append rfl rfl hap) ?_
    refine gr_v (ev_as rfl) ?_
    refine gr_nil ?_
    refine gk_endblk ?_
    refine gk_region ?_
    refine gr_v (ev_add (r := ((i + 1 : Nat) : Int)) rfl rfl (by rw [w_i64 (by omega) (by omega)]; omega)) ?_
    refine gr_v (ev_mv rfl) ?_
    refine gr_nil ?_
    refine gk_fin fun a ha => ?_
    exact ⟨(i + 1, v', fs ++ cs2.toList, M2), ha.keep ⟨rfl, rfl, rfl, rfl, rfl, trivial⟩, ⟨hG4, hi, (hF.mono fun y a h => hmono _ _ _ _ hBs.sub h).step hi (hsz' _ _ _ hr2).1 hr2⟩, (by show l.length - (i + 1) < l.length - i; omega)⟩
  · skip
    obtain rfl : i = l.length := by omega
    refine gk_seq ?_
    refine gk_region ?_
    refine gr_v (ev_lss rfl rfl) ?_
    refine gr_nil ?_
    refine gk_seq ?_
    refine gk_false rfl (decide_eq_false (by omega)) ?_
    refine gk_exit rfl ?_
    refine gk_seq ?_
    refine gk_region ?_
    refine gr_v (ev_mv rfl) ?_
    refine gr_v (ev_as rfl) ?_
    refine gr_nil ?_
    refine gk_ret1 Tryz.results30 rfl ?_
    obtain ⟨M', h1, h2, h3⟩ := hG.doneM hF
    exact ⟨_, rfl, M', h1, h3.sub Sub.refl fun y a h => hmono _ _ _ _ h2 h⟩

end Go.Proofs.YtjaplgfgkigmiaaGreat