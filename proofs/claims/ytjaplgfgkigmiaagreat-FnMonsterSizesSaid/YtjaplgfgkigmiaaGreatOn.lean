/-
  Choices made objects.
-/
import Derived.Test.YtjaplgfgkigmiaaGreatOd
namespace Go.Proofs.YtjaplgfgkigmiaaGreat
open Go Go.Proofs

theorem Has.old {M : Mem} {w w' : World} (h : Has M w) (ho : Old w w') : Has M w' := fun b x hb => ho b x (h b x hb)
theorem u57 {M M1 : Mem} {w : World} {k col : UInt8} {v : Value} {p : PK} (hv : rowM 51 M v [p] (ImplOK M)) (hs : Sub M M1) (hM : Has M1 w) :
    CR Tryz.prog 57 #[.agg #[B k, v, B col]] w (fun y w' => one y = true ∧ ∃ M', Builds M1 w w' M' ∧ Packs 18 M' y p) := by
  have hlen := hv.len
  obtain ⟨b, o, c, cs, e, fz, hvv, hcs, hle, hok⟩ := hv.get (i := 0) (by simp)
  refine cr_enter Tryz.func57 rfl Tryz.ntmps57 ?_
  refine gk_seq ?_
  refine gk_region ?_
  refine gr_box rfl ?_
  intro w1 ho1 hb1 hs1
  refine gr_v (ev_as rfl) ?_
  refine gr_nil ?_
  refine gk_seq ?_
  refine gk_seq ?_
  refine gk_region ?_
  refine gr_v (ev_fa (j := 1) rfl Tryz.runUnderlying47 rfl Tryz.sizeOf45 rfl rfl) ?_
  refine gr_v (ev_ld rfl Tryz.isAgg45 (by first | exact hb1) (by rfl)) ?_
  refine gr_v (ev_lenL hlen rfl ⟨_, rfl, _, Tryz.runUnderlying45⟩) ?_
  refine gr_v (ev_eql rfl rfl) ?_
  refine gr_nil ?_
  refine gk_false rfl (rfl) ?_
  refine gk_skip ?_
  refine gk_seq ?_
  refine gk_region ?_
  refine gr_v (ev_fa (j := 1) rfl Tryz.runUnderlying47 rfl Tryz.sizeOf45 rfl rfl) ?_
  refine gr_v (ev_ld rfl Tryz.isAgg45 (by first | exact hb1) (by rfl)) ?_
  refine gr_v (ev_ix (a' := o + 0 * 51) (by rw [← hvv]; rfl) rfl Tryz.runUnderlying45 Tryz.sizeOf52 (by omega) (by simp) (by omega)) ?_
  refine gr_v (ev_lda rfl Tryz.isAgg52 Tryz.sizeOf52 (ho1 _ _ (hM _ _ (hs _ _ hcs))) (by simp at hle; omega)) ?_
  refine gr_call (ec_func Tryz.call17 rfl) (hok.2.2 M1 w1 hs (hM.old ho1)) ?_
  rintro y w2 ⟨ho2, M', hb2, hp2⟩
  refine gr_v (ev_as rfl) ?_
  refine gr_nil ?_
  refine gk_ret1 Tryz.results57 rfl ?_
  exact ⟨_, rfl, ho2, M', ((Builds.refl hM).step ho1).trans hb2, hp2⟩

theorem u56s {M1 : Mem} {w : World} {k col : UInt8} {v : Value} (hk : k = 2) (hM : Has M1 w) :
    CR Tryz.prog 56 #[.agg #[B k, v, B col]] w (fun y w' => ∃ M' q, Builds M1 w w' M' ∧ y = .iface 234 (ptr q) ∧ Packs 233 M' (ptr q) (packSimple col)) := by
  subst hk
  refine cr_enter Tryz.func56 rfl Tryz.ntmps56 ?_
  refine gk_seq ?_
  refine gk_region ?_
  refine gr_box rfl ?_
  intro w1 ho1 hb1 hs1
  refine gr_v (ev_as rfl) ?_
  refine gr_nil ?_
  refine gk_seq ?_
  refine gk_seq ?_
  refine gk_region ?_
  refine gr_v (ev_fa (j := 0) rfl Tryz.runUnderlying47 rfl Tryz.sizeOf5 rfl rfl) ?_
  refine gr_v (ev_ld rfl Tryz.isAgg5 (by first | exact hb1) (by rfl)) ?_
  refine gr_v (ev_eql rfl rfl) ?_
  refine gr_nil ?_
  refine gk_true rfl (rfl) ?_
  refine gk_seq ?_
  refine gk_region ?_
  refine gr_v (ev_fa (j := 2) rfl Tryz.runUnderlying47 rfl Tryz.sizeOf5 rfl rfl) ?_
  refine gr_v (ev_ld rfl Tryz.isAgg5 (by first | exact hb1) (by rfl)) ?_
  refine gr_v (ev_build (ps := [(0, .tmp 7)]) (vs := [(0, B col)]) (cs := #[B col]) rfl (by kernel_rfl)) ?_
  refine gr_box rfl ?_
  intro w2 ho2 hb2 hs2
  refine gr_v (ev_mkif rfl Tryz.runUnderlying234 rfl) ?_
  refine gr_v (ev_as rfl) ?_
  refine gr_nil ?_
  refine gk_ret1 Tryz.results56 rfl ?_
  have hb := ((Builds.refl hM).step (ho1.trans ho2)).add hb2 (hM.none (by omega)) (by omega)
  exact ⟨_, rfl, _, w1.heap.size, hb, rfl, p233 _ putM_same⟩

theorem u56m {M M1 : Mem} {w : World} {k col : UInt8} {v : Value} {p : PK} (hk : k ≠ 2) (hv : rowM 51 M v [p] (ImplOK M)) (hs : Sub M M1) (hM : Has M1 w) :
    CR Tryz.prog 56 #[.agg #[B k, v, B col]] w (fun y w' => ∃ M' q, Builds M1 w w' M' ∧ y = .iface 66 q ∧ Packs 18 M' q p) := by
  have hk' : (k.toNat : Int) ≠ 2 := fun e => hk (UInt8.toNat_inj.1 (by rw [show (2 : UInt8).toNat = 2 from rfl]; omega))
  refine cr_enter Tryz.func56 rfl Tryz.ntmps56 ?_
  refine gk_seq ?_
  refine gk_region ?_
  refine gr_box rfl ?_
  intro w1 ho1 hb1 hs1
  refine gr_v (ev_as rfl) ?_
  refine gr_nil ?_
  refine gk_seq ?_
  refine gk_seq ?_
  refine gk_region ?_
  refine gr_v (ev_fa (j := 0) rfl Tryz.runUnderlying47 rfl Tryz.sizeOf5 rfl rfl) ?_
  refine gr_v (ev_ld rfl Tryz.isAgg5 (by first | exact hb1) (by rfl)) ?_
  refine gr_v (ev_eql rfl rfl) ?_
  refine gr_nil ?_
  refine gk_false rfl (by rw [beq_eq_false_iff_ne]; exact hk') ?_
  refine gk_skip ?_
  refine gk_seq ?_
  refine gk_region ?_
  refine gr_v (ev_lda rfl Tryz.isAgg47 Tryz.sizeOf47 hb1 (Nat.le_refl 3)) ?_
  rw [show (Value.cells (Value.agg #[B k, v, B col])).extract 0 (0 + 3) = #[B k, v, B col] from rfl]
  refine gr_call (ec_func Tryz.call57 rfl) (u57 hv hs (hM.old ho1)) ?_
  rintro y w2 ⟨ho2, M', hb2, hp2⟩
  refine gr_v (ev_mkif rfl Tryz.runUnderlying66 rfl) ?_
  refine gr_v (ev_as rfl) ?_
  refine gr_nil ?_
  refine gk_ret1 Tryz.results56 rfl ?_
  exact ⟨_, rfl, M', _, ((Builds.refl hM).step ho1).trans hb2, rfl, hp2⟩


section
variable {n : Nat} {P : Program} {Q : Exit → Act → World → Prop} {k : List KItem} {l : Slots} {w : World} {ops : Array Oper} {S : World → Prop} {q fuel : Nat} {listed : Array Bool}
variable {d : Nat} {op : Op} {T t : TypeId} {pos : String} {aft : Array Edge} {v : Value} {x : Operand}
theorem ga_box (i : Nat) (ho : ops[i]? = some ⟨some d, .box t x, T, pos, aft, none⟩) (hr : Region.ready .any ops listed = [i]) (hx : ev l x = some v) (hS : ∀ w', Old w w' → S w')
    (h : ∀ w', Old w w' → w'.heap[w.heap.size]? = some (.cells v.cells t (0, 0)) → w'.heap.size = w.heap.size + 1 → GA n P ops Q k S fuel (listed.setIfInBounds i true) ((d, .pointer (some ⟨w.heap.size, 0, none⟩)) :: l) w') (hd : d < n := by decide) : GA n P ops Q k S (fuel + 1) listed l w :=
  ga_v i ho hr (ev_box hx) (hS _ Old.alloc) (h _ Old.alloc al_new al_size) hd
theorem gt_box (i : Nat) (ho : ops[i]? = some ⟨some d, .box t x, T, pos, aft, none⟩) (hr : Region.ready .any ops listed = [i]) (hx : ev l x = some v) (hS : ∀ w', Old w w' → S w')
    (h : ∀ w', Old w w' → w'.heap[w.heap.size]? = some (.cells v.cells t (0, 0)) → w'.heap.size = w.heap.size + 1 → GT n P ops Q k S q fuel (listed.setIfInBounds i true) ((d, .pointer (some ⟨w.heap.size, 0, none⟩)) :: l) w') (hd : d < n := by decide) : GT n P ops Q k S q (fuel + 1) listed l w :=
  gt_v i ho hr (ev_box hx) (hS _ Old.alloc) (h _ Old.alloc al_new al_size) hd
theorem gt_bs (i : Nat) {z : Value} {ys : List Value} {e sz : Nat} (ho : ops[i]? = some ⟨some d, .buildSlice t 1 #[(0, x)], T, pos, aft, none⟩) (hr : Region.ready .any ops listed = [i]) (hx : ev l x = some v) (hv : v.cells = ys.toArray) (hys : ys.length = sz) (hT : ∀ w, (underlying t).run P w = .ok (.slice e) w) (hs : ∀ w, (sizeOf e).run P w = .ok sz w) (hz : ∀ w, (zeroValue e).run P w = .ok z w)
    (hsz : decide (0 < sz ∧ sz ≤ 1000) = true) (hzs : z.cells.size = sz) (hS : ∀ w', Old w w' → S w')
    (h : ∀ w', Old w w' → w'.heap[w.heap.size]? = some (.cells ys.toArray e (0, 0)) → w'.heap.size = w.heap.size + 1 → GT n P ops Q k S q fuel (listed.setIfInBounds i true) ((d, .slice (some ⟨w.heap.size, 0, none⟩) 1 1) :: l) w') (hd : d < n := by decide) : GT n P ops Q k S q (fuel + 1) listed l w :=
  gt_v i ho hr (ev_bsn hx hv hys hT hs hz hsz hzs) (hS _ Old.alloc) (h _ Old.alloc al_new al_size) hd
/-- A whole variable read. -/
theorem ev_ldall {b s : Nat} {cs : Array Value} {e : TypeId} {fz : Nat × Nat} (hx : ev l x = some (.pointer (some ⟨b, 0, none⟩))) (hA : ∀ w, (isAgg t).run P w = .ok true w)
    (hs : ∀ w, (sizeOf t).run P w = .ok s w) (hb : w.heap[b]? = some (.cells cs e fz)) (hi : cs.size = s) : EV P l (.load t x) T w (.agg cs) w := by
  have := ev_lda (P := P) (l := l) (w := w) (T := T) hx hA hs hb (by omega)
  have e1 : cs.extract 0 (0 + s) = cs := by subst hi; simp
  rw [e1] at this; exact this
theorem ev_sidx {y : Operand} {s : ByteArray} {kd : IntKind} {m : Int} {i : Nat} (hx : ev l x = some (.string s)) (hy : ev l y = some (.int kd m)) (hT : ∀ w, (underlying t).run P w = .ok .string w) (hm : m = i) (hi : i < s.data.toList.length) :
    EV P l (.index t x y) T w (B (s.data.toList[i])) w := ev_of <| fun ρ o ho _ hρ => by
  subst hm
  have hi' : i < s.size := hi
  have hg : s[i]? = some (s.data.toList[i]) := by rw [getElem?_pos s i hi']; rfl
  simp only [execOp, ho, hρ _ _ hx, hρ _ _ hy, Instr.index]
  simp [hT, asIntOf, hg, B]
end

end Go.Proofs.YtjaplgfgkigmiaaGreat