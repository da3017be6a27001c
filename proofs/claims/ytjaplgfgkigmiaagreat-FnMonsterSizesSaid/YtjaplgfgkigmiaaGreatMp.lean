/-
  MonsterPack: from the cells of a monster of impl to the bytes.
-/
import Derived.Test.YtjaplgfgkigmiaaGreatTh
import Derived.Test.YtjaplgfgkigmiaaGreatTm
namespace Go.Proofs.YtjaplgfgkigmiaaGreat
open Go Go.Proofs

/-- The bytes of a packed monster. -/
def strOf (l : List UInt8) : ByteArray := ⟨l.toArray⟩
theorem ev_strOf {l : Slots} {w : World} {T : TypeId} {x : Operand} {b o cap : Nat} {bs junk ex : List UInt8} (hx : ev l x = some (.slice (some ⟨b, o, none⟩) bs.length cap)) (hb : w.heap[b]? = some (.cells (row (junk ++ bs ++ ex)) 5 (0, 0))) (ho : junk.length = o) :
    EV Tryz.prog l (.convert 69 9 x) T w (.string (strOf bs)) w := ev_of <| fun ρ o' ho' _ hρ => by
  subst ho
  have h := run_convert_bytes_back (P := Tryz.prog) w 69 9 5 ⟨b, junk.length, none⟩ cap bs (by kernel_rfl) (by kernel_rfl) (by kernel_rfl) (fun j hj => by
    rw [ok_shift]
    refine cell_of hb (row_get ?_)
    rw [List.getElem?_append_left (by simp; omega), List.getElem?_append_right (by omega)]
    simp [hj])
  simp [execOp, ho', hρ _ _ hx, h, strOf]
theorem Bld.old {F F' : Nat → Prop} {w w' : World} {bb : Nat} {S : St} (h : Bld F w bb S) (ho : Old w w') (hF : ∀ b, F' b → F b ∨ w.heap.size ≤ b) (hs : ∀ b, F' b → b < w'.heap.size) : Bld F' w' bb S := by
  obtain ⟨g, h⟩ := h
  have nf : ∀ {b : Nat} {x : Obj}, w.heap[b]? = some x → ¬ F b → ¬ F' b := fun hx hn hf => by
    rcases hF _ hf with h1 | h1
    · exact hn h1
    · have := lt_of_heap hx; omega
  exact ⟨g, { hb := ho _ _ h.hb, hk := ho _ _ h.hk, hv := fun b hb => ho _ _ (h.hv b hb), hv0 := h.hv0, hst := h.hst, ht := ho _ _ h.ht, bk := h.bk, bv := h.bv, bt := h.bt, kt := h.kt, fb := nf h.hb h.fb, fk := nf h.hk h.fk,
              fv := fun b hb => nf (h.hv b hb) (h.fv b hb), ft := nf h.ht h.ft, fs := hs, room := h.room, small := h.small, vone := h.vone, tone := h.tone }⟩
/-- What MonsterPack's closure does. -/
theorem p14 {M : Mem} {cs : Array Value} {pk : PK} {w : World} {bn bm bd n r : Nat} {S S' : St} {v0 : Value} (hI : ImplOK M cs pk) (hM : Has M w) (hn : n ≤ 100000) (h1 : pk St0 = some (r, S)) (h2 : finish r S = some S') (h3 : S'.fin = true) (h4 : 0 < S'.buf.length)
    (hbn : w.heap[bn]? = some (.cells #[.int .i64 n] 3 (0, 0))) (hbm : w.heap[bm]? = some (.cells cs 52 (0, 0))) (hbd : w.heap[bd]? = some (.cells #[v0] 9 (0, 0))) :
    CR Tryz.prog 14 #[ptr bn, ptr bm, ptr bd] w (fun _ w' => w'.heap[bd]? = some (.cells #[.string (strOf S'.buf)] 9 (0, 0)) ∧ ∀ (b : Nat) (x : Obj), b ≠ bd → w.heap[b]? = some x → w'.heap[b]? = some x) := by
  refine cr_enter (vs := [ptr bn, ptr bm, ptr bd]) Tryz.func14 rfl Tryz.ntmps14 ?_
  refine gk_seq ?_
  refine gk_region ?_
  refine gr_v (ev_ld rfl Tryz.isAgg3 hbn rfl) ?_
  refine gr_call (ec_func Tryz.call15 rfl) (c15 n hn (fun b => b < w.heap.size) w (fun _ h => h)) ?_
  rintro _ w1 ⟨bb, rfl, hB1, hK1⟩
  have k1 : ∀ (b : Nat) (x : Obj), w.heap[b]? = some x → w1.heap[b]? = some x := fun b x hb => by rw [hK1.1 b (lt_of_heap hb)]; exact hb
  refine gr_v (ev_as rfl) ?_
  refine gr_nil ?_
  refine gk_seq ?_
  refine gk_region ?_
  refine gr_v (ev_mv rfl) ?_
  refine gr_v (ev_ldall rfl Tryz.isAgg52 Tryz.sizeOf52 (k1 _ _ hbm) hI.1) ?_
  refine gr_call (ec_func Tryz.call17 rfl) (hI.2.2 (fun b => w.heap[b]?) w1 hM k1) ?_
  rintro v w2 ⟨_, M', hBl, hPk⟩
  have hE : Ext M' (fun b => ∃ x, M' b = some x) w2 := fun b x hb => ⟨⟨x, hb⟩, hBl.has b x hb⟩
  have hB2 : Bld (fun b => ∃ x, M' b = some x) w2 bb St0 := hB1.old hBl.old (fun b ⟨x, hb⟩ => (hBl.new b x hb).elim (fun h => .inl (lt_of_heap h)) .inr) (fun b ⟨x, hb⟩ => lt_of_heap (hBl.has b x hb))
  refine gr_v (ev_mv rfl) ?_
  refine gr_call (ec_func Tryz.call18 rfl) (hPk _ w2 bb _ _ _ hE hB2 h1) ?_
  rintro _ w3 ⟨rfl, hB3, hK3⟩
  refine gr_call (ec_func Tryz.call16 rfl) (c16 r _ w3 bb _ _ hB3 h2) ?_
  rintro _ w4 ⟨rfl, hB4, hK4⟩
  obtain ⟨g, hg⟩ := hB4
  refine gr_nil ?_
  refine gk_region ?_
  refine gr_v (ev_mv rfl) ?_
  refine gr_call (ec_func Tryz.call19 rfl) (c19 hg h3 h4) ?_
  rintro _ w5 ⟨rfl, hh5⟩
  have hk : ∀ (b : Nat) (x : Obj), w.heap[b]? = some x → w5.heap[b]? = some x := fun b x hb => by
    have hm := hBl.sub b x hb
    rw [hh5, hK4.1 b ⟨x, hm⟩, hK3.1 b ⟨x, hm⟩]
    exact hBl.has b x hm
  refine gr_v (ev_strOf rfl (by rw [hh5]; exact hg.hk) rfl) ?_
  refine gr_s (es_st (cs' := #[.string (strOf S'.buf)]) rfl rfl rfl Tryz.sizeOf9 (hk _ _ hbd) rfl rfl) ?_
  refine gr_nil ?_
  refine gk_end0 Tryz.results14 ?_
  exact ⟨_, rfl, sb_same (hk _ _ hbd), fun b x hne hb => sb_ne (Ne.symm hne) (hk b x hb)⟩
section
variable {n : Nat} {P : Program} {k : List KItem} {l : Slots} {w : World}
theorem gk_retct {fn : Func} {R : Ending → World → Prop} {t u b : Nat} {ty e : TypeId} {v y : Value} {cs : Array Value} {fz : Nat × Nat} (hr : fn.results = #[.cell t ty, .tmp u]) (hv : look l t = some (.pointer (some ⟨b, 0, none⟩))) (hA : ∀ w, (isAgg ty).run P w = .ok false w)
    (hb : w.heap[b]? = some (.cells cs e fz)) (hi : cs[0]? = some v) (hy : look l u = some y) (h : R (.returned (.tuple #[v, y])) w) : GK n P (bodyPost P fn R) (.code .ret :: k) l w := fun β hβ a ha => by
  refine wpK_code (wp_ret ?_)
  have e1 : a.tmps[t]?.getD undef = .pointer (some ⟨b, 0, none⟩) := by simp [ha.val _ _ hv]
  have e2 : a.tmps[u]?.getD undef = y := by simp [ha.val _ _ hy]
  have e3 := cell_of (w := w) hb hi
  refine ⟨⟨ha.nodef, _, ?_, h⟩, hβ⟩
  simp [results, hr, e1, e2, asAddr, loadVar, hA, e3]
end
theorem m7 {M : Mem} {cs : Array Value} {pk : PK} {w : World} {n r : Nat} {S S' : St} (hI : ImplOK M cs pk) (hM : Has M w) (hn : n ≤ 100000) (h1 : pk St0 = some (r, S)) (h2 : finish r S = some S') (h3 : S'.fin = true) (h4 : 0 < S'.buf.length) :
    CR Tryz.prog 7 #[.agg cs, .int .i64 n] w (fun v w' => v = .tuple #[.string (strOf S'.buf), .bool true] ∧ Old w w') := by
  refine cr_enter (vs := [.agg cs, .int .i64 n]) Tryz.func7 rfl Tryz.ntmps7 ?_
  refine gk_seq ?_
  refine gk_region ?_
  refine gr_box rfl ?_
  intro w1 ho1 hb1 hs1
  refine gr_box rfl ?_
  intro w2 ho2 hb2 hs2
  refine gr_al Tryz.zeroValue9 ?_
  intro w3 ho3 hb3 hs3
  refine gr_v (ev_as rfl) ?_
  refine gr_nil ?_
  refine gk_seq ?_
  refine gk_region ?_
  refine gr_v (ev_mkfunc rfl) ?_
  refine gr_call (ec_func Tryz.call13 rfl) (t13 (vs := [ptr w1.heap.size, ptr w.heap.size, ptr w2.heap.size]) Tryz.call14 (R := fun w' => w'.heap[w2.heap.size]? = some (.cells #[.string (strOf S'.buf)] 9 (0, 0)) ∧ Old w w') (fun wc hoc hbc hsc => ?_) (fun w' o h => ?_)) ?_
  · refine CR_imp (p14 hI (fun b x h => hoc _ _ (ho3 _ _ (ho2 _ _ (ho1 _ _ (hM b x h))))) hn h1 h2 h3 h4 (hoc _ _ (ho3 _ _ hb2)) (hoc _ _ (ho3 _ _ (ho2 _ _ hb1))) (hoc _ _ hb3)) ?_
    rintro _ w' ⟨e1, e2⟩
    refine ⟨e2 _ _ (by omega) hbc, e1, fun b x hb => ?_⟩
    have := lt_of_heap hb
    exact e2 _ _ (by omega) (hoc _ _ (ho3 _ _ (ho2 _ _ (ho1 _ _ hb))))
  · refine ⟨sb_ne (by omega) h.1, h.2.put (by omega)⟩
  rintro _ w4 ⟨rfl, hb4, ho4⟩
  refine gr_v (ev_not rfl) ?_
  refine gr_v (ev_as rfl) ?_
  refine gr_nil ?_
  refine gk_seq ?_
  refine gk_seq ?_
  refine gk_region ?_
  refine gr_v (ev_mv rfl) ?_
  refine gr_v (ev_not rfl) ?_
  refine gr_nil ?_
  refine gk_false rfl rfl ?_
  refine gk_skip ?_
  refine gk_seq ?_
  refine gk_region ?_
  refine gr_v (ev_ld rfl Tryz.isAgg9 hb4 rfl) ?_
  refine gr_s (es_st (cs' := #[.string (strOf S'.buf)]) rfl rfl rfl Tryz.sizeOf9 hb4 rfl rfl) ?_
  refine gr_v (ev_as rfl) ?_
  refine gr_nil ?_
  refine gk_retct Tryz.results7 rfl Tryz.isAgg9 (sb_same hb4) rfl rfl ?_
  exact ⟨_, rfl, rfl, ho4.put (by omega)⟩
end Go.Proofs.YtjaplgfgkigmiaaGreat
