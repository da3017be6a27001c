/-
  MonsterRead at these bytes; monsterAwake: true.
-/
import Derived.Test.YtjaplgfgkigmiaaGreatLb
namespace Go.Proofs.YtjaplgfgkigmiaaGreat
open Go Go.Proofs

theorem orc_size : (strOf orcB).size = 144 := by kernel_rfl
theorem orc_set : setMany (Array.replicate 144 (Value.int .u8 0)) 0 ((strOf orcB).data.toList.map fun u => Value.int .u8 u.toNat) = row orcB := by kernel_rfl

theorem ev_lens144 {P : Program} {l : Slots} {w : World} {T : TypeId} {x : Operand} {s : ByteArray} {n : Nat} {ats : Array TypeId} (hx : ev l x = some (.string s)) (hT : ∃ t0, ats[0]? = some t0 ∧ ∀ w, (underlying t0).run P w = .ok .string w) (hn : s.size = n) :
    EV P l (.call ⟨.builtin .len, #[x], ats⟩) T w (.int .i64 (n : Nat)) w := by
  subst hn; exact ev_lens hx hT
theorem m42 (w : World) : CR Tryz.prog 42 #[.string (strOf orcB)] w (fun v w' => ∃ kb, v = .slice (some ⟨kb, 0, none⟩) 144 144 ∧ w'.heap[kb]? = some (.cells (row orcB) 5 (0, 0)) ∧ Old w w') := by
  have hsz := orc_size
  refine cr_enter Tryz.func42 rfl Tryz.ntmps42 ?_
  refine gk_seq ?_
  refine gk_region ?_
  refine gr_v (ev_as rfl) ?_
  refine gr_nil ?_
  refine gk_seq ?_
  refine gk_region ?_
  refine gr_v (ev_mv rfl) ?_
  refine gr_v (ev_lens144 rfl ⟨_, rfl, Tryz.runUnderlying9⟩ hsz) ?_
  refine gr_v (ev_mk (c := 144) (cap' := 144) rfl rfl Tryz.runUnderlying69 Tryz.typeInfo5 Tryz.sizeOf5 Tryz.zeroValue5 rfl (by decide) (by decide) (by decide) (by rfl) (by decide) (by decide)) ?_
  have hb1 := al_new (w := w) (o := Obj.cells (Array.replicate 144 (Value.int .u8 0)) 5)
  have ho1 : Old w (w.alloc (.cells (Array.replicate 144 (Value.int .u8 0)) 5)) := Old.alloc
  generalize w.alloc (.cells (Array.replicate 144 (Value.int .u8 0)) 5) = w1 at hb1 ho1 ⊢
  refine gr_v (ev_as rfl) ?_
  refine gr_nil ?_
  refine gk_seq ?_
  refine gk_region ?_
  refine gr_v (ev_mv rfl) ?_
  refine gr_v (ev_mv rfl) ?_
  refine gr_v (ev_copys (k := 144) (cs' := row orcB) rfl rfl rfl Tryz.runUnderlying69 Tryz.sizeOf5 hb1 hsz (by decide) (by simp) orc_set) ?_
  refine gr_nil ?_
  refine gk_seq ?_
  refine gk_region ?_
  refine gr_v (ev_mv rfl) ?_
  refine gr_v (ev_as rfl) ?_
  refine gr_nil ?_
  refine gk_ret1 Tryz.results42 rfl ?_
  exact ⟨_, rfl, _, rfl, sb_same hb1, ho1.put (Nat.le_refl _)⟩

theorem m224 {w : World} {rb : Nat} {sl c0 c1 : Value} {p : Int} (h1 : one sl = true) (hb : w.heap[rb]? = some (.cells #[c0, c1] 208 (0, 0))) : CR Tryz.prog 224 #[ptr rb, sl, .int .u32 p] w (fun v w' => v = .tuple #[] ∧ w'.heap[rb]? = some (.cells #[sl, .int .u32 p] 208 (0, 0)) ∧ ∀ (b : Nat) (x : Obj), b ≠ rb → w.heap[b]? = some x → w'.heap[b]? = some x) := by
  refine cr_enter Tryz.func224 rfl Tryz.ntmps224 ?_
  refine gk_seq ?_
  refine gk_region ?_
  refine gr_v (ev_mv rfl) ?_
  refine gr_v (ev_mv rfl) ?_
  refine gr_v (ev_nil rfl) ?_
  refine gr_v (ev_fa (j := 0) rfl Tryz.runUnderlying208 rfl Tryz.sizeOf200 rfl rfl) ?_
  refine gr_v (ev_fa (j := 0) rfl Tryz.runUnderlying200 rfl Tryz.sizeOf69 rfl rfl) ?_
  refine gr_s (es_st (cs' := #[sl, c1]) rfl rfl h1 Tryz.sizeOf69 hb rfl rfl) ?_
  refine gr_nil ?_
  refine gk_region ?_
  refine gr_v (ev_mv rfl) ?_
  refine gr_v (ev_mv rfl) ?_
  refine gr_v (ev_nil rfl) ?_
  refine gr_v (ev_fa (j := 0) rfl Tryz.runUnderlying208 rfl Tryz.sizeOf200 rfl rfl) ?_
  refine gr_v (ev_fa (j := 1) rfl Tryz.runUnderlying200 rfl Tryz.sizeOf65 rfl rfl) ?_
  refine gr_s (es_st (cs' := #[sl, .int .u32 p]) rfl rfl rfl Tryz.sizeOf65 (sb_same hb) rfl rfl) ?_
  refine gr_nil ?_
  refine gk_end0 Tryz.results224 ?_
  exact ⟨_, rfl, rfl, sb_same (sb_same hb), fun b x hn hx => sb_ne (Ne.symm hn) (sb_ne (Ne.symm hn) hx)⟩

theorem m41 {w : World} {kb : Nat} (hk : w.heap[kb]? = some (.cells (row orcB) 5 (0, 0))) : CR Tryz.prog 41 #[.slice (some ⟨kb, 0, none⟩) 144 144, .int .u32 0] w (fun v w' => ∃ rb, v = ptr rb ∧ Orc rb kb w' ∧ Old w w') := by
  have hl := orcB_len
  refine cr_enter Tryz.func41 rfl Tryz.ntmps41 ?_
  refine gk_seq ?_
  refine gk_region ?_
  refine gr_v (ev_as rfl) ?_
  refine gr_nil ?_
  refine gk_seq ?_
  refine gk_region ?_
  refine gr_v (ev_mv rfl) ?_
  refine gr_v (ev_mv rfl) ?_
  refine gr_v (ev_slo (a' := 0) rfl rfl Tryz.runUnderlying69 Tryz.sizeOf5 (by decide) (by decide) (by decide) (by decide)) ?_
  refine gr_call (ec_func Tryz.call227 rfl) (n227 (o := 0) hk (by omega) (by omega)) ?_
  rintro _ _ ⟨rfl, rfl⟩
  refine gr_v (ev_as rfl) ?_
  refine gr_nil ?_
  refine gk_seq ?_
  refine gk_region ?_
  refine gr_v (ev_build (ps := []) (vs := []) (cs := #[.slice none 0 0, .int .u32 0]) rfl (by kernel_rfl)) ?_
  refine gr_box rfl ?_
  intro w1 ho1 hb1 hs1
  refine gr_v (ev_as rfl) ?_
  refine gr_nil ?_
  refine gk_seq ?_
  refine gk_region ?_
  refine gr_v (ev_mv rfl) ?_
  refine gr_v (ev_mv rfl) ?_
  refine gr_v (ev_mv rfl) ?_
  refine gr_v (ev_mv rfl) ?_
  refine gr_v (ev_add (r := 108) rfl rfl (by kernel_rfl)) ?_
  refine gr_call (ec_func Tryz.call224 rfl) (m224 rfl hb1) ?_
  rintro _ w2 ⟨rfl, hb2, hk2⟩
  refine gr_nil ?_
  refine gk_seq ?_
  refine gk_region ?_
  refine gr_v (ev_mv rfl) ?_
  refine gr_v (ev_as rfl) ?_
  refine gr_nil ?_
  refine gk_ret1 Tryz.results41 rfl ?_
  have hlt := lt_of_heap hk
  exact ⟨_, rfl, _, rfl, ⟨hb2, hk2 _ _ (by omega) (ho1 _ _ hk)⟩, fun b x hx => hk2 b x (by have := lt_of_heap hx; omega) (ho1 _ _ hx)⟩

theorem m39 {w : World} {bs br : Nat} {cz : Array Value} (hs : w.heap[bs]? = some (.cells #[.string (strOf orcB)] 9 (0, 0))) (hr : w.heap[br]? = some (.cells cz 52 (0, 0))) (hz : cz.size = 51) : CR Tryz.prog 39 #[ptr bs, ptr br] w (fun _ w' => w'.heap[br]? = some (.cells rdCells 52 (0, 0)) ∧ ∀ (b : Nat) (x : Obj), b ≠ br → w.heap[b]? = some x → w'.heap[b]? = some x) := by
  refine cr_enter Tryz.func39 rfl Tryz.ntmps39 ?_
  refine gk_region ?_
  refine gr_v (ev_ld rfl Tryz.isAgg9 (by first | exact hs) (by rfl)) ?_
  refine gr_call (ec_func Tryz.call42 rfl) (m42 _) ?_
  rintro _ w1 ⟨kb, rfl, hk1, ho1⟩
  refine gr_call (ec_func Tryz.call41 rfl) (m41 hk1) ?_
  rintro _ w2 ⟨rb, rfl, hO, ho2⟩
  refine gr_call (ec_func Tryz.call40 rfl) (m40 hO) ?_
  rintro _ w3 ⟨rfl, ho3⟩
  refine gr_s (es_sta rfl rfl Tryz.sizeOf52 (ho3 _ _ (ho2 _ _ (ho1 _ _ hr))) hz rfl (ones_lit rfl)) ?_
  refine gr_nil ?_
  refine gk_end0 Tryz.results39 ?_
  exact ⟨_, rfl, sb_same (ho3 _ _ (ho2 _ _ (ho1 _ _ hr))), fun b x hn hx => sb_ne (Ne.symm hn) (ho3 _ _ (ho2 _ _ (ho1 _ _ hx)))⟩

section
variable {n : Nat} {P : Program} {k : List KItem} {l : Slots} {w : World}
theorem gk_retat {fn : Func} {R : Ending → World → Prop} {t u b s : Nat} {ty e : TypeId} {y : Value} {cs : Array Value} {fz : Nat × Nat} (hr : fn.results = #[.cell t ty, .tmp u]) (hv : look l t = some (.pointer (some ⟨b, 0, none⟩))) (hA : ∀ w, (isAgg ty).run P w = .ok true w) (hs : ∀ w, (sizeOf ty).run P w = .ok s w)
    (hb : w.heap[b]? = some (.cells cs e fz)) (hi : cs.size = s) (hy : look l u = some y) (h : R (.returned (.tuple #[.agg cs, y])) w) : GK n P (bodyPost P fn R) (.code .ret :: k) l w := fun β hβ a ha => by
  refine wpK_code (wp_ret ?_)
  have e1 : a.tmps[t]?.getD undef = .pointer (some ⟨b, 0, none⟩) := by simp [ha.val _ _ hv]
  have e4 : a.tmps[u]?.getD undef = y := by simp [ha.val _ _ hy]
  have e2 := loadCellsFrom_run (P := P) (w := w) (i := 0) hb s 0 #[] (by omega)
  have e3 : cs.extract (0 + 0) (0 + 0 + s) = cs := by subst hi; simp
  rw [e3] at e2
  refine ⟨⟨ha.nodef, _, ?_, h⟩, hβ⟩
  simp [results, hr, e1, e4, asAddr, loadVar, hA, hs, loadCells, e2]
end
theorem m12 (w : World) : CR Tryz.prog 12 #[.string (strOf orcB)] w (fun v w' => v = .tuple #[.agg rdCells, .bool true] ∧ Old w w') := by
  obtain ⟨zv, hzv, hzs⟩ : ∃ zv : Value, (∀ w, (zeroValue 52).run Tryz.prog w = .ok zv w) ∧ zv.cells.size = 51 := ⟨_, Tryz.zeroValue52, rfl⟩
  refine cr_enter Tryz.func12 rfl Tryz.ntmps12 ?_
  refine gk_seq ?_
  refine gk_region ?_
  refine gr_box rfl ?_
  intro w1 ho1 hb1 hs1
  refine gr_al hzv ?_
  intro w2 ho2 hb2 hs2
  refine gr_v (ev_as rfl) ?_
  refine gr_nil ?_
  refine gk_seq ?_
  refine gk_region ?_
  refine gr_v (ev_mkfunc rfl) ?_
  refine gr_call (ec_func Tryz.call13 rfl) (t13 (vs := [ptr w.heap.size, ptr w1.heap.size]) Tryz.call39 (R := fun w' => w'.heap[w1.heap.size]? = some (.cells rdCells 52 (0, 0)) ∧ Old w w') (fun wc hoc hbc hsc => ?_) (fun w' o h => ?_)) ?_
  · refine CR_imp (m39 (hoc _ _ (ho2 _ _ hb1)) (hoc _ _ hb2) hzs) ?_
    rintro _ w' ⟨e1, e2⟩
    refine ⟨e2 _ _ (by omega) hbc, e1, fun b x hb => ?_⟩
    have := lt_of_heap hb
    exact e2 _ _ (by omega) (hoc _ _ (ho2 _ _ (ho1 _ _ hb)))
  · exact ⟨sb_ne (by omega) h.1, h.2.put (by omega)⟩
  rintro _ w4 ⟨rfl, hb4, ho4⟩
  refine gr_v (ev_not rfl) ?_
  refine gr_v (ev_as rfl) ?_
  refine gr_nil ?_
  refine gk_seq ?_
  refine gk_seq ?_
  refine gk_region ?_
  refine gr_v (ev_mv rfl) ?_
  refine gr_v (ev_not rfl) ?_
  refine gr_nil ?_
  refine gk_false rfl rfl ?_
  refine gk_skip ?_
  refine gk_seq ?_
  refine gk_region ?_
  refine gr_v (ev_ldall rfl Tryz.isAgg52 Tryz.sizeOf52 hb4 rfl) ?_
  refine gr_s (es_sta rfl rfl Tryz.sizeOf52 hb4 rfl rfl (ones_lit rfl)) ?_
  refine gr_v (ev_as rfl) ?_
  refine gr_nil ?_
  refine gk_retat Tryz.results12 rfl Tryz.isAgg52 Tryz.sizeOf52 (sb_same hb4) rfl rfl ?_
  exact ⟨_, rfl, rfl, ho4.put (by omega)⟩

theorem m6 (w : World) : CR Tryz.prog 6 #[] w (fun v w' => v = .bool true ∧ Old w w') := by
  obtain ⟨r, S, S', h1, h2, h3, h4, h5⟩ := orc_pack
  have hI := o17 (M := fun _ => none) orc_src orc_clean
  refine cr_enter Tryz.func6 rfl Tryz.ntmps6 ?_
  refine gk_seq ?_
  refine gk_region ?_
  refine gr_v (ev_as rfl) ?_
  refine gr_nil ?_
  refine gk_seq ?_
  refine gk_region ?_
  refine gr_v (ev_build (cs := cells52 dOrc xOrc) rfl (by kernel_rfl)) ?_
  refine gr_call (ec_func Tryz.call7 rfl) (m7 (n := 0) hI (fun b x h => by cases h) (by decide) h1 h2 h3 h4) ?_
  rintro _ w1 ⟨rfl, ho1⟩
  rw [h5]
  refine gr_v (ev_mv rfl) ?_
  refine gr_v (ev_ext1 rfl rfl) ?_
  refine gr_v (ev_ext1 rfl rfl) ?_
  refine gr_v (ev_as rfl) ?_
  refine gr_v (ev_as rfl) ?_
  refine gr_nil ?_
  refine gk_seq ?_
  refine gk_region ?_
  refine gr_v (ev_mv rfl) ?_
  refine gr_call (ec_func Tryz.call12 rfl) (m12 _) ?_
  rintro _ w2 ⟨rfl, ho2⟩
  refine gr_v (ev_mv rfl) ?_
  refine gr_v (ev_ext1 rfl rfl) ?_
  refine gr_v (ev_ext1 rfl rfl) ?_
  refine gr_al Tryz.zeroValue52 ?_
  intro w3 ho3 hb3 hs3
  refine gr_s (es_sta rfl rfl Tryz.sizeOf52 hb3 rfl rfl (ones_lit rfl)) ?_
  have hb4 := sb_same (o := .cells rdCells 52 (0, 0)) hb3
  have ho4 : Old w (w3.setB w2.heap.size (.cells rdCells 52 (0, 0))) := ((ho1.trans ho2).trans ho3).put (by have := (ho1.trans ho2).size; omega)
  generalize w3.setB w2.heap.size (.cells rdCells 52 (0, 0)) = w4 at hb4 ho4 ⊢
  refine gr_v (ev_as rfl) ?_
  refine gr_nil ?_
  refine gk_seq ?_
  refine gk_region ?_
  refine gr_v (ev_mv rfl) ?_
  refine gr_v (ev_mv rfl) ?_
  refine gr_gv rfl rfl rfl (ev_mv rfl) ?_
  refine gr_v (ev_pickT rfl rfl rfl) ?_
  refine gr_v (ev_mv rfl) ?_
  refine gr_gv rfl rfl rfl (ev_fa (j := 3) rfl Tryz.runUnderlying52 rfl Tryz.sizeOf9 rfl rfl) ?_
  refine gr_gv rfl rfl rfl (ev_ld rfl Tryz.isAgg9 (by first | exact hb4) (by rfl)) ?_
  refine gr_gbb (b' := true) rfl rfl rfl (ev_stringeql rfl rfl) (by kernel_rfl) ?_
  refine gr_v (ev_pickT rfl rfl rfl) ?_
  refine gr_v (ev_mv rfl) ?_
  refine gr_gv rfl rfl rfl (ev_fa (j := 2) rfl Tryz.runUnderlying52 rfl Tryz.sizeOf23 rfl rfl) ?_
  refine gr_gv rfl rfl rfl (ev_ld rfl Tryz.isAgg23 (by first | exact hb4) (by rfl)) ?_
  refine gr_gbb (b' := true) rfl rfl rfl (ev_eql rfl rfl) (rfl) ?_
  refine gr_v (ev_pickT rfl rfl rfl) ?_
  refine gr_v (ev_mv rfl) ?_
  refine gr_gv rfl rfl rfl (ev_fa (j := 1) rfl Tryz.runUnderlying52 rfl Tryz.sizeOf23 rfl rfl) ?_
  refine gr_gv rfl rfl rfl (ev_ld rfl Tryz.isAgg23 (by first | exact hb4) (by rfl)) ?_
  refine gr_gbb (b' := true) rfl rfl rfl (ev_eql rfl rfl) (rfl) ?_
  refine gr_v (ev_pickT rfl rfl rfl) ?_
  refine gr_v (ev_as rfl) ?_
  refine gr_nil ?_
  refine gk_ret1 Tryz.results6 rfl ?_
  exact ⟨_, rfl, rfl, ho4⟩

end Go.Proofs.YtjaplgfgkigmiaaGreat