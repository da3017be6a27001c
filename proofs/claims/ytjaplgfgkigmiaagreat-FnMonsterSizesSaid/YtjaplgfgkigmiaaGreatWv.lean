/-
  The vtable written: the walk.
-/
import Derived.Test.YtjaplgfgkigmiaaGreatWq
namespace Go.Proofs.YtjaplgfgkigmiaaGreat
open Go Go.Proofs

theorem length_sets : ∀ (bs l : List UInt8) (o : Nat), (sets l o bs).length = l.length
  | [], _, _ => rfl
  | b :: bs, l, o => by rw [sets, length_sets bs]; simp
theorem prep_fit {s a : Nat} {S S1 : St} (h1 : prep s a S = some S1) : S1.buf.length + s + a ≤ 268435456 := by
  unfold prep at h1
  by_cases hc : (okSize s && decide (S.buf.length + padOf s (S.buf.length + a) + s + a ≤ 268435456)) = true
  · simp only [hc, if_true] at h1
    simp only [Bool.and_eq_true, decide_eq_true_eq] at hc
    have := Option.some.inj h1
    subst this
    simp
    omega
  · simp only [hc] at h1; exact absurd h1 (by simp)
theorem prependS_fit {S S1 : St} (h : prependS S = some S1) : SameF S S1 ∧ S1.buf.length ≤ 268435456 ∧ S.buf.length + 4 ≤ S1.buf.length := by
  obtain ⟨S2, h1, h2⟩ := bind_some h
  have a := prep_same h1
  have b := place_same h2
  have c := prep_fit h1
  have d : (le4 ((S2.buf.length : Int) + 4)).length = 4 := rfl
  exact ⟨a.1.trans b.1, by omega, by omega⟩
theorem trim_len (vt : List Nat) : (trim vt).length = trimLen vt vt.length := by
  unfold trim; rw [List.length_take]; exact Nat.min_eq_left (trimLen_le _ _)
theorem rowU_take {l : List Nat} {x : List Value} {k : Nat} : rowU (l.take k) ((l.drop k).map U ++ x) = rowU l x := by
  unfold rowU
  rw [← List.append_assoc, ← List.map_append, List.take_append_drop]
theorem vtAt_some {buf bs : List UInt8} {v : Nat} (h : vtAt buf v = some bs) : 4 < v ∧ v ≤ buf.length ∧ u16 buf (buf.length - v) = bs.length + 4 ∧ buf.length - v + 4 + bs.length ≤ buf.length ∧ (buf.drop (buf.length - v + 4)).take bs.length = bs := by
  unfold vtAt at h
  split at h
  · rename_i hc
    obtain ⟨h1, h2, h3, h4⟩ := hc
    have := Option.some.inj h
    have hl : bs.length = u16 buf (buf.length - v) - 4 := by rw [← this]; simp; omega
    exact ⟨h1, h2, by omega, by omega, by rw [hl]; exact this⟩
  · cases h
theorem find_cases {buf : List UInt8} {vt vts : List Nat} {obj k : Nat} {fo : Option Nat} (h : findFrom buf vt obj vts k = some fo) :
    (k = 0 ∧ fo = none) ∨ ∃ j v bs, k = j + 1 ∧ vts[j]? = some v ∧ vtAt buf v = some bs ∧ ((vtEq vt obj bs = true ∧ fo = some v) ∨ (vtEq vt obj bs = false ∧ findFrom buf vt obj vts j = some fo)) := by
  cases k with
  | zero => exact .inl ⟨rfl, (Option.some.inj h).symm⟩
  | succ j =>
    right
    unfold findFrom at h
    cases hv : vts[j]? with
    | none => simp [hv] at h
    | some v =>
      cases hb : vtAt buf v with
      | none => simp [hv, hb] at h
      | some bs =>
        simp only [hv, hb] at h
        cases he : vtEq vt obj bs
        · simp only [he] at h; exact ⟨j, v, bs, rfl, hv, hb, .inr ⟨he, h⟩⟩
        · simp only [he, if_true, Option.some.injEq] at h; exact ⟨j, v, bs, rfl, hv, hb, .inl ⟨he, h.symm⟩⟩
theorem find_pos {buf : List UInt8} {vt vts : List Nat} {obj v : Nat} : ∀ {k : Nat}, findFrom buf vt obj vts k = some (some v) → 4 < v ∧ v ≤ buf.length
  | k, h => by
    rcases find_cases h with ⟨_, h2⟩ | ⟨j, u, bs, rfl, h1, h2, h3⟩
    · cases h2
    · rcases h3 with ⟨_, h4⟩ | ⟨_, h4⟩
      · cases h4; exact ⟨(vtAt_some h2).1, (vtAt_some h2).2.1⟩
      · exact find_pos h4
theorem patch_some {obj : Nat} {bs : List UInt8} {S S' : St} (h : patch obj bs S = some S') : 4 ≤ obj ∧ obj ≤ S.buf.length ∧ S' = { S with buf := sets S.buf (S.buf.length - obj) bs } := by
  unfold patch at h
  split at h
  · rename_i hc; exact ⟨hc.1, hc.2, (Option.some.inj h).symm⟩
  · cases h
theorem entries_cons {obj k : Nat} {vt : List Nat} {S S2 : St} (h : prepEntries obj vt (k + 1) S = some S2) :
    ∃ S', prepend 2 (le2 (IntKind.wrap .u16 (if vt[k]?.getD 0 = 0 then 0 else (obj : Int) - (vt[k]?.getD 0 : Nat)))) S = some S' ∧ prepEntries obj vt k S' = some S2 := bind_some h

theorem BldG.alloc {F : Nat → Prop} {w : World} {bb : Nat} {S : St} {g : Gh} (h : BldG F w bb S g) (o : Obj) : BldG F (w.alloc o) bb S g ∧ Keep F w (w.alloc o) :=
  ⟨{ hb := al_old h.hb, hk := al_old h.hk, hv := fun b hb => al_old (h.hv b hb), hv0 := h.hv0, hst := h.hst, ht := al_old h.ht, bk := h.bk, bv := h.bv, bt := h.bt, kt := h.kt, fb := h.fb, fk := h.fk, fv := h.fv, ft := h.ft,
     fs := fun b hb => by rw [al_size]; exact Nat.lt_succ_of_lt (h.fs b hb), room := h.room, small := h.small, vone := h.vone, tone := h.tone }, Keep.alloc h.fs⟩
theorem nbt {F : Nat → Prop} {w : World} {bb t : Nat} {S : St} {g : Gh} (h : g.tb = t ∨ w.heap.size ≤ t) (hg : BldG F w bb S g) : t ≠ bb := by
  rcases h with e | e
  · rw [← e]; exact hg.bt.symm
  · have := lt_of_heap hg.hb; omega
theorem le4_len (n : Int) : (le4 n).length = 4 := rfl
theorem u16_lt (bs : List UInt8) (i : Nat) : u16 bs i < 65536 := by unfold u16; have := UInt8.toNat_lt (bs[i]?.getD 0); have := UInt8.toNat_lt (bs[i + 1]?.getD 0); omega
theorem rowU_get {l : List Nat} {x : List Value} {i v : Nat} (h : l[i]? = some v) : (rowU l x)[i]? = some (U v) := by
  obtain ⟨h1, rfl⟩ := List.getElem?_eq_some_iff.1 h
  exact rowU_at h1
theorem one_app {l : List Nat} {x : List Value} (hx : ∀ v ∈ x, one v = true) : ∀ v ∈ l.map U ++ x, one v = true := fun u hu => by
  rcases List.mem_append.1 hu with h | h
  · obtain ⟨y, _, rfl⟩ := List.mem_map.1 h; rfl
  · exact hx u h

theorem c312 : BVal 312 [] writeVtable := by
  rintro F w bb S r S' h0 hm
  unfold writeVtable at hm
  obtain ⟨S1, hp1, hm⟩ := bind_some hm
  have hfit := prependS_fit hp1
  by_cases hc : (S1.vt.all (fun a => decide (a ≤ S1.buf.length)) && decide (S1.vt.length ≤ 1000) && decide (S1.oend ≤ S1.buf.length) && decide (S1.vts.length ≤ 100000) && S1.started) = true
  case neg => rw [if_neg hc] at hm; exact absurd hm (by simp)
  rw [if_pos hc] at hm
  simp only [Bool.and_eq_true, decide_eq_true_eq, List.all_eq_true] at hc
  obtain ⟨⟨⟨⟨hva, hvl⟩, hoe⟩, htl⟩, hstd⟩ := hc
  obtain ⟨fo, hfo, hm⟩ := bind_some hm
  refine cr_enter Tryz.func312 rfl Tryz.ntmps312 ?_
  refine gk_seq ?_
  refine gk_region ?_
  refine gr_v (ev_as rfl) ?_
  refine gr_nil ?_
  refine gk_seq ?_
  refine gk_region ?_
  refine gr_v (ev_mv rfl) ?_
  refine gr_call (ec_func Tryz.call334 rfl) (c334 F w bb _ _ h0 hp1) ?_
  rintro _ w1 ⟨rfl, ⟨g, h⟩, hK1⟩
  obtain ⟨vb, hvb⟩ := h.hst hstd
  obtain ⟨kb, junk, extra, vb0, vx, tb, tx⟩ := g
  simp only at hvb
  subst hvb
  have e1 : junk.length + S1.buf.length ≤ 600000000 := h.small
  have hb1 := h.hb
  have hvone := h.vone
  have htone := h.tone
  simp only at hvone htone
  refine gr_nil ?_
  refine gk_seq ?_
  refine gk_region ?_
  refine gr_v (ev_mv rfl) ?_
  refine gr_call (ec_func Tryz.call230 rfl) (c230 h) ?_
  rintro _ w2 ⟨rfl, hh2⟩
  have h2 := h.same hh2
  have hb2 := h2.hb
  have hk2 := h2.hk
  have hv2 := h2.hv vb rfl
  have ht2 := h2.ht
  refine gr_v (ev_as rfl) ?_
  refine gr_nil ?_
  refine gk_seq ?_
  refine gk_region ?_
  refine gr_v (ev_as rfl) ?_
  refine gr_nil ?_
  refine gk_seq ?_
  refine gk_region ?_
  refine gr_v (ev_mv rfl) ?_
  refine gr_v (ev_nil rfl) ?_
  refine gr_v (ev_fa (j := 2) rfl Tryz.runUnderlying110 rfl Tryz.sizeOf107 rfl rfl) ?_
  refine gr_v (ev_ld rfl Tryz.isAgg107 (by first | exact hb2) (by rfl)) ?_
  refine gr_v (ev_len rfl ⟨_, rfl, _, Tryz.runUnderlying107⟩) ?_
  refine gr_v (ev_sub rfl rfl (w_i64 (by omega) (by omega))) ?_
  refine gr_v (ev_as rfl) ?_
  refine gr_nil ?_
  refine gk_seq ?_
  refine gk_cut (ι := Unit) (fun _ => [(0, ptr bb), (2, .int .u32 0), (3, U S1.buf.length), (4, .int .u32 0), (5, .int .i64 ((trimLen S1.vt S1.vt.length : Int) - 1))]) (fun _ w' => w2 = w') ?_ ?_
  · skip
    refine gk_block ?_
    refine gk_loop (fun k : Nat => [(0, ptr bb), (2, .int .u32 0), (3, U S1.buf.length), (4, .int .u32 0), (5, .int .i64 ((k : Int) - 1))]) (fun k w' => k ≤ S1.vt.length ∧ trimLen S1.vt S1.vt.length = trimLen S1.vt k ∧ w2 = w') (fun k => k) S1.vt.length ⟨rfl, rfl, rfl, rfl, rfl, trivial⟩ ⟨Nat.le_refl _, rfl, rfl⟩ ?_
    rintro k _ ⟨hkl, htk, rfl⟩
    have h3 : k = 0 ∨ (∃ j, ∃ hj : j < S1.vt.length, k = j + 1 ∧ S1.vt[j] = 0) ∨ (∃ j, ∃ hj : j < S1.vt.length, k = j + 1 ∧ S1.vt[j] ≠ 0) := by
      cases k with
      | zero => exact .inl rfl
      | succ j =>
        by_cases hz : S1.vt[j] = 0
        · exact .inr (.inl ⟨j, hkl, rfl, hz⟩)
        · exact .inr (.inr ⟨j, hkl, rfl, hz⟩)
    rcases h3 with rfl | ⟨j, hj, rfl, hz⟩ | ⟨j, hj, rfl, hz⟩
    · skip
      refine gk_seq ?_
      refine gk_seq ?_
      refine gk_region ?_
      refine gr_v (ev_mv rfl) ?_
      refine gr_v (ev_geq rfl rfl) ?_
      refine gr_v (ev_mv rfl) ?_
      refine gr_gs rfl rfl (by rw [decide_eq_false (by omega)]; rfl) ?_
      refine gr_gs rfl rfl (by rw [decide_eq_false (by omega)]; rfl) ?_
      refine gr_gs rfl rfl (by rw [decide_eq_false (by omega)]; rfl) ?_
      refine gr_gs rfl rfl (by rw [decide_eq_false (by omega)]; rfl) ?_
      refine gr_gs rfl rfl (by rw [decide_eq_false (by omega)]; rfl) ?_
      refine gr_gs rfl rfl (by rw [decide_eq_false (by omega)]; rfl) ?_
      refine gr_gs rfl rfl (by rw [decide_eq_false (by omega)]; rfl) ?_
      refine gr_gs rfl rfl (by rw [decide_eq_false (by omega)]; rfl) ?_
      refine gr_v (ev_pickF rfl (decide_eq_false (by omega)) rfl) ?_
      refine gr_nil ?_
      refine gk_false rfl (rfl) ?_
      refine gk_exit rfl ?_
      refine gk_fin fun a ha => ?_
      have e : (trimLen S1.vt S1.vt.length : Int) = ((0 : Nat) : Int) := by rw [htk]; rfl
      exact ⟨(), ha.keep ⟨rfl, rfl, rfl, rfl, (by rw [e]; rfl), trivial⟩, rfl⟩
    · skip
      refine gk_seq ?_
      refine gk_seq ?_
      refine gk_region ?_
      refine gr_v (ev_mv rfl) ?_
      refine gr_v (ev_geq rfl rfl) ?_
      refine gr_v (ev_mv rfl) ?_
      refine gr_gv rfl rfl (decide_eq_true (by omega)) (ev_mv rfl) ?_
      refine gr_gv rfl rfl (decide_eq_true (by omega)) (ev_nil rfl) ?_
      refine gr_gv rfl rfl (decide_eq_true (by omega)) (ev_fa (j := 2) rfl Tryz.runUnderlying110 rfl Tryz.sizeOf107 rfl rfl) ?_
      refine gr_gv rfl rfl (decide_eq_true (by omega)) (ev_ld rfl Tryz.isAgg107 (by first | exact hb2) (by rfl)) ?_
      refine gr_gv rfl rfl (decide_eq_true (by omega)) (ev_mv rfl) ?_
      refine gr_gv rfl rfl (decide_eq_true (by omega)) (ev_ix (a' := j) rfl rfl Tryz.runUnderlying107 Tryz.sizeOf65 (by omega) (by omega) (by omega)) ?_
      refine gr_gv rfl rfl (decide_eq_true (by omega)) (ev_ld rfl Tryz.isAgg65 hv2 (rowU_at hj)) ?_
      refine gr_gv rfl rfl (decide_eq_true (by omega)) (ev_eql rfl rfl) ?_
      refine gr_v (ev_pickT rfl (decide_eq_true (by omega)) rfl) ?_
      refine gr_nil ?_
      refine gk_true rfl (by rw [beq_iff_eq]; omega) ?_
      refine gk_skip ?_
      refine gk_seq ?_
      refine gk_block ?_
      refine gk_skip ?_
      refine gk_endblk ?_
      refine gk_region ?_
      refine gr_v (ev_mv rfl) ?_
      refine gr_v (ev_sub (r := (j : Int) - 1) rfl rfl (by rw [w_i64 (by omega) (by omega)]; omega)) ?_
      refine gr_v (ev_as rfl) ?_
      refine gr_nil ?_
      refine gk_fin fun a ha => ?_
      exact ⟨j, ha.keep ⟨rfl, rfl, rfl, rfl, rfl, trivial⟩, ⟨by omega, by rw [htk]; simp [trimLen, List.getElem?_eq_getElem hj, hz], rfl⟩, by omega⟩
    · skip
      refine gk_seq ?_
      refine gk_seq ?_
      refine gk_region ?_
      refine gr_v (ev_mv rfl) ?_
      refine gr_v (ev_geq rfl rfl) ?_
      refine gr_v (ev_mv rfl) ?_
      refine gr_gv rfl rfl (decide_eq_true (by omega)) (ev_mv rfl) ?_
      refine gr_gv rfl rfl (decide_eq_true (by omega)) (ev_nil rfl) ?_
      refine gr_gv rfl rfl (decide_eq_true (by omega)) (ev_fa (j := 2) rfl Tryz.runUnderlying110 rfl Tryz.sizeOf107 rfl rfl) ?_
      refine gr_gv rfl rfl (decide_eq_true (by omega)) (ev_ld rfl Tryz.isAgg107 (by first | exact hb2) (by rfl)) ?_
      refine gr_gv rfl rfl (decide_eq_true (by omega)) (ev_mv rfl) ?_
      refine gr_gv rfl rfl (decide_eq_true (by omega)) (ev_ix (a' := j) rfl rfl Tryz.runUnderlying107 Tryz.sizeOf65 (by omega) (by omega) (by omega)) ?_
      refine gr_gv rfl rfl (decide_eq_true (by omega)) (ev_ld rfl Tryz.isAgg65 hv2 (rowU_at hj)) ?_
      refine gr_gv rfl rfl (decide_eq_true (by omega)) (ev_eql rfl rfl) ?_
      refine gr_v (ev_pickT rfl (decide_eq_true (by omega)) rfl) ?_
      refine gr_nil ?_
      refine gk_false rfl (by rw [beq_eq_false_iff_ne]; omega) ?_
      refine gk_exit rfl ?_
      refine gk_fin fun a ha => ?_
      have e : (trimLen S1.vt S1.vt.length : Int) = ((j + 1 : Nat) : Int) := by rw [htk]; simp [trimLen, List.getElem?_eq_getElem hj, hz]
      exact ⟨(), ha.keep ⟨rfl, rfl, rfl, rfl, (by rw [e]; rfl), trivial⟩, rfl⟩
  rintro _ _ rfl
  have htl2 := trimLen_le S1.vt S1.vt.length
  refine gk_seq ?_
  refine gk_region ?_
  refine gr_v (ev_mv rfl) ?_
  refine gr_v (ev_mv rfl) ?_
  refine gr_v (ev_nil rfl) ?_
  refine gr_v (ev_fa (j := 2) rfl Tryz.runUnderlying110 rfl Tryz.sizeOf107 rfl rfl) ?_
  refine gr_v (ev_ld rfl Tryz.isAgg107 (by first | exact hb2) (by rfl)) ?_
  refine gr_v (ev_mv rfl) ?_
  refine gr_v (ev_add (r := (trimLen S1.vt S1.vt.length : Int)) rfl rfl (by rw [w_i64 (by omega) (by omega)]; omega)) ?_
  refine gr_v (ev_shi' (ln := trimLen S1.vt S1.vt.length) rfl rfl Tryz.runUnderlying107 Tryz.sizeOf65 (by omega) (by omega) (by omega)) ?_
  refine gr_v (ev_nil rfl) ?_
  refine gr_v (ev_fa (j := 2) rfl Tryz.runUnderlying110 rfl Tryz.sizeOf107 rfl rfl) ?_
  refine gr_st rfl rfl (by rfl) Tryz.sizeOf107 (by first | exact hb2) (by rfl) (by rfl) ?_
  intro w3 hw3 hb3
  have hb3b : w3.heap[bb]? = some (.cells (({ kb := kb, junk := junk, extra := extra, vb := some vb, vx := (S1.vt.drop (trimLen S1.vt S1.vt.length)).map U ++ vx, tb := tb, tx := tx } : Gh).cells { S1 with vt := trim S1.vt }) 110 (0, 0)) := by rw [hb3]; congr 2; simp [Gh.cells, Gh.vtv, Gh.len, Gh.cap, trim_len]; omega
  have hv3b : w3.heap[vb]? = some (.cells (rowU (trim S1.vt) ((S1.vt.drop (trimLen S1.vt S1.vt.length)).map U ++ vx)) 65 (0, 0)) := by rw [show trim S1.vt = S1.vt.take (trimLen S1.vt S1.vt.length) from rfl, rowU_take]; exact sb_at hw3 (h2.bv vb rfl).1 hv2
  have h3' := h2.revt (w' := w3) vb ((S1.vt.drop (trimLen S1.vt S1.vt.length)).map U ++ vx) { S1 with vt := trim S1.vt } rfl rfl rfl (one_app hvone) hb3b hv3b (fun c x n1 n2 hx => sb_at hw3 n1 hx) (.inl rfl) (by rw [hw3, sb_size]; exact Nat.le_refl _)
  have hvl2 : (trim S1.vt).length ≤ 1000 := by rw [trim_len]; omega
  have hva2 : ∀ a ∈ trim S1.vt, a ≤ S1.buf.length := fun a ha => hva a (List.mem_of_mem_take ha)
  clear hb3b hv3b hb3
  generalize (S1.vt.drop (trimLen S1.vt S1.vt.length)).map U ++ vx = vx2 at *
  generalize trim S1.vt = vt2 at *
  obtain ⟨h3, hK3⟩ := h3'
  have hb3 := h3.hb
  have hk3 := h3.hk
  have hv3 : w3.heap[vb]? = some (.cells (rowU vt2 vx2) 65 (0, 0)) := h3.hv vb rfl
  have ht3 : w3.heap[tb]? = some (.cells (rowU S1.vts tx) 65 (0, 0)) := h3.ht
  simp only at hk3
  have hvb2 : ∀ a ∈ vt2, a ≤ 268435456 := fun a ha => Nat.le_trans (hva2 a ha) hfit.2.1
  refine gr_nil ?_
  refine gk_seq ?_
  refine gk_seq ?_
  refine gk_region ?_
  refine gr_v (ev_mv rfl) ?_
  refine gr_v (ev_nil rfl) ?_
  refine gr_v (ev_fa (j := 4) rfl Tryz.runUnderlying110 rfl Tryz.sizeOf107 rfl rfl) ?_
  refine gr_v (ev_ld rfl Tryz.isAgg107 (by first | exact hb3) (by rfl)) ?_
  refine gr_v (ev_len (len := S1.vts.length) rfl ⟨_, rfl, _, Tryz.runUnderlying107⟩) ?_
  refine gr_v (ev_sub rfl rfl (w_i64 (by omega) (by omega))) ?_
  refine gr_v (ev_as rfl) ?_
  refine gr_nil ?_
  refine gk_cut (ι := Unit) (fun _ => [(0, ptr bb), (2, .int .u32 0), (3, U S1.buf.length), (4, U (fo.getD 0))]) (fun _ w' => w3 = w') ?_ ?_
  · skip
    refine gk_block ?_
    refine gk_loop (fun k : Nat => [(0, ptr bb), (2, .int .u32 0), (3, U S1.buf.length), (4, .int .u32 0), (6, .int .i64 ((k : Int) - 1))]) (fun k w' => k ≤ S1.vts.length ∧ findFrom S1.buf vt2 S1.buf.length S1.vts k = some fo ∧ w3 = w') (fun k => k) S1.vts.length ⟨rfl, rfl, rfl, rfl, rfl, trivial⟩ ⟨Nat.le_refl _, hfo, rfl⟩ ?_
    rintro k _ ⟨hkl, hf, rfl⟩
    rcases find_cases hf with ⟨rfl, rfl⟩ | ⟨j, v, bs, rfl, hvj, hat, ⟨heq, rfl⟩ | ⟨heq, hrest⟩⟩
    · skip
      refine gk_seq ?_
      refine gk_seq ?_
      refine gk_region ?_
      refine gr_v (ev_mv rfl) ?_
      refine gr_v (ev_geq rfl rfl) ?_
      refine gr_nil ?_
      refine gk_false rfl (decide_eq_false (by omega)) ?_
      refine gk_exit rfl ?_
      refine gk_fin fun a ha => ?_
      exact ⟨(), ha.keep ⟨rfl, rfl, rfl, rfl, trivial⟩, rfl⟩
    · skip
      obtain ⟨h41, h42, h43, h44, h45⟩ := vtAt_some hat
      have hjl : j < S1.vts.length := by omega
      have hxe : u16 (junk ++ S1.buf ++ extra) (junk.length + (S1.buf.length - v)) = bs.length + 4 := by rw [u16_sub (bs := S1.buf) (by rw [List.append_assoc, List.drop_left, List.take_left]) (by omega)]; exact h43
      have hbs : ((junk ++ S1.buf ++ extra).drop (junk.length + (S1.buf.length - v + 4))).take bs.length = bs := by rw [List.append_assoc, ← List.drop_drop, List.drop_left, List.drop_append_of_le_length (by omega), List.take_append_of_le_length (by simp; omega)]; exact h45
      have hub : bs.length + 4 < 65536 := by rw [← h43]; exact u16_lt _ _
      refine gk_seq ?_
      refine gk_seq ?_
      refine gk_region ?_
      refine gr_v (ev_mv rfl) ?_
      refine gr_v (ev_geq rfl rfl) ?_
      refine gr_nil ?_
      refine gk_true rfl (decide_eq_true (by omega)) ?_
      refine gk_skip ?_
      refine gk_seq ?_
      refine gk_block ?_
      refine gk_seq ?_
      refine gk_region ?_
      refine gr_v (ev_mv rfl) ?_
      refine gr_v (ev_nil rfl) ?_
      refine gr_v (ev_fa (j := 4) rfl Tryz.runUnderlying110 rfl Tryz.sizeOf107 rfl rfl) ?_
      refine gr_v (ev_ld rfl Tryz.isAgg107 (by first | exact hb3) (by rfl)) ?_
      refine gr_v (ev_mv rfl) ?_
      refine gr_v (ev_ix (len := S1.vts.length) (a' := j) rfl rfl Tryz.runUnderlying107 Tryz.sizeOf65 (by omega) (by omega) (by omega)) ?_
      refine gr_v (ev_ld rfl Tryz.isAgg65 ht3 (rowU_get hvj)) ?_
      refine gr_v (ev_as rfl) ?_
      refine gr_nil ?_
      refine gk_seq ?_
      refine gk_region ?_
      refine gr_v (ev_mv rfl) ?_
      refine gr_v (ev_nil rfl) ?_
      refine gr_v (ev_fa (j := 0) rfl Tryz.runUnderlying110 rfl Tryz.sizeOf69 rfl rfl) ?_
      refine gr_v (ev_ld rfl Tryz.isAgg69 (by first | exact hb3) (by rfl)) ?_
      refine gr_v (ev_len (len := junk.length + S1.buf.length) rfl ⟨_, rfl, _, Tryz.runUnderlying69⟩) ?_
      refine gr_v (ev_mv rfl) ?_
      refine gr_v (ev_cv rfl ⟨_, Tryz.runUnderlying65⟩ Tryz.runUnderlying3 (w_i64 (by omega) (by omega))) ?_
      refine gr_v (ev_sub (r := ((junk.length + (S1.buf.length - v) : Nat) : Int)) rfl rfl (by rw [w_i64 (by omega) (by omega)]; omega)) ?_
      refine gr_v (ev_as rfl) ?_
      refine gr_nil ?_
      refine gk_seq ?_
      refine gk_region ?_
      refine gr_v (ev_mv rfl) ?_
      refine gr_v (ev_nil rfl) ?_
      refine gr_v (ev_fa (j := 0) rfl Tryz.runUnderlying110 rfl Tryz.sizeOf69 rfl rfl) ?_
      refine gr_v (ev_ld rfl Tryz.isAgg69 (by first | exact hb3) (by rfl)) ?_
      refine gr_v (ev_mv rfl) ?_
      refine gr_v (ev_slo (len := junk.length + S1.buf.length) (cap := junk.length + S1.buf.length + extra.length) (a' := junk.length + (S1.buf.length - v)) rfl rfl Tryz.runUnderlying69 Tryz.sizeOf5 (by omega) (by omega) (by omega) (by omega)) ?_
      refine gr_call (ec_func Tryz.call335 rfl) (c335 hk3 (by omega) (by simp; omega)) ?_
      rintro _ _ ⟨rfl, rfl⟩
      rw [hxe]
      refine gr_v (ev_as rfl) ?_
      refine gr_nil ?_
      refine gk_seq ?_
      refine gk_region ?_
      refine gr_v (ev_as rfl) ?_
      refine gr_nil ?_
      refine gk_seq ?_
      refine gk_region ?_
      refine gr_v (ev_mv rfl) ?_
      refine gr_v (ev_mv rfl) ?_
      refine gr_v (ev_cv rfl ⟨_, Tryz.runUnderlying255⟩ Tryz.runUnderlying3 (w_i64 (by omega) (by omega))) ?_
      refine gr_v (ev_add (r := ((junk.length + (S1.buf.length - v + 4) + bs.length : Nat) : Int)) rfl rfl (by rw [w_i64 (by omega) (by omega)]; omega)) ?_
      refine gr_v (ev_as rfl) ?_
      refine gr_nil ?_
      refine gk_seq ?_
      refine gk_region ?_
      refine gr_v (ev_mv rfl) ?_
      refine gr_v (ev_nil rfl) ?_
      refine gr_v (ev_fa (j := 0) rfl Tryz.runUnderlying110 rfl Tryz.sizeOf69 rfl rfl) ?_
      refine gr_v (ev_ld rfl Tryz.isAgg69 (by first | exact hb3) (by rfl)) ?_
      refine gr_v (ev_mv rfl) ?_
      refine gr_v (ev_mv rfl) ?_
      refine gr_v (ev_add (r := ((junk.length + (S1.buf.length - v + 4) : Nat) : Int)) rfl rfl (by rw [w_i64 (by omega) (by omega)]; omega)) ?_
      refine gr_v (ev_mv rfl) ?_
      refine gr_v (ev_slh' (cap := junk.length + S1.buf.length + extra.length) (a' := junk.length + (S1.buf.length - v + 4)) (ln := bs.length) rfl rfl rfl Tryz.runUnderlying69 Tryz.sizeOf5 (by omega) (by omega) (by omega) (by omega) (by omega) (by omega)) ?_
      refine gr_v (ev_as rfl) ?_
      refine gr_nil ?_
      refine gk_seq ?_
      refine gk_region ?_
      refine gr_v (ev_mv rfl) ?_
      refine gr_v (ev_nil rfl) ?_
      refine gr_v (ev_fa (j := 2) rfl Tryz.runUnderlying110 rfl Tryz.sizeOf107 rfl rfl) ?_
      refine gr_v (ev_ld rfl Tryz.isAgg107 (by first | exact hb3) (by rfl)) ?_
      refine gr_v (ev_mv rfl) ?_
      refine gr_v (ev_mv rfl) ?_
      refine gr_call (ec_func Tryz.call336 rfl) (c336 (vt := vt2) hv3 hk3 hbs (by simp; omega) (by omega) hvb2 (by omega) (by omega)) ?_
      rintro _ _ ⟨rfl, rfl⟩
      refine gr_nil ?_
      refine gk_true rfl (heq) ?_
      refine gk_seq ?_
      refine gk_region ?_
      refine gr_v (ev_mv rfl) ?_
      refine gr_v (ev_as rfl) ?_
      refine gr_nil ?_
      refine gk_exit rfl ?_
      refine gk_fin fun a ha => ?_
      exact ⟨(), ha.keep ⟨rfl, rfl, rfl, rfl, trivial⟩, rfl⟩
    · skip
      obtain ⟨h41, h42, h43, h44, h45⟩ := vtAt_some hat
      have hjl : j < S1.vts.length := by omega
      have hxe : u16 (junk ++ S1.buf ++ extra) (junk.length + (S1.buf.length - v)) = bs.length + 4 := by rw [u16_sub (bs := S1.buf) (by rw [List.append_assoc, List.drop_left, List.take_left]) (by omega)]; exact h43
      have hbs : ((junk ++ S1.buf ++ extra).drop (junk.length + (S1.buf.length - v + 4))).take bs.length = bs := by rw [List.append_assoc, ← List.drop_drop, List.drop_left, List.drop_append_of_le_length (by omega), List.take_append_of_le_length (by simp; omega)]; exact h45
      have hub : bs.length + 4 < 65536 := by rw [← h43]; exact u16_lt _ _
      refine gk_seq ?_
      refine gk_seq ?_
      refine gk_region ?_
      refine gr_v (ev_mv rfl) ?_
      refine gr_v (ev_geq rfl rfl) ?_
      refine gr_nil ?_
      refine gk_true rfl (decide_eq_true (by omega)) ?_
      refine gk_skip ?_
      refine gk_seq ?_
      refine gk_block ?_
      refine gk_seq ?_
      refine gk_region ?_
      refine gr_v (ev_mv rfl) ?_
      refine gr_v (ev_nil rfl) ?_
      refine gr_v (ev_fa (j := 4) rfl Tryz.runUnderlying110 rfl Tryz.sizeOf107 rfl rfl) ?_
      refine gr_v (ev_ld rfl Tryz.isAgg107 (by first | exact hb3) (by rfl)) ?_
      refine gr_v (ev_mv rfl) ?_
      refine gr_v (ev_ix (len := S1.vts.length) (a' := j) rfl rfl Tryz.runUnderlying107 Tryz.sizeOf65 (by omega) (by omega) (by omega)) ?_
      refine gr_v (ev_ld rfl Tryz.isAgg65 ht3 (rowU_get hvj)) ?_
      refine gr_v (ev_as rfl) ?_
      refine gr_nil ?_
      refine gk_seq ?_
      refine gk_region ?_
      refine gr_v (ev_mv rfl) ?_
      refine gr_v (ev_nil rfl) ?_
      refine gr_v (ev_fa (j := 0) rfl Tryz.runUnderlying110 rfl Tryz.sizeOf69 rfl rfl) ?_
      refine gr_v (ev_ld rfl Tryz.isAgg69 (by first | exact hb3) (by rfl)) ?_
      refine gr_v (ev_len (len := junk.length + S1.buf.length) rfl ⟨_, rfl, _, Tryz.runUnderlying69⟩) ?_
      refine gr_v (ev_mv rfl) ?_
      refine gr_v (ev_cv rfl ⟨_, Tryz.runUnderlying65⟩ Tryz.runUnderlying3 (w_i64 (by omega) (by omega))) ?_
      refine gr_v (ev_sub (r := ((junk.length + (S1.buf.length - v) : Nat) : Int)) rfl rfl (by rw [w_i64 (by omega) (by omega)]; omega)) ?_
      refine gr_v (ev_as rfl) ?_
      refine gr_nil ?_
      refine gk_seq ?_
      refine gk_region ?_
      refine gr_v (ev_mv rfl) ?_
      refine gr_v (ev_nil rfl) ?_
      refine gr_v (ev_fa (j := 0) rfl Tryz.runUnderlying110 rfl Tryz.sizeOf69 rfl rfl) ?_
      refine gr_v (ev_ld rfl Tryz.isAgg69 (by first | exact hb3) (by rfl)) ?_
      refine gr_v (ev_mv rfl) ?_
      refine gr_v (ev_slo (len := junk.length + S1.buf.length) (cap := junk.length + S1.buf.length + extra.length) (a' := junk.length + (S1.buf.length - v)) rfl rfl Tryz.runUnderlying69 Tryz.sizeOf5 (by omega) (by omega) (by omega) (by omega)) ?_
      refine gr_call (ec_func Tryz.call335 rfl) (c335 hk3 (by omega) (by simp; omega)) ?_
      rintro _ _ ⟨rfl, rfl⟩
      rw [hxe]
      refine gr_v (ev_as rfl) ?_
      refine gr_nil ?_
      refine gk_seq ?_
      refine gk_region ?_
      refine gr_v (ev_as rfl) ?_
      refine gr_nil ?_
      refine gk_seq ?_
      refine gk_region ?_
      refine gr_v (ev_mv rfl) ?_
      refine gr_v (ev_mv rfl) ?_
      refine gr_v (ev_cv rfl ⟨_, Tryz.runUnderlying255⟩ Tryz.runUnderlying3 (w_i64 (by omega) (by omega))) ?_
      refine gr_v (ev_add (r := ((junk.length + (S1.buf.length - v + 4) + bs.length : Nat) : Int)) rfl rfl (by rw [w_i64 (by omega) (by omega)]; omega)) ?_
      refine gr_v (ev_as rfl) ?_
      refine gr_nil ?_
      refine gk_seq ?_
      refine gk_region ?_
      refine gr_v (ev_mv rfl) ?_
      refine gr_v (ev_nil rfl) ?_
      refine gr_v (ev_fa (j := 0) rfl Tryz.runUnderlying110 rfl Tryz.sizeOf69 rfl rfl) ?_
      refine gr_v (ev_ld rfl Tryz.isAgg69 (by first | exact hb3) (by rfl)) ?_
      refine gr_v (ev_mv rfl) ?_
      refine gr_v (ev_mv rfl) ?_
      refine gr_v (ev_add (r := ((junk.length + (S1.buf.length - v + 4) : Nat) : Int)) rfl rfl (by rw [w_i64 (by omega) (by omega)]; omega)) ?_
      refine gr_v (ev_mv rfl) ?_
      refine gr_v (ev_slh' (cap := junk.length + S1.buf.length + extra.length) (a' := junk.length + (S1.buf.length - v + 4)) (ln := bs.length) rfl rfl rfl Tryz.runUnderlying69 Tryz.sizeOf5 (by omega) (by omega) (by omega) (by omega) (by omega) (by omega)) ?_
      refine gr_v (ev_as rfl) ?_
      refine gr_nil ?_
      refine gk_seq ?_
      refine gk_region ?_
      refine gr_v (ev_mv rfl) ?_
      refine gr_v (ev_nil rfl) ?_
      refine gr_v (ev_fa (j := 2) rfl Tryz.runUnderlying110 rfl Tryz.sizeOf107 rfl rfl) ?_
      refine gr_v (ev_ld rfl Tryz.isAgg107 (by first | exact hb3) (by rfl)) ?_
      refine gr_v (ev_mv rfl) ?_
      refine gr_v (ev_mv rfl) ?_
      refine gr_call (ec_func Tryz.call336 rfl) (c336 (vt := vt2) hv3 hk3 hbs (by simp; omega) (by omega) hvb2 (by omega) (by omega)) ?_
      rintro _ _ ⟨rfl, rfl⟩
      refine gr_nil ?_
      refine gk_false rfl (heq) ?_
      refine gk_skip ?_
      refine gk_endblk ?_
      refine gk_region ?_
      refine gr_v (ev_mv rfl) ?_
      refine gr_v (ev_sub (r := (j : Int) - 1) rfl rfl (by rw [w_i64 (by omega) (by omega)]; omega)) ?_
      refine gr_v (ev_as rfl) ?_
      refine gr_nil ?_
      refine gk_fin fun a ha => ?_
      exact ⟨j, ha.keep ⟨rfl, rfl, rfl, rfl, rfl, trivial⟩, ⟨by omega, hrest, rfl⟩, by omega⟩
  rintro _ _ rfl
  refine gk_seq ?_
  refine gk_seq ?_
  refine gk_region ?_
  refine gr_v (ev_mv rfl) ?_
  refine gr_v (ev_eql rfl rfl) ?_
  refine gr_nil ?_
  refine gk_cut (ι := St × Gh) (fun _ => [(0, ptr bb), (2, .int .u32 0), (3, U S1.buf.length)]) (fun i w' => BldG F w' bb i.1 i.2 ∧ Keep F w3 w' ∧ (∃ b, i.2.vb = some b) ∧ S' = { i.1 with vt := [] } ∧ r = S1.buf.length) ?_ ?_
  · skip
    by_cases hne : fo = none
    · skip
      subst hne
      simp only at hm
      obtain ⟨S3, hp3, hm⟩ := bind_some hm
      obtain ⟨S4, hp4, hm⟩ := bind_some hm
      obtain ⟨S5, hp5, hm⟩ := bind_some hm
      obtain ⟨S6, hp6, he⟩ := map_some' hm
      obtain ⟨h61, h62, h63⟩ := patch_some hp6
      injection he with he1 he2
      have h62b : S1.buf.length ≤ S5.buf.length := h62
      refine gk_true rfl (rfl) ?_
      refine gk_seq ?_
      refine gk_seq ?_
      refine gk_region ?_
      refine gr_v (ev_mv rfl) ?_
      refine gr_v (ev_nil rfl) ?_
      refine gr_v (ev_fa (j := 2) rfl Tryz.runUnderlying110 rfl Tryz.sizeOf107 rfl rfl) ?_
      refine gr_v (ev_ld rfl Tryz.isAgg107 (by first | exact hb3) (by rfl)) ?_
      refine gr_v (ev_len (len := vt2.length) rfl ⟨_, rfl, _, Tryz.runUnderlying107⟩) ?_
      refine gr_v (ev_sub rfl rfl (w_i64 (by omega) (by omega))) ?_
      refine gr_v (ev_as rfl) ?_
      refine gr_nil ?_
      refine gk_block ?_
      refine gk_loop (fun i : Nat × St => [(0, ptr bb), (2, .int .u32 0), (3, U S1.buf.length), (13, .int .i64 ((i.1 : Int) - 1))]) (fun i w' => Bld F w' bb i.2 ∧ SameF ({ S1 with vt := vt2 } : St) i.2 ∧ S1.buf.length ≤ i.2.buf.length ∧ prepEntries S1.buf.length vt2 i.1 i.2 = some S3 ∧ i.1 ≤ vt2.length ∧ Keep F w3 w') (fun i => i.1) (vt2.length, ({ S1 with vt := vt2 } : St)) ⟨rfl, rfl, rfl, rfl, trivial⟩ ⟨⟨_, h3⟩, ⟨rfl, rfl, rfl, rfl, rfl, rfl⟩, Nat.le_refl _, hp3, Nat.le_refl _, Keep.refl⟩ ?_
      rintro ⟨k, Sx⟩ wx ⟨hBx, hsx, hlx, hpr, hkl, hKx⟩
      simp only at hBx hsx hlx hpr hkl
      have hexx := hBx
      obtain ⟨⟨kb4, junk4, extra4, vbo4, vx4, tb4, tx4⟩, hg⟩ := hBx
      obtain ⟨vb4, hvb4⟩ := hg.hst (by rw [hsx.started]; exact hstd)
      simp only at hvb4
      subst hvb4
      have hbx := hg.hb
      have hvx := hg.hv vb4 rfl
      have hvtx : Sx.vt = vt2 := hsx.vt
      simp only at hvx
      have h6 : k = 0 ∨ (∃ j, ∃ hj : j < vt2.length, k = j + 1 ∧ vt2[j] = 0) ∨ (∃ j, ∃ hj : j < vt2.length, k = j + 1 ∧ vt2[j] ≠ 0) := by
        cases k with
        | zero => exact .inl rfl
        | succ j =>
          by_cases hz : vt2[j] = 0
          · exact .inr (.inl ⟨j, hkl, rfl, hz⟩)
          · exact .inr (.inr ⟨j, hkl, rfl, hz⟩)
      rcases h6.symm with (⟨j, hj, rfl, hz⟩ | ⟨j, hj, rfl, hz⟩) | rfl
      · skip
        obtain ⟨Sy, hpe, hrest⟩ := entries_cons hpr
        have hjx : j < Sx.vt.length := by rw [hvtx]; omega
        have hgd : vt2[j]?.getD 0 = Sx.vt[j] := by simp only [hvtx]; simp [List.getElem?_eq_getElem hj]
        have hle := hva2 _ (List.getElem_mem hj)
        have hgx : Sx.vt[j] = vt2[j] := by simp only [hvtx]
        rw [hgd] at hpe
        rw [if_pos (by omega)] at hpe
        refine gk_seq ?_
        refine gk_seq ?_
        refine gk_region ?_
        refine gr_v (ev_mv rfl) ?_
        refine gr_v (ev_geq rfl rfl) ?_
        refine gr_nil ?_
        refine gk_true rfl (decide_eq_true (by omega)) ?_
        refine gk_skip ?_
        refine gk_seq ?_
        refine gk_block ?_
        refine gk_seq ?_
        refine gk_region ?_
        refine gr_v (ev_as rfl) ?_
        refine gr_nil ?_
        refine gk_seq ?_
        refine gk_seq ?_
        refine gk_region ?_
        refine gr_v (ev_mv rfl) ?_
        refine gr_v (ev_nil rfl) ?_
        refine gr_v (ev_fa (j := 2) rfl Tryz.runUnderlying110 rfl Tryz.sizeOf107 rfl rfl) ?_
        refine gr_v (ev_ld rfl Tryz.isAgg107 (by first | exact hbx) (by rfl)) ?_
        refine gr_v (ev_mv rfl) ?_
        refine gr_v (ev_ix (len := Sx.vt.length) (a' := j) rfl rfl Tryz.runUnderlying107 Tryz.sizeOf65 (by omega) (by omega) (by omega)) ?_
        refine gr_v (ev_ld rfl Tryz.isAgg65 hvx (rowU_at hjx)) ?_
        refine gr_v (ev_neq rfl rfl) ?_
        refine gr_nil ?_
        refine gk_false rfl (by rw [bne_eq_false_iff_eq]; omega) ?_
        refine gk_skip ?_
        refine gk_region ?_
        refine gr_v (ev_mv rfl) ?_
        refine gr_v (ev_mv rfl) ?_
        refine gr_v (ev_cv (r := IntKind.wrap .u16 0) rfl ⟨_, Tryz.runUnderlying65⟩ Tryz.runUnderlying255 rfl) ?_
        refine gr_call (ec_func Tryz.call337 rfl) (c337 (IntKind.wrap .u16 (0 : Int)) F _ bb _ _ hexx hpe) ?_
        rintro _ w6 ⟨rfl, hB6, hK6⟩
        refine gr_nil ?_
        refine gk_endblk ?_
        refine gk_region ?_
        refine gr_v (ev_mv rfl) ?_
        refine gr_v (ev_sub (r := (j : Int) - 1) rfl rfl (by rw [w_i64 (by omega) (by omega)]; omega)) ?_
        refine gr_v (ev_as rfl) ?_
        refine gr_nil ?_
        refine gk_fin fun a ha => ?_
        exact ⟨(j, Sy), ha.keep ⟨rfl, rfl, rfl, rfl, trivial⟩, ⟨hB6, hsx.trans (prepend_same hpe).1, Nat.le_trans hlx (Nat.le_trans (Nat.le_add_right _ _) (prepend_same hpe).2.1), hrest, Nat.le_of_lt hj, hKx.trans hK6⟩, Nat.lt_succ_self j⟩
      · skip
        obtain ⟨Sy, hpe, hrest⟩ := entries_cons hpr
        have hjx : j < Sx.vt.length := by rw [hvtx]; omega
        have hgd : vt2[j]?.getD 0 = Sx.vt[j] := by simp only [hvtx]; simp [List.getElem?_eq_getElem hj]
        have hle := hva2 _ (List.getElem_mem hj)
        have hgx : Sx.vt[j] = vt2[j] := by simp only [hvtx]
        rw [hgd] at hpe
        rw [if_neg (by omega)] at hpe
        refine gk_seq ?_
        refine gk_seq ?_
        refine gk_region ?_
        refine gr_v (ev_mv rfl) ?_
        refine gr_v (ev_geq rfl rfl) ?_
        refine gr_nil ?_
        refine gk_true rfl (decide_eq_true (by omega)) ?_
        refine gk_skip ?_
        refine gk_seq ?_
        refine gk_block ?_
        refine gk_seq ?_
        refine gk_region ?_
        refine gr_v (ev_as rfl) ?_
        refine gr_nil ?_
        refine gk_seq ?_
        refine gk_seq ?_
        refine gk_region ?_
        refine gr_v (ev_mv rfl) ?_
        refine gr_v (ev_nil rfl) ?_
        refine gr_v (ev_fa (j := 2) rfl Tryz.runUnderlying110 rfl Tryz.sizeOf107 rfl rfl) ?_
        refine gr_v (ev_ld rfl Tryz.isAgg107 (by first | exact hbx) (by rfl)) ?_
        refine gr_v (ev_mv rfl) ?_
        refine gr_v (ev_ix (len := Sx.vt.length) (a' := j) rfl rfl Tryz.runUnderlying107 Tryz.sizeOf65 (by omega) (by omega) (by omega)) ?_
        refine gr_v (ev_ld rfl Tryz.isAgg65 hvx (rowU_at hjx)) ?_
        refine gr_v (ev_neq rfl rfl) ?_
        refine gr_nil ?_
        refine gk_true rfl (by rw [bne_iff_ne]; omega) ?_
        refine gk_region ?_
        refine gr_v (ev_mv rfl) ?_
        refine gr_v (ev_mv rfl) ?_
        refine gr_v (ev_nil rfl) ?_
        refine gr_v (ev_fa (j := 2) rfl Tryz.runUnderlying110 rfl Tryz.sizeOf107 rfl rfl) ?_
        refine gr_v (ev_ld rfl Tryz.isAgg107 (by first | exact hbx) (by rfl)) ?_
        refine gr_v (ev_mv rfl) ?_
        refine gr_v (ev_ix (len := Sx.vt.length) (a' := j) rfl rfl Tryz.runUnderlying107 Tryz.sizeOf65 (by omega) (by omega) (by omega)) ?_
        refine gr_v (ev_ld rfl Tryz.isAgg65 hvx (rowU_at hjx)) ?_
        refine gr_v (ev_sub (r := (S1.buf.length : Int) - (Sx.vt[j] : Nat)) rfl rfl (w_u32 (by omega) (by omega))) ?_
        refine gr_v (ev_as rfl) ?_
        refine gr_nil ?_
        refine gk_region ?_
        refine gr_v (ev_mv rfl) ?_
        refine gr_v (ev_mv rfl) ?_
        refine gr_v (ev_cv (r := IntKind.wrap .u16 ((S1.buf.length : Int) - (Sx.vt[j] : Nat))) rfl ⟨_, Tryz.runUnderlying65⟩ Tryz.runUnderlying255 rfl) ?_
        refine gr_call (ec_func Tryz.call337 rfl) (c337 (IntKind.wrap .u16 ((S1.buf.length : Int) - (Sx.vt[j] : Nat))) F _ bb _ _ hexx hpe) ?_
        rintro _ w6 ⟨rfl, hB6, hK6⟩
        refine gr_nil ?_
        refine gk_endblk ?_
        refine gk_region ?_
        refine gr_v (ev_mv rfl) ?_
        refine gr_v (ev_sub (r := (j : Int) - 1) rfl rfl (by rw [w_i64 (by omega) (by omega)]; omega)) ?_
        refine gr_v (ev_as rfl) ?_
        refine gr_nil ?_
        refine gk_fin fun a ha => ?_
        exact ⟨(j, Sy), ha.keep ⟨rfl, rfl, rfl, rfl, trivial⟩, ⟨hB6, hsx.trans (prepend_same hpe).1, Nat.le_trans hlx (Nat.le_trans (Nat.le_add_right _ _) (prepend_same hpe).2.1), hrest, Nat.le_of_lt hj, hKx.trans hK6⟩, Nat.lt_succ_self j⟩
      · skip
        obtain rfl : Sx = S3 := Option.some.inj hpr
        have hoe3 : Sx.oend = S1.oend := hsx.oend
        rw [← hoe3] at hp4
        rw [← hvtx] at hp5
        have hs4 := prepend_same hp4
        have hl4 : S4.vt.length = Sx.vt.length := by rw [hs4.1.vt]
        have hlx4 : Sx.vt.length ≤ 1000 := by rw [hvtx]; exact hvl2
        have hs5 := prepend_same hp5
        have hvts5 : S5.vts = S1.vts := hs5.1.vts.trans (hs4.1.vts.trans hsx.vts)
        refine gk_seq ?_
        refine gk_seq ?_
        refine gk_region ?_
        refine gr_v (ev_mv rfl) ?_
        refine gr_v (ev_geq rfl rfl) ?_
        refine gr_nil ?_
        refine gk_false rfl (decide_eq_false (by omega)) ?_
        refine gk_exit rfl ?_
        refine gk_seq ?_
        refine gk_region ?_
        refine gr_v (ev_mv rfl) ?_
        refine gr_v (ev_mv rfl) ?_
        refine gr_v (ev_nil rfl) ?_
        refine gr_v (ev_fa (j := 3) rfl Tryz.runUnderlying110 rfl Tryz.sizeOf65 rfl rfl) ?_
        refine gr_v (ev_ld rfl Tryz.isAgg65 (by first | exact hbx) (by rfl)) ?_
        refine gr_v (ev_sub (r := (S1.buf.length : Int) - Sx.oend) rfl rfl (w_u32 (by omega) (by omega))) ?_
        refine gr_v (ev_as rfl) ?_
        refine gr_nil ?_
        refine gk_seq ?_
        refine gk_region ?_
        refine gr_v (ev_mv rfl) ?_
        refine gr_v (ev_mv rfl) ?_
        refine gr_v (ev_cv (r := IntKind.wrap .u16 ((S1.buf.length : Int) - Sx.oend)) rfl ⟨_, Tryz.runUnderlying65⟩ Tryz.runUnderlying255 rfl) ?_
        refine gr_call (ec_func Tryz.call337 rfl) (c337 (IntKind.wrap .u16 ((S1.buf.length : Int) - Sx.oend)) F _ bb _ _ hexx hp4) ?_
        rintro _ w4 ⟨rfl, hB4, hK4⟩
        have hexx4 := hB4
        obtain ⟨⟨kb4b, junk4b, extra4b, vbo4b, vx4b, tb4b, tx4b⟩, hg4⟩ := hB4
        obtain ⟨vb4b, hvb4b⟩ := hg4.hst (by rw [hs4.1.started, hsx.started]; exact hstd)
        simp only at hvb4b
        subst hvb4b
        have hb4 := hg4.hb
        refine gr_nil ?_
        refine gk_seq ?_
        refine gk_region ?_
        refine gr_v (ev_mv rfl) ?_
        refine gr_v (ev_nil rfl) ?_
        refine gr_v (ev_fa (j := 2) rfl Tryz.runUnderlying110 rfl Tryz.sizeOf107 rfl rfl) ?_
        refine gr_v (ev_ld rfl Tryz.isAgg107 (by first | exact hb4) (by rfl)) ?_
        refine gr_v (ev_len (len := S4.vt.length) rfl ⟨_, rfl, _, Tryz.runUnderlying107⟩) ?_
        refine gr_v (ev_add rfl rfl (w_i64 (by omega) (by omega))) ?_
        refine gr_v (ev_mul (r := (((Sx.vt.length + 2) * 2 : Nat) : Int)) rfl rfl (by rw [w_i64 (by omega) (by omega)]; omega)) ?_
        refine gr_v (ev_as rfl) ?_
        refine gr_nil ?_
        refine gk_seq ?_
        refine gk_region ?_
        refine gr_v (ev_mv rfl) ?_
        refine gr_v (ev_mv rfl) ?_
        refine gr_v (ev_cv (r := IntKind.wrap .u16 (((Sx.vt.length + 2) * 2 : Nat) : Int)) rfl ⟨_, Tryz.runUnderlying3⟩ Tryz.runUnderlying255 rfl) ?_
        refine gr_call (ec_func Tryz.call337 rfl) (c337 (IntKind.wrap .u16 (((Sx.vt.length + 2) * 2 : Nat) : Int)) F _ bb _ _ hexx4 hp5) ?_
        rintro _ w5 ⟨rfl, hB5, hK5⟩
        obtain ⟨⟨kb5, junk5, extra5, vbo5, vx5, tb5, tx5⟩, hg5⟩ := hB5
        obtain ⟨vb5, hvb5⟩ := hg5.hst (by rw [hs5.1.started, hs4.1.started, hsx.started]; exact hstd)
        simp only at hvb5
        subst hvb5
        have hb5 := hg5.hb
        have hk5 := hg5.hk
        have hsm5 : junk5.length + S5.buf.length ≤ 600000000 := hg5.small
        have hd5 := hg5.same (w1 := w5.drew) rfl
        refine gr_nil ?_
        refine gk_seq ?_
        refine gk_region ?_
        refine gr_v (ev_mv rfl) ?_
        refine gr_v (ev_nil rfl) ?_
        refine gr_v (ev_fa (j := 0) rfl Tryz.runUnderlying110 rfl Tryz.sizeOf69 rfl rfl) ?_
        refine gr_v (ev_ld rfl Tryz.isAgg69 (by first | exact hb5) (by rfl)) ?_
        refine gr_v (ev_len (len := junk5.length + S5.buf.length) rfl ⟨_, rfl, _, Tryz.runUnderlying69⟩) ?_
        refine gr_v (ev_cv (r := ((junk5.length + S5.buf.length : Nat) : Int)) rfl ⟨_, Tryz.runUnderlying3⟩ Tryz.runUnderlying289 (w_i32 (by omega) (by omega))) ?_
        refine gr_v (ev_mv rfl) ?_
        refine gr_v (ev_cv rfl ⟨_, Tryz.runUnderlying65⟩ Tryz.runUnderlying289 (w_i32 (by omega) (by omega))) ?_
        refine gr_v (ev_sub (r := ((junk5.length + (S5.buf.length - S1.buf.length) : Nat) : Int)) rfl rfl (by rw [w_i32 (by omega) (by omega)]; omega)) ?_
        refine gr_v (ev_as rfl) ?_
        refine gr_nil ?_
        refine gk_seq ?_
        refine gk_draw (fun w' => w'.heap[bb]? = some (.cells (({ kb := kb5, junk := junk5, extra := extra5, vb := some vb5, vx := vx5, tb := tb5, tx := tx5 } : Gh).cells S5) 110 (0, 0))) (by kernel_rfl) ?_
        have hS := hb5
        refine ga_take 0 rfl (by kernel_rfl) (fun _ _ => (ev_mv rfl)) hS ?_
        refine ga_take 1 rfl (by kernel_rfl) (fun _ _ => (ev_nil rfl)) hS ?_
        refine ga_take 2 rfl (by kernel_rfl) (fun _ _ => (ev_fa (j := 0) rfl Tryz.runUnderlying110 rfl Tryz.sizeOf69 rfl rfl)) hS ?_
        refine ga_take 3 rfl (by kernel_rfl) (fun _ hs => (ev_ld rfl Tryz.isAgg69 (by first | exact hs | exact hs.1 | exact hs.2 | exact hs.2.1 | exact hs.2.2) (by rfl))) hS ?_
        refine ga_take 4 rfl (by kernel_rfl) (fun _ _ => (ev_mv rfl)) hS ?_
        refine ga_take 5 rfl (by kernel_rfl) (fun _ _ => (ev_slo (len := junk5.length + S5.buf.length) (cap := junk5.length + S5.buf.length + extra5.length) (a' := junk5.length + (S5.buf.length - S1.buf.length)) rfl rfl Tryz.runUnderlying69 Tryz.sizeOf5 (by omega) (by omega) (by omega) (by omega))) hS ?_
        refine ga_take 6 rfl (by kernel_rfl) (fun _ _ => (ev_mv rfl)) hS ?_
        refine ga_take 9 rfl (by kernel_rfl) (fun _ _ => (ev_mv rfl)) hS ?_
        refine ga_take 10 rfl (by kernel_rfl) (fun _ _ => (ev_cv rfl ⟨_, Tryz.runUnderlying65⟩ Tryz.runUnderlying289 (w_i32 (by omega) (by omega)))) hS ?_
        refine ga_call 7 rfl (by kernel_rfl) (ec_func Tryz.call230 rfl) (c230 hd5) ?_
        rintro _ w6 ⟨rfl, hh6⟩
        refine ⟨hp hh6 hS, fun hS => ?_⟩
        have hg6 := hd5.same hh6
        refine ga_take 8 rfl (by kernel_rfl) (fun _ _ => (ev_cv rfl ⟨_, Tryz.runUnderlying65⟩ Tryz.runUnderlying289 (w_i32 (by omega) (by omega)))) hS ?_
        refine ga_take 11 rfl (by kernel_rfl) (fun _ _ => (ev_sub (r := (S5.buf.length : Int) - S1.buf.length) rfl rfl (w_i32 (by omega) (by omega)))) hS ?_
        refine ga_call 12 rfl (by kernel_rfl) (ec_func Tryz.call338 rfl) (c338 ((S5.buf.length : Int) - S1.buf.length) _ _ (junk5.length + (S5.buf.length - S1.buf.length)) _ _ _ hg6.hk (by rw [le4_len]; omega) (by rw [le4_len]; simp; omega)) ?_
        rintro _ w7 ⟨rfl, hw7⟩
        refine ⟨sb_at hw7 hg6.bk.symm hS, fun hS => ?_⟩
        have hg7 := hg6.patch (by rw [le4_len]; exact h61) h62b hw7
        refine ga_nil (by kernel_rfl) ?_
        have hb7 := hg7.1.hb
        have hl7 : (sets S5.buf (S5.buf.length - S1.buf.length) (le4 ((S5.buf.length : Int) - S1.buf.length))).length = S5.buf.length := length_sets _ _ _
        refine gk_draw (fun _ => True) (by kernel_rfl) ?_
        have hS : True := trivial
        refine ga_take 0 rfl (by kernel_rfl) (fun _ _ => (ev_mv rfl)) hS ?_
        refine ga_take 1 rfl (by kernel_rfl) (fun _ _ => (ev_mv rfl)) hS ?_
        refine ga_take 2 rfl (by kernel_rfl) (fun _ _ => (ev_nil rfl)) hS ?_
        refine ga_take 3 rfl (by kernel_rfl) (fun _ _ => (ev_fa (j := 4) rfl Tryz.runUnderlying110 rfl Tryz.sizeOf107 rfl rfl)) hS ?_
        refine ga_take 5 rfl (by kernel_rfl) (fun _ _ => (ev_mv rfl)) hS ?_
        have hd8 := hg7.1.same (w1 := w7.drew) rfl
        refine ga_go2 (i := 4) (j := 6) (by kernel_rfl) ?_ ?_
        · skip
          refine go_v rfl (ev_ld rfl Tryz.isAgg107 (dr_heap hb7) (by rfl)) hS ?_
          refine ga_call 6 rfl (by kernel_rfl) (ec_func Tryz.call230 rfl) (c230 hd8) ?_
          rintro v9 wc ⟨hv9, hhc⟩
          refine ⟨trivial, fun hS => ?_⟩
          obtain rfl : v9 = U S5.buf.length := hv9.trans (congrArg U hl7)
          have hgc := hg7.1.same (w1 := wc) hhc
          have hga := hgc.alloc (.cells #[U S5.buf.length] 65 (0, 0))
          refine ga_v 7 rfl (by kernel_rfl) (ev_bs1 rfl rfl Tryz.runUnderlying107 Tryz.sizeOf65 Tryz.zeroValue65 rfl) hS ?_
          obtain ⟨tb9, tx9, w9, hrun, ht9, ho9, htb9, hsz9, hone9⟩ := vts_append hga.1 (sb := wc.heap.size) (x := S5.buf.length) al_new (by rw [hvts5]; omega)
          have hb9 := ho9 bb _ (Ne.symm hga.1.bt) hga.1.hb
          have nb9 : tb9 ≠ bb := nbt htb9 hga.1
          refine ga_v 8 rfl (by kernel_rfl) (ev_append rfl rfl hrun) hS ?_
          refine ga_take 9 rfl (by kernel_rfl) (fun _ _ => (ev_nil rfl)) hS ?_
          refine ga_take 10 rfl (by kernel_rfl) (fun _ _ => (ev_fa (j := 4) rfl Tryz.runUnderlying110 rfl Tryz.sizeOf107 rfl rfl)) hS ?_
          refine ga_s 11 rfl (by kernel_rfl) (es_st (cs' := ({ kb := kb5, junk := junk5, extra := extra5, vb := some vb5, vx := vx5, tb := tb9, tx := tx9 } : Gh).cells ({ S5 with buf := sets S5.buf (S5.buf.length - S1.buf.length) (le4 ((S5.buf.length : Int) - S1.buf.length)), vts := S5.vts ++ [S5.buf.length] } : St)) rfl rfl (by rfl) Tryz.sizeOf107 hb9 (by rfl) (by rfl)) hS ?_
          refine ga_nil (by kernel_rfl) ?_
          have hfin := hga.1.retb (w' := w9.setB bb (.cells (({ kb := kb5, junk := junk5, extra := extra5, vb := some vb5, vx := vx5, tb := tb9, tx := tx9 } : Gh).cells ({ S5 with buf := sets S5.buf (S5.buf.length - S1.buf.length) (le4 ((S5.buf.length : Int) - S1.buf.length)), vts := S5.vts ++ [S5.buf.length] } : St)) 110 (0, 0))) tb9 tx9 ({ S5 with buf := sets S5.buf (S5.buf.length - S1.buf.length) (le4 ((S5.buf.length : Int) - S1.buf.length)), vts := S5.vts ++ [S5.buf.length] } : St) rfl rfl rfl rfl hone9 (sb_same hb9) (sb_ne nb9.symm ht9) (fun c x n1 n2 hx => sb_ne n1 (ho9 c x n2 hx)) htb9 (by rw [sb_size]; exact hsz9)
          refine gk_fin fun a ha => ?_
          exact ⟨(({ S5 with buf := sets S5.buf (S5.buf.length - S1.buf.length) (le4 ((S5.buf.length : Int) - S1.buf.length)), vts := S5.vts ++ [S5.buf.length] } : St), { kb := kb5, junk := junk5, extra := extra5, vb := some vb5, vx := vx5, tb := tb9, tx := tx9 }), ha.keep ⟨rfl, rfl, rfl, trivial⟩, hfin.1, ((((((((hKx.trans hK4).trans hK5).trans Keep.drew).trans (Keep.same hh6)).trans hg7.2).trans (Keep.same hhc)).trans hga.2).trans hfin.2), ⟨vb5, rfl⟩, by rw [← he2, h63], he1.symm⟩
        · skip
          refine go_call rfl (ec_func Tryz.call230 rfl) (c230 hd8) ?_
          rintro v9 wc ⟨hv9, hhc⟩
          refine ⟨trivial, fun hS => ?_⟩
          obtain rfl : v9 = U S5.buf.length := hv9.trans (congrArg U hl7)
          have hgc := hg7.1.same (w1 := wc) hhc
          have hga := hgc.alloc (.cells #[U S5.buf.length] 65 (0, 0))
          refine ga_go2 (i := 4) (j := 7) (by kernel_rfl) ?_ ?_
          · skip
            refine go_v rfl (ev_ld rfl Tryz.isAgg107 hgc.hb (by rfl)) hS ?_
            refine ga_v 7 rfl (by kernel_rfl) (ev_bs1 rfl rfl Tryz.runUnderlying107 Tryz.sizeOf65 Tryz.zeroValue65 rfl) hS ?_
            obtain ⟨tb9, tx9, w9, hrun, ht9, ho9, htb9, hsz9, hone9⟩ := vts_append hga.1 (sb := wc.heap.size) (x := S5.buf.length) al_new (by rw [hvts5]; omega)
            have hb9 := ho9 bb _ (Ne.symm hga.1.bt) hga.1.hb
            have nb9 : tb9 ≠ bb := nbt htb9 hga.1
            refine ga_v 8 rfl (by kernel_rfl) (ev_append rfl rfl hrun) hS ?_
            refine ga_take 9 rfl (by kernel_rfl) (fun _ _ => (ev_nil rfl)) hS ?_
            refine ga_take 10 rfl (by kernel_rfl) (fun _ _ => (ev_fa (j := 4) rfl Tryz.runUnderlying110 rfl Tryz.sizeOf107 rfl rfl)) hS ?_
            refine ga_s 11 rfl (by kernel_rfl) (es_st (cs' := ({ kb := kb5, junk := junk5, extra := extra5, vb := some vb5, vx := vx5, tb := tb9, tx := tx9 } : Gh).cells ({ S5 with buf := sets S5.buf (S5.buf.length - S1.buf.length) (le4 ((S5.buf.length : Int) - S1.buf.length)), vts := S5.vts ++ [S5.buf.length] } : St)) rfl rfl (by rfl) Tryz.sizeOf107 hb9 (by rfl) (by rfl)) hS ?_
            refine ga_nil (by kernel_rfl) ?_
            have hfin := hga.1.retb (w' := w9.setB bb (.cells (({ kb := kb5, junk := junk5, extra := extra5, vb := some vb5, vx := vx5, tb := tb9, tx := tx9 } : Gh).cells ({ S5 with buf := sets S5.buf (S5.buf.length - S1.buf.length) (le4 ((S5.buf.length : Int) - S1.buf.length)), vts := S5.vts ++ [S5.buf.length] } : St)) 110 (0, 0))) tb9 tx9 ({ S5 with buf := sets S5.buf (S5.buf.length - S1.buf.length) (le4 ((S5.buf.length : Int) - S1.buf.length)), vts := S5.vts ++ [S5.buf.length] } : St) rfl rfl rfl rfl hone9 (sb_same hb9) (sb_ne nb9.symm ht9) (fun c x n1 n2 hx => sb_ne n1 (ho9 c x n2 hx)) htb9 (by rw [sb_size]; exact hsz9)
            refine gk_fin fun a ha => ?_
            exact ⟨(({ S5 with buf := sets S5.buf (S5.buf.length - S1.buf.length) (le4 ((S5.buf.length : Int) - S1.buf.length)), vts := S5.vts ++ [S5.buf.length] } : St), { kb := kb5, junk := junk5, extra := extra5, vb := some vb5, vx := vx5, tb := tb9, tx := tx9 }), ha.keep ⟨rfl, rfl, rfl, trivial⟩, hfin.1, ((((((((hKx.trans hK4).trans hK5).trans Keep.drew).trans (Keep.same hh6)).trans hg7.2).trans (Keep.same hhc)).trans hga.2).trans hfin.2), ⟨vb5, rfl⟩, by rw [← he2, h63], he1.symm⟩
          · skip
            refine go_v rfl (ev_bs1 rfl rfl Tryz.runUnderlying107 Tryz.sizeOf65 Tryz.zeroValue65 rfl) hS ?_
            refine ga_v 4 rfl (by kernel_rfl) (ev_ld rfl Tryz.isAgg107 hga.1.hb (by rfl)) hS ?_
            obtain ⟨tb9, tx9, w9, hrun, ht9, ho9, htb9, hsz9, hone9⟩ := vts_append hga.1 (sb := wc.heap.size) (x := S5.buf.length) al_new (by rw [hvts5]; omega)
            have hb9 := ho9 bb _ (Ne.symm hga.1.bt) hga.1.hb
            have nb9 : tb9 ≠ bb := nbt htb9 hga.1
            refine ga_v 8 rfl (by kernel_rfl) (ev_append rfl rfl hrun) hS ?_
            refine ga_take 9 rfl (by kernel_rfl) (fun _ _ => (ev_nil rfl)) hS ?_
            refine ga_take 10 rfl (by kernel_rfl) (fun _ _ => (ev_fa (j := 4) rfl Tryz.runUnderlying110 rfl Tryz.sizeOf107 rfl rfl)) hS ?_
            refine ga_s 11 rfl (by kernel_rfl) (es_st (cs' := ({ kb := kb5, junk := junk5, extra := extra5, vb := some vb5, vx := vx5, tb := tb9, tx := tx9 } : Gh).cells ({ S5 with buf := sets S5.buf (S5.buf.length - S1.buf.length) (le4 ((S5.buf.length : Int) - S1.buf.length)), vts := S5.vts ++ [S5.buf.length] } : St)) rfl rfl (by rfl) Tryz.sizeOf107 hb9 (by rfl) (by rfl)) hS ?_
            refine ga_nil (by kernel_rfl) ?_
            have hfin := hga.1.retb (w' := w9.setB bb (.cells (({ kb := kb5, junk := junk5, extra := extra5, vb := some vb5, vx := vx5, tb := tb9, tx := tx9 } : Gh).cells ({ S5 with buf := sets S5.buf (S5.buf.length - S1.buf.length) (le4 ((S5.buf.length : Int) - S1.buf.length)), vts := S5.vts ++ [S5.buf.length] } : St)) 110 (0, 0))) tb9 tx9 ({ S5 with buf := sets S5.buf (S5.buf.length - S1.buf.length) (le4 ((S5.buf.length : Int) - S1.buf.length)), vts := S5.vts ++ [S5.buf.length] } : St) rfl rfl rfl rfl hone9 (sb_same hb9) (sb_ne nb9.symm ht9) (fun c x n1 n2 hx => sb_ne n1 (ho9 c x n2 hx)) htb9 (by rw [sb_size]; exact hsz9)
            refine gk_fin fun a ha => ?_
            exact ⟨(({ S5 with buf := sets S5.buf (S5.buf.length - S1.buf.length) (le4 ((S5.buf.length : Int) - S1.buf.length)), vts := S5.vts ++ [S5.buf.length] } : St), { kb := kb5, junk := junk5, extra := extra5, vb := some vb5, vx := vx5, tb := tb9, tx := tx9 }), ha.keep ⟨rfl, rfl, rfl, trivial⟩, hfin.1, ((((((((hKx.trans hK4).trans hK5).trans Keep.drew).trans (Keep.same hh6)).trans hg7.2).trans (Keep.same hhc)).trans hga.2).trans hfin.2), ⟨vb5, rfl⟩, by rw [← he2, h63], he1.symm⟩
    · skip
      obtain ⟨v, rfl⟩ : ∃ v, fo = some v := by cases fo with | none => exact absurd rfl hne | some v => exact ⟨v, rfl⟩
      have hpos := find_pos hfo
      obtain ⟨S5, hp5, he⟩ := map_some' hm
      obtain ⟨h51, h52, h53⟩ := patch_some hp5
      injection he with he1 he2
      refine gk_false rfl (beq_eq_false_iff_ne.2 (by show ((v : Nat) : Int) ≠ 0; omega)) ?_
      refine gk_seq ?_
      refine gk_region ?_
      refine gr_v (ev_mv rfl) ?_
      refine gr_v (ev_nil rfl) ?_
      refine gr_v (ev_fa (j := 0) rfl Tryz.runUnderlying110 rfl Tryz.sizeOf69 rfl rfl) ?_
      refine gr_v (ev_ld rfl Tryz.isAgg69 (by first | exact hb3) (by rfl)) ?_
      refine gr_v (ev_len (len := junk.length + S1.buf.length) rfl ⟨_, rfl, _, Tryz.runUnderlying69⟩) ?_
      refine gr_v (ev_cv (r := ((junk.length + S1.buf.length : Nat) : Int)) rfl ⟨_, Tryz.runUnderlying3⟩ Tryz.runUnderlying289 (w_i32 (by omega) (by omega))) ?_
      refine gr_v (ev_mv rfl) ?_
      refine gr_v (ev_cv rfl ⟨_, Tryz.runUnderlying65⟩ Tryz.runUnderlying289 (w_i32 (by omega) (by omega))) ?_
      refine gr_v (ev_sub (r := (junk.length : Int)) rfl rfl (by rw [w_i32 (by omega) (by omega)]; omega)) ?_
      refine gr_v (ev_as rfl) ?_
      refine gr_nil ?_
      refine gk_seq ?_
      refine gk_region ?_
      refine gr_v (ev_mv rfl) ?_
      refine gr_v (ev_mv rfl) ?_
      refine gr_v (ev_cv rfl ⟨_, Tryz.runUnderlying289⟩ Tryz.runUnderlying65 (w_u32 (by omega) (by omega))) ?_
      refine gr_v (ev_nil rfl) ?_
      refine gr_v (ev_fa (j := 5) rfl Tryz.runUnderlying110 rfl Tryz.sizeOf65 rfl rfl) ?_
      refine gr_st (cs' := ({ kb := kb, junk := junk, extra := extra, vb := some vb, vx := vx2, tb := tb, tx := tx } : Gh).cells ({ S1 with vt := vt2 } : St)) rfl rfl (by rfl) Tryz.sizeOf65 hb3 (by rfl) (by rfl) ?_
      intro w4 hw4 hb4
      have hw4b := h3.upd ({ S1 with vt := vt2 } : St) rfl rfl rfl rfl rfl hw4
      have hk4 := hw4b.1.hk
      replace h4 := hw4b.1.same (w1 := w4.drew) rfl
      refine gr_nil ?_
      refine gk_draw (fun w' => w'.heap[bb]? = some (.cells (({ kb := kb, junk := junk, extra := extra, vb := some vb, vx := vx2, tb := tb, tx := tx } : Gh).cells ({ S1 with vt := vt2 } : St)) 110 (0, 0))) (by kernel_rfl) ?_
      have hS := hb4
      refine ga_take 0 rfl (by kernel_rfl) (fun _ _ => (ev_mv rfl)) hS ?_
      refine ga_take 1 rfl (by kernel_rfl) (fun _ _ => (ev_nil rfl)) hS ?_
      refine ga_take 2 rfl (by kernel_rfl) (fun _ _ => (ev_fa (j := 0) rfl Tryz.runUnderlying110 rfl Tryz.sizeOf69 rfl rfl)) hS ?_
      refine ga_take 3 rfl (by kernel_rfl) (fun _ hs => (ev_ld rfl Tryz.isAgg69 (by first | exact hs | exact hs.1 | exact hs.2 | exact hs.2.1 | exact hs.2.2) (by rfl))) hS ?_
      refine ga_take 4 rfl (by kernel_rfl) (fun _ _ => (ev_mv rfl)) hS ?_
      refine ga_take 5 rfl (by kernel_rfl) (fun _ _ => (ev_nil rfl)) hS ?_
      refine ga_take 6 rfl (by kernel_rfl) (fun _ _ => (ev_fa (j := 5) rfl Tryz.runUnderlying110 rfl Tryz.sizeOf65 rfl rfl)) hS ?_
      refine ga_take 7 rfl (by kernel_rfl) (fun _ hs => (ev_ld rfl Tryz.isAgg65 (by first | exact hs | exact hs.1 | exact hs.2 | exact hs.2.1 | exact hs.2.2) (by rfl))) hS ?_
      refine ga_take 8 rfl (by kernel_rfl) (fun _ _ => (ev_slo (m := (junk.length : Int)) (len := junk.length + S1.buf.length) (cap := junk.length + S1.buf.length + extra.length) (a' := junk.length + (S1.buf.length - S1.buf.length)) rfl rfl Tryz.runUnderlying69 Tryz.sizeOf5 (by omega) (by omega) (by omega) (by omega))) hS ?_
      refine ga_take 9 rfl (by kernel_rfl) (fun _ _ => (ev_mv rfl)) hS ?_
      refine ga_take 10 rfl (by kernel_rfl) (fun _ _ => (ev_cv (m := (v : Int)) (r := (v : Int)) rfl ⟨_, Tryz.runUnderlying65⟩ Tryz.runUnderlying289 (w_i32 (by omega) (by omega)))) hS ?_
      refine ga_take 11 rfl (by kernel_rfl) (fun _ _ => (ev_mv rfl)) hS ?_
      refine ga_take 12 rfl (by kernel_rfl) (fun _ _ => (ev_cv rfl ⟨_, Tryz.runUnderlying65⟩ Tryz.runUnderlying289 (w_i32 (by omega) (by omega)))) hS ?_
      refine ga_take 13 rfl (by kernel_rfl) (fun _ _ => (ev_sub (r := (v : Int) - S1.buf.length) rfl rfl (w_i32 (by omega) (by omega)))) hS ?_
      refine ga_call 14 rfl (by kernel_rfl) (ec_func Tryz.call338 rfl) (c338 ((v : Int) - S1.buf.length) _ _ (junk.length + (S1.buf.length - S1.buf.length)) _ _ _ (dr_heap hk4) (by rw [le4_len]; omega) (by rw [le4_len]; simp; omega)) ?_
      rintro _ w5 ⟨rfl, hw5⟩
      refine ⟨sb_at hw5 h4.bk.symm hS, fun _ => ?_⟩
      refine ga_nil (by kernel_rfl) ?_
      refine gk_fin fun a ha => ?_
      exact ⟨({ ({ S1 with vt := vt2 } : St) with buf := sets S1.buf (S1.buf.length - S1.buf.length) (le4 ((v : Int) - S1.buf.length)) }, ({ kb := kb, junk := junk, extra := extra, vb := some vb, vx := vx2, tb := tb, tx := tx } : Gh)), ha.keep ⟨rfl, rfl, rfl, trivial⟩, (h4.patch (by rw [le4_len]; exact h51) (Nat.le_refl _) hw5).1, (hw4b.2.trans (Keep.drew.trans (h4.patch (by rw [le4_len]; exact h51) (Nat.le_refl _) hw5).2)), ⟨vb, rfl⟩, by rw [← he2, h53], he1.symm⟩
  rintro ⟨S8, ⟨kb8, junk8, extra8, vbo8, vx8, tb8, tx8⟩⟩ w8 ⟨h8, hK8, ⟨vb8, hvb8⟩, rfl, rfl⟩
  simp only at hvb8
  subst hvb8
  have hb8 := h8.hb
  have hv8 := h8.hv vb8 rfl
  refine gk_seq ?_
  refine gk_region ?_
  refine gr_v (ev_mv rfl) ?_
  refine gr_v (ev_mv rfl) ?_
  refine gr_v (ev_nil rfl) ?_
  refine gr_v (ev_fa (j := 2) rfl Tryz.runUnderlying110 rfl Tryz.sizeOf107 rfl rfl) ?_
  refine gr_v (ev_ld rfl Tryz.isAgg107 (by first | exact hb8) (by rfl)) ?_
  refine gr_v (ev_shi' (ln := 0) rfl rfl Tryz.runUnderlying107 Tryz.sizeOf65 (by omega) (by omega) (by omega)) ?_
  refine gr_v (ev_nil rfl) ?_
  refine gr_v (ev_fa (j := 2) rfl Tryz.runUnderlying110 rfl Tryz.sizeOf107 rfl rfl) ?_
  refine gr_st rfl rfl (by rfl) Tryz.sizeOf107 (by first | exact hb8) (by rfl) (by rfl) ?_
  intro w9 hw9 hb9
  refine gr_nil ?_
  refine gk_seq ?_
  refine gk_region ?_
  refine gr_v (ev_mv rfl) ?_
  refine gr_v (ev_as rfl) ?_
  refine gr_nil ?_
  refine gk_ret1 Tryz.results312 rfl ?_
  have hb9b : w9.heap[bb]? = some (.cells (({ kb := kb8, junk := junk8, extra := extra8, vb := some vb8, vx := S8.vt.map U ++ vx8, tb := tb8, tx := tx8 } : Gh).cells { S8 with vt := [] }) 110 (0, 0)) := by rw [hb9]; congr 2; simp [Gh.cells, Gh.vtv, Gh.len, Gh.cap]
  have hv9 : w9.heap[vb8]? = some (.cells (rowU [] (S8.vt.map U ++ vx8)) 65 (0, 0)) := sb_at hw9 (h8.bv vb8 rfl).1 hv8
  have hfin := h8.revt (w' := w9) vb8 (S8.vt.map U ++ vx8) { S8 with vt := [] } rfl rfl rfl (one_app h8.vone) hb9b hv9 (fun c x n1 n2 hx => sb_at hw9 n1 hx) (.inl rfl) (by rw [hw9, sb_size]; exact Nat.le_refl _)
  exact ⟨_, rfl, rfl, ⟨_, hfin.1⟩, ((((hK1.trans (Keep.same hh2)).trans hK3).trans hK8).trans hfin.2)⟩
end Go.Proofs.YtjaplgfgkigmiaaGreat