/-
  zzFits: some bool, nothing that was there is changed.
-/
import Derived.Test.YtjaplgfgkigmiaaGreatFl
namespace Go.Proofs.YtjaplgfgkigmiaaGreat
open Go Go.Proofs


theorem z9 {M : Mem} {w : World} {v : Value} {l : List ByteArray} (hr : rowS M v l isStr) (hM : Has M w) (hl : l.length ≤ 9223372036854775807) : CR Tryz.prog 9 #[v] w (fun y w' => (∃ b, y = .bool b) ∧ Old w w') := by
  obtain ⟨va, vc, hv⟩ := hr.len
  refine cr_enter Tryz.func9 rfl Tryz.ntmps9 ?_
  refine gk_seq ?_
  refine gk_region ?_
  refine gr_v (ev_as rfl) ?_
  refine gr_nil ?_
  refine gk_seq ?_
  refine gk_seq ?_
  refine gk_region ?_
  refine gr_v (ev_mv rfl) ?_
  refine gr_v (ev_lenL hr.len rfl ⟨_, rfl, _, Tryz.runUnderlying28⟩) ?_
  refine gr_b (ev_gtr rfl rfl) (fun hd1_2 => ?_) (fun hd1_2 => ?_)
  · skip
    refine gr_nil ?_
    refine gk_true rfl rfl ?_
    refine gk_seq ?_
    refine gk_region ?_
    refine gr_v (ev_as rfl) ?_
    refine gr_nil ?_
    refine gk_ret1 Tryz.results9 rfl ?_
    exact ⟨_, rfl, ⟨_, rfl⟩, Old.refl⟩
  · skip
    refine gr_nil ?_
    refine gk_false rfl rfl ?_
    refine gk_skip ?_
    refine gk_seq ?_
    refine gk_seq ?_
    refine gk_region ?_
    refine gr_v (ev_mv rfl) ?_
    refine gr_v (ev_lenL hr.len rfl ⟨_, rfl, _, Tryz.runUnderlying28⟩) ?_
    refine gr_v (ev_mv rfl) ?_
    refine gr_nil ?_
    refine gk_block ?_
    refine gk_loop (fun i : Nat => [(8, v), (9, .int .i64 l.length), (10, .int .i64 (i : Int)), (2, .bool false)]) (fun i w' => w = w' ∧ i ≤ l.length) (fun i => l.length - i) 0 ⟨rfl, rfl, rfl, rfl, trivial⟩ ⟨rfl, Nat.zero_le _⟩ ?_
    rintro i _ ⟨rfl, hil⟩
    rcases Nat.lt_or_ge i l.length with hi | hge
    · skip
      obtain ⟨b, o, c, cs, e, fz, y, hvv, hcs, hle, hy, rfl⟩ := hr.get hi
      refine gk_seq ?_
      refine gk_region ?_
      refine gr_bb (ev_lss rfl rfl) (decide_eq_true (by omega)) ?_
      refine gr_nil ?_
      refine gk_seq ?_
      refine gk_true rfl rfl ?_
      refine gk_skip ?_
      refine gk_seq ?_
      refine gk_block ?_
      refine gk_seq ?_
      refine gk_region ?_
      refine gr_v (ev_ix (len := l.length) (a' := o + i) (by rw [← hvv]; rfl) rfl Tryz.runUnderlying28 Tryz.sizeOf9 (by omega) (by omega) (by omega)) ?_
      refine gr_v (ev_ld rfl Tryz.isAgg9 (hM _ _ hcs) hy) ?_
      refine gr_v (ev_as rfl) ?_
      refine gr_nil ?_
      refine gk_seq ?_
      refine gk_region ?_
      refine gr_v (ev_mv rfl) ?_
      refine gr_v (ev_lens rfl ⟨_, rfl, Tryz.runUnderlying9⟩) ?_
      refine gr_b (ev_gtr rfl rfl) (fun hd6_2 => ?_) (fun hd6_2 => ?_)
      · skip
        refine gr_nil ?_
        refine gk_true rfl rfl ?_
        refine gk_seq ?_
        refine gk_region ?_
        refine gr_v (ev_as rfl) ?_
        refine gr_nil ?_
        refine gk_ret1 Tryz.results9 rfl ?_
        exact ⟨_, rfl, ⟨_, rfl⟩, Old.refl⟩
      · skip
        refine gr_nil ?_
        refine gk_false rfl rfl ?_
        refine gk_skip ?_
        refine gk_endblk ?_
        refine gk_region ?_
        refine gr_v (ev_add (r := ((i + 1 : Nat) : Int)) rfl rfl (by rw [w_i64 (by omega) (by omega)]; omega)) ?_
        refine gr_v (ev_mv rfl) ?_
        refine gr_nil ?_
        refine gk_fin fun a ha => ?_
        exact ⟨i + 1, ha.keep ⟨rfl, rfl, rfl, rfl, trivial⟩, ⟨rfl, hi⟩, (by show l.length - (i + 1) < l.length - i; omega)⟩
    · skip
      refine gk_seq ?_
      refine gk_region ?_
      refine gr_bb (ev_lss rfl rfl) (decide_eq_false (by omega)) ?_
      refine gr_nil ?_
      refine gk_seq ?_
      refine gk_false rfl rfl ?_
      refine gk_exit rfl ?_
      refine gk_seq ?_
      refine gk_region ?_
      refine gr_v (ev_as rfl) ?_
      refine gr_nil ?_
      refine gk_ret1 Tryz.results9 rfl ?_
      exact ⟨_, rfl, ⟨_, rfl⟩, Old.refl⟩

theorem z35 {w : World} {cs : Array Value} {s : ByteArray × Int × Int} (h : isStat cs s) : CR Tryz.prog 35 #[.agg cs] w (fun y w' => (∃ b, y = .bool b) ∧ Old w w') := by
  subst h
  refine cr_enter Tryz.func35 rfl Tryz.ntmps35 ?_
  refine gk_seq ?_
  refine gk_region ?_
  refine gr_box rfl ?_
  intro w1 ho1 hb1 hs1
  refine gr_v (ev_as rfl) ?_
  refine gr_nil ?_
  refine gk_seq ?_
  refine gk_seq ?_
  refine gk_region ?_
  refine gr_v (ev_fa (j := 0) rfl Tryz.runUnderlying86 rfl Tryz.sizeOf9 rfl rfl) ?_
  refine gr_v (ev_ld rfl Tryz.isAgg9 (by first | exact hb1) (by rfl)) ?_
  refine gr_v (ev_lens rfl ⟨_, rfl, Tryz.runUnderlying9⟩) ?_
  refine gr_b (ev_gtr rfl rfl) (fun hd1_3 => ?_) (fun hd1_3 => ?_)
  · skip
    refine gr_nil ?_
    refine gk_true rfl rfl ?_
    refine gk_seq ?_
    refine gk_region ?_
    refine gr_v (ev_as rfl) ?_
    refine gr_nil ?_
    refine gk_ret1 Tryz.results35 rfl ?_
    exact ⟨_, rfl, ⟨_, rfl⟩, ho1⟩
  · skip
    refine gr_nil ?_
    refine gk_false rfl rfl ?_
    refine gk_skip ?_
    refine gk_seq ?_
    refine gk_region ?_
    refine gr_v (ev_as rfl) ?_
    refine gr_nil ?_
    refine gk_ret1 Tryz.results35 rfl ?_
    exact ⟨_, rfl, ⟨_, rfl⟩, ho1⟩

theorem z10 {M : Mem} {w : World} {v : Value} {l : List (ByteArray × Int × Int)} (hr : rowM 3 M v l isStat) (hM : Has M w) (hl : l.length ≤ 9223372036854775807) : CR Tryz.prog 10 #[v] w (fun y w' => (∃ b, y = .bool b) ∧ Old w w') := by
  obtain ⟨va, vc, hv⟩ := hr.len
  refine cr_enter Tryz.func10 rfl Tryz.ntmps10 ?_
  refine gk_seq ?_
  refine gk_region ?_
  refine gr_v (ev_as rfl) ?_
  refine gr_nil ?_
  refine gk_seq ?_
  refine gk_seq ?_
  refine gk_region ?_
  refine gr_v (ev_mv rfl) ?_
  refine gr_v (ev_lenL hr.len rfl ⟨_, rfl, _, Tryz.runUnderlying29⟩) ?_
  refine gr_b (ev_gtr rfl rfl) (fun hd1_2 => ?_) (fun hd1_2 => ?_)
  · skip
    refine gr_nil ?_
    refine gk_true rfl rfl ?_
    refine gk_seq ?_
    refine gk_region ?_
    refine gr_v (ev_as rfl) ?_
    refine gr_nil ?_
    refine gk_ret1 Tryz.results10 rfl ?_
    first | exact ⟨_, rfl, ⟨_, rfl⟩, (hO.trans ho1).trans ho2⟩ | exact ⟨_, rfl, ⟨_, rfl⟩, hO⟩ | exact ⟨_, rfl, ⟨_, rfl⟩, Old.refl⟩
  · skip
    refine gr_nil ?_
    refine gk_false rfl rfl ?_
    refine gk_skip ?_
    refine gk_seq ?_
    refine gk_seq ?_
    refine gk_region ?_
    refine gr_v (ev_mv rfl) ?_
    refine gr_v (ev_lenL hr.len rfl ⟨_, rfl, _, Tryz.runUnderlying29⟩) ?_
    refine gr_v (ev_mv rfl) ?_
    refine gr_nil ?_
    refine gk_block ?_
    refine gk_loop (fun i : Nat => [(8, v), (9, .int .i64 l.length), (10, .int .i64 (i : Int)), (2, .bool false)]) (fun i w' => Old w w' ∧ i ≤ l.length) (fun i => l.length - i) 0 ⟨rfl, rfl, rfl, rfl, trivial⟩ ⟨Old.refl, Nat.zero_le _⟩ ?_
    rintro i wk ⟨hO, hil⟩
    rcases Nat.lt_or_ge i l.length with hi | hge
    · skip
      obtain ⟨b, o, c, cs, e, fz, hvv, hcs, hle, he⟩ := hr.get hi
      refine gk_seq ?_
      refine gk_region ?_
      refine gr_bb (ev_lss rfl rfl) (decide_eq_true (by omega)) ?_
      refine gr_nil ?_
      refine gk_seq ?_
      refine gk_true rfl rfl ?_
      refine gk_skip ?_
      refine gk_seq ?_
      refine gk_block ?_
      refine gk_seq ?_
      refine gk_region ?_
      refine gr_v (ev_ix (len := l.length) (a' := o + i * 3) (by rw [← hvv]; rfl) rfl Tryz.runUnderlying29 Tryz.sizeOf86 (by omega) (by omega) (by omega)) ?_
      refine gr_v (ev_lda rfl Tryz.isAgg86 Tryz.sizeOf86 (hO _ _ (hM _ _ hcs)) (mul_lt_ext hi hle)) ?_
      refine gr_var Tryz.zeroValue86 Tryz.sizeOf86 rfl rfl (isStat_ok _ _ he).1 (isStat_ok _ _ he).2 ?_
      intro wk1 ho1 hb1 hs1
      refine gr_nil ?_
      refine gk_seq ?_
      refine gk_region ?_
      refine gr_v (ev_ldall rfl Tryz.isAgg86 Tryz.sizeOf86 hb1 (isStat_ok _ _ he).1) ?_
      refine gr_call (ec_func Tryz.call35 rfl) (z35 he) ?_
      rintro _ w2 ⟨⟨b, rfl⟩, ho2⟩
      cases b
      · skip
        refine gr_v (ev_not rfl) ?_
        refine gr_nil ?_
        refine gk_true rfl rfl ?_
        refine gk_seq ?_
        refine gk_region ?_
        refine gr_v (ev_as rfl) ?_
        refine gr_nil ?_
        refine gk_ret1 Tryz.results10 rfl ?_
        first | exact ⟨_, rfl, ⟨_, rfl⟩, (hO.trans ho1).trans ho2⟩ | exact ⟨_, rfl, ⟨_, rfl⟩, hO⟩ | exact ⟨_, rfl, ⟨_, rfl⟩, Old.refl⟩
      · skip
        refine gr_v (ev_not rfl) ?_
        refine gr_nil ?_
        refine gk_false rfl rfl ?_
        refine gk_skip ?_
        refine gk_endblk ?_
        refine gk_region ?_
        refine gr_v (ev_add (r := ((i + 1 : Nat) : Int)) rfl rfl (by rw [w_i64 (by omega) (by omega)]; omega)) ?_
        refine gr_v (ev_mv rfl) ?_
        refine gr_nil ?_
        refine gk_fin fun a ha => ?_
        exact ⟨i + 1, ha.keep ⟨rfl, rfl, rfl, rfl, trivial⟩, ⟨(hO.trans ho1).trans ho2, hi⟩, (by show l.length - (i + 1) < l.length - i; omega)⟩
    · skip
      refine gk_seq ?_
      refine gk_region ?_
      refine gr_bb (ev_lss rfl rfl) (decide_eq_false (by omega)) ?_
      refine gr_nil ?_
      refine gk_seq ?_
      refine gk_false rfl rfl ?_
      refine gk_exit rfl ?_
      refine gk_seq ?_
      refine gk_region ?_
      refine gr_v (ev_as rfl) ?_
      refine gr_nil ?_
      refine gk_ret1 Tryz.results10 rfl ?_
      first | exact ⟨_, rfl, ⟨_, rfl⟩, (hO.trans ho1).trans ho2⟩ | exact ⟨_, rfl, ⟨_, rfl⟩, hO⟩ | exact ⟨_, rfl, ⟨_, rfl⟩, Old.refl⟩

theorem z4 {sub : Mem → Array Value → PK → Prop} {M : Mem} {w : World} {d : SD} {x : SV} (hr : SrcR sub M d x) (hM : Has M w) (hl : d.strs.length ≤ 9223372036854775807 ∧ d.strs2.length ≤ 9223372036854775807 ∧ d.stat.length ≤ 9223372036854775807) : CR Tryz.prog 4 #[.agg (cells52 d x)] w (fun y w' => (∃ b, y = .bool b) ∧ Old w w') := by
  refine cr_enter Tryz.func4 rfl Tryz.ntmps4 ?_
  refine gk_seq ?_
  refine gk_region ?_
  refine gr_box rfl ?_
  intro w1 ho hb1 hs1
  refine gr_v (ev_as rfl) ?_
  refine gr_nil ?_
  refine gk_seq ?_
  refine gk_seq ?_
  refine gk_region ?_
  refine gr_v (ev_fa (j := 0) rfl Tryz.runUnderlying38 rfl Tryz.sizeOf22 rfl rfl) ?_
  refine gr_v (ev_ld rfl Tryz.isAgg22 (by first | exact hb1) (by rfl)) ?_
  refine gr_v (ev_lenL hr.pos.len rfl ⟨_, rfl, _, Tryz.runUnderlying22⟩) ?_
  refine gr_b (ev_gtr rfl rfl) (fun hd1_3 => ?_) (fun hd1_3 => ?_)
  · skip
    refine gr_nil ?_
    refine gk_true rfl rfl ?_
    refine gk_seq ?_
    refine gk_region ?_
    refine gr_v (ev_as rfl) ?_
    refine gr_nil ?_
    refine gk_ret1 Tryz.results4 rfl ?_
    exact ⟨_, rfl, ⟨_, rfl⟩, ho⟩
  · skip
    refine gr_nil ?_
    refine gk_false rfl rfl ?_
    refine gk_skip ?_
    refine gk_seq ?_
    refine gk_seq ?_
    refine gk_region ?_
    refine gr_v (ev_fa (j := 3) rfl Tryz.runUnderlying38 rfl Tryz.sizeOf9 rfl rfl) ?_
    refine gr_v (ev_ld rfl Tryz.isAgg9 (by first | exact hb1) (by rfl)) ?_
    refine gr_v (ev_lens rfl ⟨_, rfl, Tryz.runUnderlying9⟩) ?_
    refine gr_b (ev_gtr rfl rfl) (fun hd3_3 => ?_) (fun hd3_3 => ?_)
    · skip
      refine gr_nil ?_
      refine gk_true rfl rfl ?_
      refine gk_seq ?_
      refine gk_region ?_
      refine gr_v (ev_as rfl) ?_
      refine gr_nil ?_
      refine gk_ret1 Tryz.results4 rfl ?_
      exact ⟨_, rfl, ⟨_, rfl⟩, ho⟩
    · skip
      refine gr_nil ?_
      refine gk_false rfl rfl ?_
      refine gk_skip ?_
      refine gk_seq ?_
      refine gk_seq ?_
      refine gk_region ?_
      refine gr_v (ev_fa (j := 4) rfl Tryz.runUnderlying38 rfl Tryz.sizeOf9 rfl rfl) ?_
      refine gr_v (ev_ld rfl Tryz.isAgg9 (by first | exact hb1) (by rfl)) ?_
      refine gr_v (ev_lens rfl ⟨_, rfl, Tryz.runUnderlying9⟩) ?_
      refine gr_b (ev_gtr rfl rfl) (fun hd5_3 => ?_) (fun hd5_3 => ?_)
      · skip
        refine gr_nil ?_
        refine gk_true rfl rfl ?_
        refine gk_seq ?_
        refine gk_region ?_
        refine gr_v (ev_as rfl) ?_
        refine gr_nil ?_
        refine gk_ret1 Tryz.results4 rfl ?_
        exact ⟨_, rfl, ⟨_, rfl⟩, ho⟩
      · skip
        refine gr_nil ?_
        refine gk_false rfl rfl ?_
        refine gk_skip ?_
        refine gk_seq ?_
        refine gk_seq ?_
        refine gk_region ?_
        refine gr_v (ev_fa (j := 9) rfl Tryz.runUnderlying38 rfl Tryz.sizeOf27 rfl rfl) ?_
        refine gr_v (ev_ld rfl Tryz.isAgg27 (by first | exact hb1) (by rfl)) ?_
        refine gr_v (ev_lenL hr.test4.len rfl ⟨_, rfl, _, Tryz.runUnderlying27⟩) ?_
        refine gr_b (ev_gtr rfl rfl) (fun hd7_3 => ?_) (fun hd7_3 => ?_)
        · skip
          refine gr_nil ?_
          refine gk_true rfl rfl ?_
          refine gk_seq ?_
          refine gk_region ?_
          refine gr_v (ev_as rfl) ?_
          refine gr_nil ?_
          refine gk_ret1 Tryz.results4 rfl ?_
          exact ⟨_, rfl, ⟨_, rfl⟩, ho⟩
        · skip
          refine gr_nil ?_
          refine gk_false rfl rfl ?_
          refine gk_skip ?_
          refine gk_seq ?_
          refine gk_seq ?_
          refine gk_region ?_
          refine gr_v (ev_fa (j := 10) rfl Tryz.runUnderlying38 rfl Tryz.sizeOf28 rfl rfl) ?_
          refine gr_v (ev_ld rfl Tryz.isAgg28 (by first | exact hb1) (by rfl)) ?_
          refine gr_call (ec_func Tryz.call9 rfl) (z9 hr.strs (fun b x h => ho _ _ (hM b x h)) hl.1) ?_
          rintro _ wc ⟨⟨b, rfl⟩, hoc⟩
          replace hb1 := hoc _ _ hb1
          replace ho := ho.trans hoc
          cases b
          · skip
            refine gr_v (ev_not rfl) ?_
            refine gr_nil ?_
            refine gk_true rfl rfl ?_
            refine gk_seq ?_
            refine gk_region ?_
            refine gr_v (ev_as rfl) ?_
            refine gr_nil ?_
            refine gk_ret1 Tryz.results4 rfl ?_
            exact ⟨_, rfl, ⟨_, rfl⟩, ho⟩
          · skip
            refine gr_v (ev_not rfl) ?_
            refine gr_nil ?_
            refine gk_false rfl rfl ?_
            refine gk_skip ?_
            refine gk_seq ?_
            refine gk_seq ?_
            refine gk_region ?_
            refine gr_v (ev_fa (j := 11) rfl Tryz.runUnderlying38 rfl Tryz.sizeOf24 rfl rfl) ?_
            refine gr_v (ev_ld rfl Tryz.isAgg24 (by first | exact hb1) (by rfl)) ?_
            refine gr_v (ev_lenL hr.tables.len rfl ⟨_, rfl, _, Tryz.runUnderlying24⟩) ?_
            refine gr_b (ev_gtr rfl rfl) (fun hd11_3 => ?_) (fun hd11_3 => ?_)
            · skip
              refine gr_nil ?_
              refine gk_true rfl rfl ?_
              refine gk_seq ?_
              refine gk_region ?_
              refine gr_v (ev_as rfl) ?_
              refine gr_nil ?_
              refine gk_ret1 Tryz.results4 rfl ?_
              exact ⟨_, rfl, ⟨_, rfl⟩, ho⟩
            · skip
              refine gr_nil ?_
              refine gk_false rfl rfl ?_
              refine gk_skip ?_
              refine gk_seq ?_
              refine gk_seq ?_
              refine gk_region ?_
              refine gr_v (ev_fa (j := 12) rfl Tryz.runUnderlying38 rfl Tryz.sizeOf24 rfl rfl) ?_
              refine gr_v (ev_ld rfl Tryz.isAgg24 (by first | exact hb1) (by rfl)) ?_
              refine gr_v (ev_lenL hr.enemy.len rfl ⟨_, rfl, _, Tryz.runUnderlying24⟩) ?_
              refine gr_b (ev_gtr rfl rfl) (fun hd13_3 => ?_) (fun hd13_3 => ?_)
              · skip
                refine gr_nil ?_
                refine gk_true rfl rfl ?_
                refine gk_seq ?_
                refine gk_region ?_
                refine gr_v (ev_as rfl) ?_
                refine gr_nil ?_
                refine gk_ret1 Tryz.results4 rfl ?_
                exact ⟨_, rfl, ⟨_, rfl⟩, ho⟩
              · skip
                refine gr_nil ?_
                refine gk_false rfl rfl ?_
                refine gk_skip ?_
                refine gk_seq ?_
                refine gk_seq ?_
                refine gk_region ?_
                refine gr_v (ev_fa (j := 13) rfl Tryz.runUnderlying38 rfl Tryz.sizeOf9 rfl rfl) ?_
                refine gr_v (ev_ld rfl Tryz.isAgg9 (by first | exact hb1) (by rfl)) ?_
                refine gr_v (ev_lens rfl ⟨_, rfl, Tryz.runUnderlying9⟩) ?_
                refine gr_b (ev_gtr rfl rfl) (fun hd15_3 => ?_) (fun hd15_3 => ?_)
                · skip
                  refine gr_nil ?_
                  refine gk_true rfl rfl ?_
                  refine gk_seq ?_
                  refine gk_region ?_
                  refine gr_v (ev_as rfl) ?_
                  refine gr_nil ?_
                  refine gk_ret1 Tryz.results4 rfl ?_
                  exact ⟨_, rfl, ⟨_, rfl⟩, ho⟩
                · skip
                  refine gr_nil ?_
                  refine gk_false rfl rfl ?_
                  refine gk_skip ?_
                  refine gk_seq ?_
                  refine gk_seq ?_
                  refine gk_region ?_
                  refine gr_v (ev_fa (j := 14) rfl Tryz.runUnderlying38 rfl Tryz.sizeOf29 rfl rfl) ?_
                  refine gr_v (ev_ld rfl Tryz.isAgg29 (by first | exact hb1) (by rfl)) ?_
                  refine gr_call (ec_func Tryz.call10 rfl) (z10 hr.stat (fun b x h => ho _ _ (hM b x h)) hl.2.2) ?_
                  rintro _ wc ⟨⟨b, rfl⟩, hoc⟩
                  replace hb1 := hoc _ _ hb1
                  replace ho := ho.trans hoc
                  cases b
                  · skip
                    refine gr_v (ev_not rfl) ?_
                    refine gr_nil ?_
                    refine gk_true rfl rfl ?_
                    refine gk_seq ?_
                    refine gk_region ?_
                    refine gr_v (ev_as rfl) ?_
                    refine gr_nil ?_
                    refine gk_ret1 Tryz.results4 rfl ?_
                    exact ⟨_, rfl, ⟨_, rfl⟩, ho⟩
                  · skip
                    refine gr_v (ev_not rfl) ?_
                    refine gr_nil ?_
                    refine gk_false rfl rfl ?_
                    refine gk_skip ?_
                    refine gk_seq ?_
                    refine gk_seq ?_
                    refine gk_region ?_
                    refine gr_v (ev_fa (j := 24) rfl Tryz.runUnderlying38 rfl Tryz.sizeOf32 rfl rfl) ?_
                    refine gr_v (ev_ld rfl Tryz.isAgg32 (by first | exact hb1) (by rfl)) ?_
                    refine gr_v (ev_lenL hr.bools.len rfl ⟨_, rfl, _, Tryz.runUnderlying32⟩) ?_
                    refine gr_b (ev_gtr rfl rfl) (fun hd19_3 => ?_) (fun hd19_3 => ?_)
                    · skip
                      refine gr_nil ?_
                      refine gk_true rfl rfl ?_
                      refine gk_seq ?_
                      refine gk_region ?_
                      refine gr_v (ev_as rfl) ?_
                      refine gr_nil ?_
                      refine gk_ret1 Tryz.results4 rfl ?_
                      exact ⟨_, rfl, ⟨_, rfl⟩, ho⟩
                    · skip
                      refine gr_nil ?_
                      refine gk_false rfl rfl ?_
                      refine gk_skip ?_
                      refine gk_seq ?_
                      refine gk_seq ?_
                      refine gk_region ?_
                      refine gr_v (ev_fa (j := 28) rfl Tryz.runUnderlying38 rfl Tryz.sizeOf28 rfl rfl) ?_
                      refine gr_v (ev_ld rfl Tryz.isAgg28 (by first | exact hb1) (by rfl)) ?_
                      refine gr_call (ec_func Tryz.call9 rfl) (z9 hr.strs2 (fun b x h => ho _ _ (hM b x h)) hl.2.1) ?_
                      rintro _ wc ⟨⟨b, rfl⟩, hoc⟩
                      replace hb1 := hoc _ _ hb1
                      replace ho := ho.trans hoc
                      cases b
                      · skip
                        refine gr_v (ev_not rfl) ?_
                        refine gr_nil ?_
                        refine gk_true rfl rfl ?_
                        refine gk_seq ?_
                        refine gk_region ?_
                        refine gr_v (ev_as rfl) ?_
                        refine gr_nil ?_
                        refine gk_ret1 Tryz.results4 rfl ?_
                        exact ⟨_, rfl, ⟨_, rfl⟩, ho⟩
                      · skip
                        refine gr_v (ev_not rfl) ?_
                        refine gr_nil ?_
                        refine gk_false rfl rfl ?_
                        refine gk_skip ?_
                        refine gk_seq ?_
                        refine gk_seq ?_
                        refine gk_region ?_
                        refine gr_v (ev_fa (j := 29) rfl Tryz.runUnderlying38 rfl Tryz.sizeOf33 rfl rfl) ?_
                        refine gr_v (ev_ld rfl Tryz.isAgg33 (by first | exact hb1) (by rfl)) ?_
                        refine gr_v (ev_lenL hr.abil.len rfl ⟨_, rfl, _, Tryz.runUnderlying33⟩) ?_
                        refine gr_b (ev_gtr rfl rfl) (fun hd23_3 => ?_) (fun hd23_3 => ?_)
                        · skip
                          refine gr_nil ?_
                          refine gk_true rfl rfl ?_
                          refine gk_seq ?_
                          refine gk_region ?_
                          refine gr_v (ev_as rfl) ?_
                          refine gr_nil ?_
                          refine gk_ret1 Tryz.results4 rfl ?_
                          exact ⟨_, rfl, ⟨_, rfl⟩, ho⟩
                        · skip
                          refine gr_nil ?_
                          refine gk_false rfl rfl ?_
                          refine gk_skip ?_
                          refine gk_seq ?_
                          refine gk_seq ?_
                          refine gk_region ?_
                          refine gr_v (ev_fa (j := 30) rfl Tryz.runUnderlying38 rfl Tryz.sizeOf9 rfl rfl) ?_
                          refine gr_v (ev_ld rfl Tryz.isAgg9 (by first | exact hb1) (by rfl)) ?_
                          refine gr_v (ev_lens rfl ⟨_, rfl, Tryz.runUnderlying9⟩) ?_
                          refine gr_b (ev_gtr rfl rfl) (fun hd25_3 => ?_) (fun hd25_3 => ?_)
                          · skip
                            refine gr_nil ?_
                            refine gk_true rfl rfl ?_
                            refine gk_seq ?_
                            refine gk_region ?_
                            refine gr_v (ev_as rfl) ?_
                            refine gr_nil ?_
                            refine gk_ret1 Tryz.results4 rfl ?_
                            exact ⟨_, rfl, ⟨_, rfl⟩, ho⟩
                          · skip
                            refine gr_nil ?_
                            refine gk_false rfl rfl ?_
                            refine gk_skip ?_
                            refine gk_seq ?_
                            refine gk_seq ?_
                            refine gk_region ?_
                            refine gr_v (ev_fa (j := 31) rfl Tryz.runUnderlying38 rfl Tryz.sizeOf27 rfl rfl) ?_
                            refine gr_v (ev_ld rfl Tryz.isAgg27 (by first | exact hb1) (by rfl)) ?_
                            refine gr_v (ev_lenL hr.test5.len rfl ⟨_, rfl, _, Tryz.runUnderlying27⟩) ?_
                            refine gr_b (ev_gtr rfl rfl) (fun hd27_3 => ?_) (fun hd27_3 => ?_)
                            · skip
                              refine gr_nil ?_
                              refine gk_true rfl rfl ?_
                              refine gk_seq ?_
                              refine gk_region ?_
                              refine gr_v (ev_as rfl) ?_
                              refine gr_nil ?_
                              refine gk_ret1 Tryz.results4 rfl ?_
                              exact ⟨_, rfl, ⟨_, rfl⟩, ho⟩
                            · skip
                              refine gr_nil ?_
                              refine gk_false rfl rfl ?_
                              refine gk_skip ?_
                              refine gk_seq ?_
                              refine gk_seq ?_
                              refine gk_region ?_
                              refine gr_v (ev_fa (j := 32) rfl Tryz.runUnderlying38 rfl Tryz.sizeOf34 rfl rfl) ?_
                              refine gr_v (ev_ld rfl Tryz.isAgg34 (by first | exact hb1) (by rfl)) ?_
                              refine gr_v (ev_lenL hr.longs.len rfl ⟨_, rfl, _, Tryz.runUnderlying34⟩) ?_
                              refine gr_b (ev_gtr rfl rfl) (fun hd29_3 => ?_) (fun hd29_3 => ?_)
                              · skip
                                refine gr_nil ?_
                                refine gk_true rfl rfl ?_
                                refine gk_seq ?_
                                refine gk_region ?_
                                refine gr_v (ev_as rfl) ?_
                                refine gr_nil ?_
                                refine gk_ret1 Tryz.results4 rfl ?_
                                exact ⟨_, rfl, ⟨_, rfl⟩, ho⟩
                              · skip
                                refine gr_nil ?_
                                refine gk_false rfl rfl ?_
                                refine gk_skip ?_
                                refine gk_seq ?_
                                refine gk_seq ?_
                                refine gk_region ?_
                                refine gr_v (ev_fa (j := 33) rfl Tryz.runUnderlying38 rfl Tryz.sizeOf35 rfl rfl) ?_
                                refine gr_v (ev_ld rfl Tryz.isAgg35 (by first | exact hb1) (by rfl)) ?_
                                refine gr_v (ev_lenL hr.doubles.len rfl ⟨_, rfl, _, Tryz.runUnderlying35⟩) ?_
                                refine gr_b (ev_gtr rfl rfl) (fun hd31_3 => ?_) (fun hd31_3 => ?_)
                                · skip
                                  refine gr_nil ?_
                                  refine gk_true rfl rfl ?_
                                  refine gk_seq ?_
                                  refine gk_region ?_
                                  refine gr_v (ev_as rfl) ?_
                                  refine gr_nil ?_
                                  refine gk_ret1 Tryz.results4 rfl ?_
                                  exact ⟨_, rfl, ⟨_, rfl⟩, ho⟩
                                · skip
                                  refine gr_nil ?_
                                  refine gk_false rfl rfl ?_
                                  refine gk_skip ?_
                                  refine gk_seq ?_
                                  refine gk_seq ?_
                                  refine gk_region ?_
                                  refine gr_v (ev_fa (j := 35) rfl Tryz.runUnderlying38 rfl Tryz.sizeOf35 rfl rfl) ?_
                                  refine gr_v (ev_ld rfl Tryz.isAgg35 (by first | exact hb1) (by rfl)) ?_
                                  refine gr_v (ev_lenL hr.refs.len rfl ⟨_, rfl, _, Tryz.runUnderlying35⟩) ?_
                                  refine gr_b (ev_gtr rfl rfl) (fun hd33_3 => ?_) (fun hd33_3 => ?_)
                                  · skip
                                    refine gr_nil ?_
                                    refine gk_true rfl rfl ?_
                                    refine gk_seq ?_
                                    refine gk_region ?_
                                    refine gr_v (ev_as rfl) ?_
                                    refine gr_nil ?_
                                    refine gk_ret1 Tryz.results4 rfl ?_
                                    exact ⟨_, rfl, ⟨_, rfl⟩, ho⟩
                                  · skip
                                    refine gr_nil ?_
                                    refine gk_false rfl rfl ?_
                                    refine gk_skip ?_
                                    refine gk_seq ?_
                                    refine gk_seq ?_
                                    refine gk_region ?_
                                    refine gr_v (ev_fa (j := 37) rfl Tryz.runUnderlying38 rfl Tryz.sizeOf35 rfl rfl) ?_
                                    refine gr_v (ev_ld rfl Tryz.isAgg35 (by first | exact hb1) (by rfl)) ?_
                                    refine gr_v (ev_lenL hr.weak.len rfl ⟨_, rfl, _, Tryz.runUnderlying35⟩) ?_
                                    refine gr_b (ev_gtr rfl rfl) (fun hd35_3 => ?_) (fun hd35_3 => ?_)
                                    · skip
                                      refine gr_nil ?_
                                      refine gk_true rfl rfl ?_
                                      refine gk_seq ?_
                                      refine gk_region ?_
                                      refine gr_v (ev_as rfl) ?_
                                      refine gr_nil ?_
                                      refine gk_ret1 Tryz.results4 rfl ?_
                                      exact ⟨_, rfl, ⟨_, rfl⟩, ho⟩
                                    · skip
                                      refine gr_nil ?_
                                      refine gk_false rfl rfl ?_
                                      refine gk_skip ?_
                                      refine gk_seq ?_
                                      refine gk_seq ?_
                                      refine gk_region ?_
                                      refine gr_v (ev_fa (j := 38) rfl Tryz.runUnderlying38 rfl Tryz.sizeOf35 rfl rfl) ?_
                                      refine gr_v (ev_ld rfl Tryz.isAgg35 (by first | exact hb1) (by rfl)) ?_
                                      refine gr_v (ev_lenL hr.strong.len rfl ⟨_, rfl, _, Tryz.runUnderlying35⟩) ?_
                                      refine gr_b (ev_gtr rfl rfl) (fun hd37_3 => ?_) (fun hd37_3 => ?_)
                                      · skip
                                        refine gr_nil ?_
                                        refine gk_true rfl rfl ?_
                                        refine gk_seq ?_
                                        refine gk_region ?_
                                        refine gr_v (ev_as rfl) ?_
                                        refine gr_nil ?_
                                        refine gk_ret1 Tryz.results4 rfl ?_
                                        exact ⟨_, rfl, ⟨_, rfl⟩, ho⟩
                                      · skip
                                        refine gr_nil ?_
                                        refine gk_false rfl rfl ?_
                                        refine gk_skip ?_
                                        refine gk_seq ?_
                                        refine gk_seq ?_
                                        refine gk_region ?_
                                        refine gr_v (ev_fa (j := 40) rfl Tryz.runUnderlying38 rfl Tryz.sizeOf35 rfl rfl) ?_
                                        refine gr_v (ev_ld rfl Tryz.isAgg35 (by first | exact hb1) (by rfl)) ?_
                                        refine gr_v (ev_lenL hr.coown.len rfl ⟨_, rfl, _, Tryz.runUnderlying35⟩) ?_
                                        refine gr_b (ev_gtr rfl rfl) (fun hd39_3 => ?_) (fun hd39_3 => ?_)
                                        · skip
                                          refine gr_nil ?_
                                          refine gk_true rfl rfl ?_
                                          refine gk_seq ?_
                                          refine gk_region ?_
                                          refine gr_v (ev_as rfl) ?_
                                          refine gr_nil ?_
                                          refine gk_ret1 Tryz.results4 rfl ?_
                                          exact ⟨_, rfl, ⟨_, rfl⟩, ho⟩
                                        · skip
                                          refine gr_nil ?_
                                          refine gk_false rfl rfl ?_
                                          refine gk_skip ?_
                                          refine gk_seq ?_
                                          refine gk_seq ?_
                                          refine gk_region ?_
                                          refine gr_v (ev_fa (j := 42) rfl Tryz.runUnderlying38 rfl Tryz.sizeOf35 rfl rfl) ?_
                                          refine gr_v (ev_ld rfl Tryz.isAgg35 (by first | exact hb1) (by rfl)) ?_
                                          refine gr_v (ev_lenL hr.nonown.len rfl ⟨_, rfl, _, Tryz.runUnderlying35⟩) ?_
                                          refine gr_b (ev_gtr rfl rfl) (fun hd41_3 => ?_) (fun hd41_3 => ?_)
                                          · skip
                                            refine gr_nil ?_
                                            refine gk_true rfl rfl ?_
                                            refine gk_seq ?_
                                            refine gk_region ?_
                                            refine gr_v (ev_as rfl) ?_
                                            refine gr_nil ?_
                                            refine gk_ret1 Tryz.results4 rfl ?_
                                            exact ⟨_, rfl, ⟨_, rfl⟩, ho⟩
                                          · skip
                                            refine gr_nil ?_
                                            refine gk_false rfl rfl ?_
                                            refine gk_skip ?_
                                            refine gk_seq ?_
                                            refine gk_seq ?_
                                            refine gk_region ?_
                                            refine gr_v (ev_fa (j := 49) rfl Tryz.runUnderlying38 rfl Tryz.sizeOf9 rfl rfl) ?_
                                            refine gr_v (ev_ld rfl Tryz.isAgg9 (by first | exact hb1) (by rfl)) ?_
                                            refine gr_v (ev_lens rfl ⟨_, rfl, Tryz.runUnderlying9⟩) ?_
                                            refine gr_b (ev_gtr rfl rfl) (fun hd43_3 => ?_) (fun hd43_3 => ?_)
                                            · skip
                                              refine gr_nil ?_
                                              refine gk_true rfl rfl ?_
                                              refine gk_seq ?_
                                              refine gk_region ?_
                                              refine gr_v (ev_as rfl) ?_
                                              refine gr_nil ?_
                                              refine gk_ret1 Tryz.results4 rfl ?_
                                              exact ⟨_, rfl, ⟨_, rfl⟩, ho⟩
                                            · skip
                                              refine gr_nil ?_
                                              refine gk_false rfl rfl ?_
                                              refine gk_skip ?_
                                              refine gk_seq ?_
                                              refine gk_region ?_
                                              refine gr_v (ev_as rfl) ?_
                                              refine gr_nil ?_
                                              refine gk_ret1 Tryz.results4 rfl ?_
                                              exact ⟨_, rfl, ⟨_, rfl⟩, ho⟩

end Go.Proofs.YtjaplgfgkigmiaaGreat