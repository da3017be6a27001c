/-
  MonsterClean: where it says true, the monster is made one of impl that packs, and its packing goes through.
-/
import Derived.Test.YtjaplgfgkigmiaaGreatCc
namespace Go.Proofs.YtjaplgfgkigmiaaGreat
open Go Go.Proofs

def lens14 (d : SD) : List Nat := [d.test4.length, d.strs.length, d.tables.length, d.bools.length, d.strs2.length, d.abil.length, d.test5.length, d.longs.length, d.doubles.length, d.refs.length, d.weak.length, d.strong.length, d.coown.length, d.nonown.length]
theorem lens_get {d : SD} {i : Nat} (h : i < 14) : ((lens14 d).map fun m => Value.int .i64 (m : Nat)).toArray[i]? = some (.int .i64 (((lens14 d)[i]?.getD 0 : Nat) : Int)) := by
  have h' : i < (lens14 d).length := h
  simp [List.getElem?_eq_getElem h']
theorem all_step {P : Nat → Prop} {i : Nat} (h : ∀ j, j < i → P j) (hi : P i) : ∀ j, j < i + 1 → P j := fun j hj => by
  by_cases e : j = i
  · subst e; exact hi
  · exact h j (by omega)
def texts0 (d : SD) : List ByteArray := [d.name, d.inv, d.nest, d.flex, d.enums]
def texts (d : SD) (i : Nat) : List ByteArray := texts0 d ++ d.strs ++ d.strs2 ++ (d.stat.take i).map (·.1)
theorem texts_succ {d : SD} {i : Nat} (h : i < d.stat.length) : texts d (i + 1) = texts d i ++ [d.stat[i].1] := by
  unfold texts
  rw [List.take_succ_eq_append_getElem h, List.map_append, ← List.append_assoc]; rfl
theorem texts_zero {d : SD} : texts d 0 = texts0 d ++ d.strs ++ d.strs2 := by simp [texts]
theorem texts_len {d : SD} {i : Nat} : (texts d i).length = 5 + d.strs.length + d.strs2.length + min i d.stat.length := by simp [texts, texts0]; omega
theorem RowB.isLen {e sz n : Nat} {w : World} {v : Value} {fs : List Value} (h : RowB e sz w v n fs) : isLen v n := by
  rcases h with ⟨rfl, _, rfl⟩ | ⟨b, k, sp, rfl, _⟩
  · exact ⟨none, 0, rfl⟩
  · exact ⟨some ⟨b, 0, none⟩, k, rfl⟩
theorem RowB.getS {e n : Nat} {w : World} {v : Value} {l : List ByteArray} (h : RowB e 1 w v n (l.map Value.string)) {i : Nat} (hi : i < n) : ∃ (b k : Nat) (cs : Array Value), v = .slice (some ⟨b, 0, none⟩) n k ∧ w.heap[b]? = some (.cells cs e (0, 0)) ∧ cs[i]? = some (.string (l[i]?.getD ByteArray.empty)) := by
  rcases h with ⟨rfl, _, rfl⟩ | ⟨b, k, sp, rfl, _, h2, h3, _⟩
  · omega
  · refine ⟨b, k, _, rfl, h3, ?_⟩
    have hl : i < l.length := by simp at h2; omega
    simp [List.getElem?_append_left, hl]
theorem k36' (m : Nat) (w : World) : CR Tryz.prog 36 #[.int .i64 (m : Nat)] w (fun v w' => (∃ b, v = .bool b ∧ (b = true → m ≤ 50)) ∧ w = w') :=
  CR_imp (k36 m w) fun v w' ⟨h1, h2⟩ => ⟨⟨_, h1, fun h => by have := of_decide_eq_true h; omega⟩, h2⟩
theorem grow0 {w wa : World} {l : List ByteArray} (ho : Old w wa) (hb : wa.heap[w.heap.size]? = some (.cells (l.map Value.string).toArray 9 (0, 0))) (h0 : 0 < l.length) : GRow 9 1 (fun b => w.heap[b]?) w wa (fun b => w.heap[b]?) (.slice (some ⟨w.heap.size, 0, none⟩) l.length l.length) l.length (l.map Value.string) :=
  ⟨⟨Sub.refl, fun b x h => ho b x h, fun _ _ h => .inl h, ho⟩, .inr ⟨w.heap.size, l.length, [], rfl, ⟨h0, Nat.le_refl _⟩, by simp, by rw [List.append_nil]; exact hb, by simp, fun s h => by cases h⟩, fun b h => by cases h; exact ⟨Nat.le_refl _, by simp⟩⟩
theorem mem_all {l : List ByteArray} {N : Nat} (h : ∀ j, j < N → (l[j]?.getD ByteArray.empty).size ≤ 300) (hN : l.length = N) : ∀ s ∈ l, s.size ≤ 300 := fun s hs => by
  obtain ⟨j, hj, rfl⟩ := List.getElem_of_mem hs
  have := h j (by omega)
  rw [List.getElem?_eq_getElem hj] at this
  exact this

theorem mc_zero : CleanAt 0 := by
  intro M cs L w lb hm hM hlb hL hL20 hn
  have hlt := lt_of_heap hL
  refine cr_enter (vs := [.agg cs, ptr lb, .int .i64 (((0 : Nat) : Int) - 1)]) Tryz.func11 rfl Tryz.ntmps11 ?_
  refine gk_seq ?_
  refine gk_region ?_
  refine gr_box rfl ?_
  intro w1 ho1 hb1 hs1
  replace hL := ho1 _ _ hL
  have hne : w.heap.size ≠ lb := by omega
  have hK : KeepL lb w w1 := KeepL.refl.old ho1
  refine gr_v (ev_as rfl) ?_
  refine gr_nil ?_
  refine gk_seq ?_
  refine gk_seq ?_
  refine gk_region ?_
  refine gr_v (ev_mv rfl) ?_
  refine gr_v (ev_nil rfl) ?_
  refine gr_v (ev_ld rfl Tryz.isAgg3 (by first | exact hb1 | exact hL) (by rfl)) ?_
  refine gr_v (ev_sub (r := (L : Int) - 1) rfl rfl (w_i64 (by omega) (by omega))) ?_
  refine gr_v (ev_nil rfl) ?_
  refine gr_st (cs' := #[.int .i64 ((L : Int) - 1)]) rfl rfl rfl Tryz.sizeOf3 hL rfl rfl ?_
  intro w2 hw2 hL2
  replace hb1 := sb_at hw2 hne.symm hb1
  replace hK : KeepL lb w w2 := fun b x hb hx => sb_at hw2 (Ne.symm hb) (hK b x hb hx)
  clear hL
  have hL := hL2
  clear hL2
  refine gr_nil ?_
  refine gk_seq ?_
  refine gk_region ?_
  refine gr_v (ev_mv rfl) ?_
  refine gr_v (ev_nil rfl) ?_
  refine gr_v (ev_ld rfl Tryz.isAgg3 (by first | exact hb1 | exact hL) (by rfl)) ?_
  refine gr_b (ev_lss rfl rfl) (fun hd2_3 => ?_) (fun hd2_3 => ?_)
  · skip
    refine gr_v (ev_mv rfl) ?_
    refine gr_gs rfl rfl rfl ?_
    refine gr_gs rfl rfl rfl ?_
    refine gr_v (ev_pickT rfl rfl rfl) ?_
    refine gr_v (ev_mv rfl) ?_
    refine gr_gs rfl rfl rfl ?_
    refine gr_gs rfl rfl rfl ?_
    refine gr_gs rfl rfl rfl ?_
    refine gr_gs rfl rfl rfl ?_
    refine gr_v (ev_pickT rfl rfl rfl) ?_
    refine gr_v (ev_mv rfl) ?_
    refine gr_gs rfl rfl rfl ?_
    refine gr_gs rfl rfl rfl ?_
    refine gr_gs rfl rfl rfl ?_
    refine gr_gs rfl rfl rfl ?_
    refine gr_v (ev_pickT rfl rfl rfl) ?_
    refine gr_v (ev_mv rfl) ?_
    refine gr_gs rfl rfl rfl ?_
    refine gr_gs rfl rfl rfl ?_
    refine gr_gs rfl rfl rfl ?_
    refine gr_gs rfl rfl rfl ?_
    refine gr_v (ev_pickT rfl rfl rfl) ?_
    refine gr_nil ?_
    refine gk_true rfl rfl ?_
    refine gk_seq ?_
    refine gk_region ?_
    refine gr_v (ev_as rfl) ?_
    refine gr_nil ?_
    refine gk_ret1 Tryz.results11 rfl ?_
    exact ⟨_, rfl, false, rfl, hK, fun h => by cases h⟩
  · skip
    refine gr_v (ev_mv rfl) ?_
    refine gr_gv rfl rfl rfl (ev_mv rfl) ?_
    refine gr_gbb rfl rfl rfl (ev_lss rfl rfl) (rfl) ?_
    refine gr_v (ev_pickF rfl rfl rfl) ?_
    refine gr_v (ev_mv rfl) ?_
    refine gr_gs rfl rfl rfl ?_
    refine gr_gs rfl rfl rfl ?_
    refine gr_gs rfl rfl rfl ?_
    refine gr_gs rfl rfl rfl ?_
    refine gr_v (ev_pickT rfl rfl rfl) ?_
    refine gr_v (ev_mv rfl) ?_
    refine gr_gs rfl rfl rfl ?_
    refine gr_gs rfl rfl rfl ?_
    refine gr_gs rfl rfl rfl ?_
    refine gr_gs rfl rfl rfl ?_
    refine gr_v (ev_pickT rfl rfl rfl) ?_
    refine gr_v (ev_mv rfl) ?_
    refine gr_gs rfl rfl rfl ?_
    refine gr_gs rfl rfl rfl ?_
    refine gr_gs rfl rfl rfl ?_
    refine gr_gs rfl rfl rfl ?_
    refine gr_v (ev_pickT rfl rfl rfl) ?_
    refine gr_nil ?_
    refine gk_true rfl rfl ?_
    refine gk_seq ?_
    refine gk_region ?_
    refine gr_v (ev_as rfl) ?_
    refine gr_nil ?_
    refine gk_ret1 Tryz.results11 rfl ?_
    exact ⟨_, rfl, false, rfl, hK, fun h => by cases h⟩

set_option maxHeartbeats 4000000 in
theorem mc_succ {n : Nat} (ih : CleanAt n) : CleanAt (n + 1) := by
  intro M cs L w lb hm hM hlb hL hL20 hn
  obtain ⟨d, x, rfl, hs⟩ := hm
  have hlt := lt_of_heap hL
  have hdp : (((n + 1 : Nat) : Int) - 1) = (n : Nat) := by omega
  rw [hdp]
  clear hdp
  refine cr_enter (vs := [.agg (cells52 d x), ptr lb, .int .i64 (n : Nat)]) Tryz.func11 rfl Tryz.ntmps11 ?_
  refine gk_seq ?_
  refine gk_region ?_
  refine gr_box rfl ?_
  intro w1 ho1 hb1 hs1
  replace hL := ho1 _ _ hL
  have hne : w.heap.size ≠ lb := by omega
  have hK : KeepL lb w w1 := KeepL.refl.old ho1
  refine gr_v (ev_as rfl) ?_
  refine gr_nil ?_
  refine gk_seq ?_
  refine gk_seq ?_
  refine gk_region ?_
  refine gr_v (ev_mv rfl) ?_
  refine gr_v (ev_nil rfl) ?_
  refine gr_v (ev_ld rfl Tryz.isAgg3 (by first | exact hb1 | exact hL) (by rfl)) ?_
  refine gr_v (ev_sub (r := (L : Int) - 1) rfl rfl (w_i64 (by omega) (by omega))) ?_
  refine gr_v (ev_nil rfl) ?_
  refine gr_st (cs' := #[.int .i64 ((L : Int) - 1)]) rfl rfl rfl Tryz.sizeOf3 hL rfl rfl ?_
  intro w2 hw2 hL2
  replace hb1 := sb_at hw2 hne.symm hb1
  replace hK : KeepL lb w w2 := fun b x hb hx => sb_at hw2 (Ne.symm hb) (hK b x hb hx)
  clear hL
  have hL := hL2
  clear hL2
  refine gr_nil ?_
  refine gk_seq ?_
  refine gk_region ?_
  refine gr_v (ev_mv rfl) ?_
  refine gr_v (ev_nil rfl) ?_
  refine gr_v (ev_ld rfl Tryz.isAgg3 (by first | exact hb1 | exact hL) (by rfl)) ?_
  refine gr_b (ev_lss rfl rfl) (fun hd2_3 => ?_) (fun hd2_3 => ?_)
  · skip
    refine gr_v (ev_mv rfl) ?_
    refine gr_gs rfl rfl rfl ?_
    refine gr_gs rfl rfl rfl ?_
    refine gr_v (ev_pickT rfl rfl rfl) ?_
    refine gr_v (ev_mv rfl) ?_
    refine gr_gs rfl rfl rfl ?_
    refine gr_gs rfl rfl rfl ?_
    refine gr_gs rfl rfl rfl ?_
    refine gr_gs rfl rfl rfl ?_
    refine gr_v (ev_pickT rfl rfl rfl) ?_
    refine gr_v (ev_mv rfl) ?_
    refine gr_gs rfl rfl rfl ?_
    refine gr_gs rfl rfl rfl ?_
    refine gr_gs rfl rfl rfl ?_
    refine gr_gs rfl rfl rfl ?_
    refine gr_v (ev_pickT rfl rfl rfl) ?_
    refine gr_v (ev_mv rfl) ?_
    refine gr_gs rfl rfl rfl ?_
    refine gr_gs rfl rfl rfl ?_
    refine gr_gs rfl rfl rfl ?_
    refine gr_gs rfl rfl rfl ?_
    refine gr_v (ev_pickT rfl rfl rfl) ?_
    refine gr_nil ?_
    refine gk_true rfl rfl ?_
    refine gk_seq ?_
    refine gk_region ?_
    refine gr_v (ev_as rfl) ?_
    refine gr_nil ?_
    refine gk_ret1 Tryz.results11 rfl ?_
    exact ⟨_, rfl, false, rfl, hK, fun h => by cases h⟩
  · skip
    obtain ⟨Lm, rfl⟩ : ∃ Lm, L = Lm + 1 := ⟨L - 1, by have := of_decide_eq_false hd2_3; omega⟩
    have eLm : (((Lm + 1 : Nat) : Int) - 1) = (Lm : Nat) := by omega
    rw [eLm] at hL
    clear eLm
    refine gr_v (ev_mv rfl) ?_
    refine gr_gv rfl rfl rfl (ev_mv rfl) ?_
    refine gr_gbb rfl rfl rfl (ev_lss rfl rfl) (decide_eq_false (by omega)) ?_
    refine gr_v (ev_pickF rfl rfl rfl) ?_
    refine gr_v (ev_mv rfl) ?_
    refine gr_gv rfl rfl rfl (ev_fa (j := 0) rfl Tryz.runUnderlying38 rfl Tryz.sizeOf22 rfl rfl) ?_
    refine gr_gv rfl rfl rfl (ev_ld rfl Tryz.isAgg22 (by first | exact hb1 | exact hL) (by rfl)) ?_
    refine gr_gv rfl rfl rfl (ev_lenL hs.pos.len rfl ⟨_, rfl, _, Tryz.runUnderlying22⟩) ?_
    refine gr_gb rfl rfl rfl (ev_gtr rfl rfl) (fun hd2_12 => ?_) (fun hd2_12 => ?_)
    · skip
      refine gr_v (ev_pickF rfl rfl rfl) ?_
      refine gr_v (ev_mv rfl) ?_
      refine gr_gs rfl rfl rfl ?_
      refine gr_gs rfl rfl rfl ?_
      refine gr_gs rfl rfl rfl ?_
      refine gr_gs rfl rfl rfl ?_
      refine gr_v (ev_pickT rfl rfl rfl) ?_
      refine gr_v (ev_mv rfl) ?_
      refine gr_gs rfl rfl rfl ?_
      refine gr_gs rfl rfl rfl ?_
      refine gr_gs rfl rfl rfl ?_
      refine gr_gs rfl rfl rfl ?_
      refine gr_v (ev_pickT rfl rfl rfl) ?_
      refine gr_nil ?_
      refine gk_true rfl rfl ?_
      refine gk_seq ?_
      refine gk_region ?_
      refine gr_v (ev_as rfl) ?_
      refine gr_nil ?_
      refine gk_ret1 Tryz.results11 rfl ?_
      exact ⟨_, rfl, false, rfl, hK, fun h => by cases h⟩
    · skip
      refine gr_v (ev_pickF rfl rfl rfl) ?_
      refine gr_v (ev_mv rfl) ?_
      refine gr_gv rfl rfl rfl (ev_fa (j := 12) rfl Tryz.runUnderlying38 rfl Tryz.sizeOf24 rfl rfl) ?_
      refine gr_gv rfl rfl rfl (ev_ld rfl Tryz.isAgg24 (by first | exact hb1 | exact hL) (by rfl)) ?_
      refine gr_gv rfl rfl rfl (ev_lenL hs.enemy.len rfl ⟨_, rfl, _, Tryz.runUnderlying24⟩) ?_
      refine gr_gb rfl rfl rfl (ev_gtr rfl rfl) (fun hd2_18 => ?_) (fun hd2_18 => ?_)
      · skip
        refine gr_v (ev_pickF rfl rfl rfl) ?_
        refine gr_v (ev_mv rfl) ?_
        refine gr_gs rfl rfl rfl ?_
        refine gr_gs rfl rfl rfl ?_
        refine gr_gs rfl rfl rfl ?_
        refine gr_gs rfl rfl rfl ?_
        refine gr_v (ev_pickT rfl rfl rfl) ?_
        refine gr_nil ?_
        refine gk_true rfl rfl ?_
        refine gk_seq ?_
        refine gk_region ?_
        refine gr_v (ev_as rfl) ?_
        refine gr_nil ?_
        refine gk_ret1 Tryz.results11 rfl ?_
        exact ⟨_, rfl, false, rfl, hK, fun h => by cases h⟩
      · skip
        refine gr_v (ev_pickF rfl rfl rfl) ?_
        refine gr_v (ev_mv rfl) ?_
        refine gr_gv rfl rfl rfl (ev_fa (j := 14) rfl Tryz.runUnderlying38 rfl Tryz.sizeOf29 rfl rfl) ?_
        refine gr_gv rfl rfl rfl (ev_ld rfl Tryz.isAgg29 (by first | exact hb1 | exact hL) (by rfl)) ?_
        refine gr_gv rfl rfl rfl (ev_lenL hs.stat.len rfl ⟨_, rfl, _, Tryz.runUnderlying29⟩) ?_
        refine gr_gb rfl rfl rfl (ev_gtr rfl rfl) (fun hd2_24 => ?_) (fun hd2_24 => ?_)
        · skip
          refine gr_v (ev_pickF rfl rfl rfl) ?_
          refine gr_nil ?_
          refine gk_true rfl rfl ?_
          refine gk_seq ?_
          refine gk_region ?_
          refine gr_v (ev_as rfl) ?_
          refine gr_nil ?_
          refine gk_ret1 Tryz.results11 rfl ?_
          exact ⟨_, rfl, false, rfl, hK, fun h => by cases h⟩
        · skip
          refine gr_v (ev_pickF rfl rfl rfl) ?_
          refine gr_nil ?_
          refine gk_false rfl rfl ?_
          refine gk_skip ?_
          refine gk_seq ?_
          refine gk_seq ?_
          refine gk_region ?_
          refine gr_v (ev_fa (j := 9) rfl Tryz.runUnderlying38 rfl Tryz.sizeOf27 rfl rfl) ?_
          refine gr_v (ev_ld rfl Tryz.isAgg27 (by first | exact hb1 | exact hL) (by rfl)) ?_
          refine gr_v (ev_lenL hs.test4.len rfl ⟨_, rfl, _, Tryz.runUnderlying27⟩) ?_
          refine gr_v (ev_fa (j := 10) rfl Tryz.runUnderlying38 rfl Tryz.sizeOf28 rfl rfl) ?_
          refine gr_v (ev_ld rfl Tryz.isAgg28 (by first | exact hb1 | exact hL) (by rfl)) ?_
          refine gr_v (ev_lenL hs.strs.len rfl ⟨_, rfl, _, Tryz.runUnderlying28⟩) ?_
          refine gr_v (ev_fa (j := 11) rfl Tryz.runUnderlying38 rfl Tryz.sizeOf24 rfl rfl) ?_
          refine gr_v (ev_ld rfl Tryz.isAgg24 (by first | exact hb1 | exact hL) (by rfl)) ?_
          refine gr_v (ev_lenL hs.tables.len rfl ⟨_, rfl, _, Tryz.runUnderlying24⟩) ?_
          refine gr_v (ev_fa (j := 24) rfl Tryz.runUnderlying38 rfl Tryz.sizeOf32 rfl rfl) ?_
          refine gr_v (ev_ld rfl Tryz.isAgg32 (by first | exact hb1 | exact hL) (by rfl)) ?_
          refine gr_v (ev_lenL hs.bools.len rfl ⟨_, rfl, _, Tryz.runUnderlying32⟩) ?_
          refine gr_v (ev_fa (j := 28) rfl Tryz.runUnderlying38 rfl Tryz.sizeOf28 rfl rfl) ?_
          refine gr_v (ev_ld rfl Tryz.isAgg28 (by first | exact hb1 | exact hL) (by rfl)) ?_
          refine gr_v (ev_lenL hs.strs2.len rfl ⟨_, rfl, _, Tryz.runUnderlying28⟩) ?_
          refine gr_v (ev_fa (j := 29) rfl Tryz.runUnderlying38 rfl Tryz.sizeOf33 rfl rfl) ?_
          refine gr_v (ev_ld rfl Tryz.isAgg33 (by first | exact hb1 | exact hL) (by rfl)) ?_
          refine gr_v (ev_lenL hs.abil.len rfl ⟨_, rfl, _, Tryz.runUnderlying33⟩) ?_
          refine gr_v (ev_fa (j := 31) rfl Tryz.runUnderlying38 rfl Tryz.sizeOf27 rfl rfl) ?_
          refine gr_v (ev_ld rfl Tryz.isAgg27 (by first | exact hb1 | exact hL) (by rfl)) ?_
          refine gr_v (ev_lenL hs.test5.len rfl ⟨_, rfl, _, Tryz.runUnderlying27⟩) ?_
          refine gr_v (ev_fa (j := 32) rfl Tryz.runUnderlying38 rfl Tryz.sizeOf34 rfl rfl) ?_
          refine gr_v (ev_ld rfl Tryz.isAgg34 (by first | exact hb1 | exact hL) (by rfl)) ?_
          refine gr_v (ev_lenL hs.longs.len rfl ⟨_, rfl, _, Tryz.runUnderlying34⟩) ?_
          refine gr_v (ev_fa (j := 33) rfl Tryz.runUnderlying38 rfl Tryz.sizeOf35 rfl rfl) ?_
          refine gr_v (ev_ld rfl Tryz.isAgg35 (by first | exact hb1 | exact hL) (by rfl)) ?_
          refine gr_v (ev_lenL hs.doubles.len rfl ⟨_, rfl, _, Tryz.runUnderlying35⟩) ?_
          refine gr_v (ev_fa (j := 35) rfl Tryz.runUnderlying38 rfl Tryz.sizeOf35 rfl rfl) ?_
          refine gr_v (ev_ld rfl Tryz.isAgg35 (by first | exact hb1 | exact hL) (by rfl)) ?_
          refine gr_v (ev_lenL hs.refs.len rfl ⟨_, rfl, _, Tryz.runUnderlying35⟩) ?_
          refine gr_v (ev_fa (j := 37) rfl Tryz.runUnderlying38 rfl Tryz.sizeOf35 rfl rfl) ?_
          refine gr_v (ev_ld rfl Tryz.isAgg35 (by first | exact hb1 | exact hL) (by rfl)) ?_
          refine gr_v (ev_lenL hs.weak.len rfl ⟨_, rfl, _, Tryz.runUnderlying35⟩) ?_
          refine gr_v (ev_fa (j := 38) rfl Tryz.runUnderlying38 rfl Tryz.sizeOf35 rfl rfl) ?_
          refine gr_v (ev_ld rfl Tryz.isAgg35 (by first | exact hb1 | exact hL) (by rfl)) ?_
          refine gr_v (ev_lenL hs.strong.len rfl ⟨_, rfl, _, Tryz.runUnderlying35⟩) ?_
          refine gr_v (ev_fa (j := 40) rfl Tryz.runUnderlying38 rfl Tryz.sizeOf35 rfl rfl) ?_
          refine gr_v (ev_ld rfl Tryz.isAgg35 (by first | exact hb1 | exact hL) (by rfl)) ?_
          refine gr_v (ev_lenL hs.coown.len rfl ⟨_, rfl, _, Tryz.runUnderlying35⟩) ?_
          refine gr_v (ev_fa (j := 42) rfl Tryz.runUnderlying38 rfl Tryz.sizeOf35 rfl rfl) ?_
          refine gr_v (ev_ld rfl Tryz.isAgg35 (by first | exact hb1 | exact hL) (by rfl)) ?_
          refine gr_v (ev_lenL hs.nonown.len rfl ⟨_, rfl, _, Tryz.runUnderlying35⟩) ?_
          refine gr_bsl (cs := ((lens14 d).map fun m => Value.int .i64 (m : Nat)).toArray) rfl Tryz.runUnderlying98 Tryz.sizeOf3 Tryz.zeroValue3 (by decide) (by kernel_rfl) ?_
          intro wI hoI hbI hsI
          replace hb1 := hoI _ _ hb1
          replace hL := hoI _ _ hL
          replace hK := hK.old hoI
          refine gr_v (ev_len rfl ⟨_, rfl, _, Tryz.runUnderlying98⟩) ?_
          refine gr_v (ev_mv rfl) ?_
          refine gr_nil ?_
          refine gk_block ?_
          refine gk_loop (fun i : Nat => [(95, .slice (some ⟨_, 0, none⟩) 14 14), (96, .int .i64 ((14 : Nat) : Int)), (97, .int .i64 (i : Int)), (1, ptr lb), (2, .int .i64 (n : Nat)), (3, ptr w.heap.size), (6, .bool false)]) (fun i w' => wI = w' ∧ i ≤ 14 ∧ ∀ j, j < i → (lens14 d)[j]?.getD 0 ≤ 50) (fun i => 14 - i) 0 ⟨rfl, rfl, rfl, rfl, rfl, rfl, rfl, trivial⟩ ⟨rfl, Nat.zero_le _, fun j h => absurd h (by omega)⟩ ?_
          rintro i _ ⟨rfl, hil, hall⟩
          rcases Nat.lt_or_ge i 14 with hi | hge
          · skip
            refine gk_seq ?_
            refine gk_region ?_
            refine gr_bb (ev_lss rfl rfl) (decide_eq_true (by omega)) ?_
            refine gr_nil ?_
            refine gk_seq ?_
            refine gk_true rfl rfl ?_
            refine gk_skip ?_
            refine gk_seq ?_
            refine gk_block ?_
            refine gk_seq ?_
            refine gk_region ?_
            refine gr_v (ev_ix (len := 14) (a' := i) rfl rfl Tryz.runUnderlying98 Tryz.sizeOf3 (by omega) (by omega) (by omega)) ?_
            refine gr_v (ev_ld rfl Tryz.isAgg3 hbI (lens_get hi)) ?_
            refine gr_v (ev_as rfl) ?_
            refine gr_nil ?_
            refine gk_seq ?_
            refine gk_region ?_
            refine gr_v (ev_mv rfl) ?_
            refine gr_call (ec_func Tryz.call36 rfl) (k36' _ _) ?_
            rintro _ _ ⟨⟨b, rfl, h36⟩, rfl⟩
            cases b
            · skip
              refine gr_v (ev_not rfl) ?_
              refine gr_nil ?_
              refine gk_true rfl rfl ?_
              refine gk_seq ?_
              refine gk_region ?_
              refine gr_v (ev_as rfl) ?_
              refine gr_nil ?_
              refine gk_ret1 Tryz.results11 rfl ?_
              exact ⟨_, rfl, false, rfl, hK, fun h => by cases h⟩
            · skip
              refine gr_v (ev_not rfl) ?_
              refine gr_nil ?_
              refine gk_false rfl rfl ?_
              refine gk_skip ?_
              refine gk_endblk ?_
              refine gk_region ?_
              refine gr_v (ev_add (r := ((i + 1 : Nat) : Int)) rfl rfl (by rw [w_i64 (by omega) (by omega)]; omega)) ?_
              refine gr_v (ev_mv rfl) ?_
              refine gr_nil ?_
              refine gk_fin fun a ha => ?_
              exact ⟨i + 1, ha.keep ⟨rfl, rfl, rfl, rfl, rfl, rfl, rfl, trivial⟩, ⟨rfl, hi, all_step hall (h36 rfl)⟩, (by show 14 - (i + 1) < 14 - i; omega)⟩
          · skip
            obtain rfl : i = 14 := by omega
            have c_test4 : d.test4.length ≤ 50 := hall 0 (by decide)
            have c_strs : d.strs.length ≤ 50 := hall 1 (by decide)
            have c_tables : d.tables.length ≤ 50 := hall 2 (by decide)
            have c_bools : d.bools.length ≤ 50 := hall 3 (by decide)
            have c_strs2 : d.strs2.length ≤ 50 := hall 4 (by decide)
            have c_abil : d.abil.length ≤ 50 := hall 5 (by decide)
            have c_test5 : d.test5.length ≤ 50 := hall 6 (by decide)
            have c_longs : d.longs.length ≤ 50 := hall 7 (by decide)
            have c_doubles : d.doubles.length ≤ 50 := hall 8 (by decide)
            have c_refs : d.refs.length ≤ 50 := hall 9 (by decide)
            have c_weak : d.weak.length ≤ 50 := hall 10 (by decide)
            have c_strong : d.strong.length ≤ 50 := hall 11 (by decide)
            have c_coown : d.coown.length ≤ 50 := hall 12 (by decide)
            have c_nonown : d.nonown.length ≤ 50 := hall 13 (by decide)
            clear hall
            refine gk_seq ?_
            refine gk_region ?_
            refine gr_bb (ev_lss rfl rfl) (decide_eq_false (by omega)) ?_
            refine gr_nil ?_
            refine gk_seq ?_
            refine gk_false rfl rfl ?_
            refine gk_exit rfl ?_
            refine gk_seq ?_
            refine gk_draw (fun w' => w'.heap[w.heap.size]? = some (.cells (cells52 d x) 38 (0, 0))) (by kernel_rfl) ?_
            have hS : wI.drew.heap[w.heap.size]? = some (.cells (cells52 d x) 38 (0, 0)) := hb1
            refine ga_take 0 rfl (by kernel_rfl) (fun _ _ => (ev_fa (j := 3) rfl Tryz.runUnderlying38 rfl Tryz.sizeOf9 rfl rfl)) hS ?_
            refine ga_take 1 rfl (by kernel_rfl) (fun _ hs => (ev_ld rfl Tryz.isAgg9 hs (by rfl))) hS ?_
            refine ga_take 2 rfl (by kernel_rfl) (fun _ _ => (ev_fa (j := 4) rfl Tryz.runUnderlying38 rfl Tryz.sizeOf9 rfl rfl)) hS ?_
            refine ga_take 3 rfl (by kernel_rfl) (fun _ hs => (ev_ld rfl Tryz.isAgg9 hs (by rfl))) hS ?_
            refine ga_take 4 rfl (by kernel_rfl) (fun _ _ => (ev_fa (j := 13) rfl Tryz.runUnderlying38 rfl Tryz.sizeOf9 rfl rfl)) hS ?_
            refine ga_take 5 rfl (by kernel_rfl) (fun _ hs => (ev_ld rfl Tryz.isAgg9 hs (by rfl))) hS ?_
            refine ga_take 6 rfl (by kernel_rfl) (fun _ _ => (ev_fa (j := 30) rfl Tryz.runUnderlying38 rfl Tryz.sizeOf9 rfl rfl)) hS ?_
            refine ga_take 7 rfl (by kernel_rfl) (fun _ hs => (ev_ld rfl Tryz.isAgg9 hs (by rfl))) hS ?_
            refine ga_take 8 rfl (by kernel_rfl) (fun _ _ => (ev_fa (j := 49) rfl Tryz.runUnderlying38 rfl Tryz.sizeOf9 rfl rfl)) hS ?_
            refine ga_take 9 rfl (by kernel_rfl) (fun _ hs => (ev_ld rfl Tryz.isAgg9 hs (by rfl))) hS ?_
            refine ga_take 11 rfl (by kernel_rfl) (fun _ _ => (ev_fa (j := 10) rfl Tryz.runUnderlying38 rfl Tryz.sizeOf28 rfl rfl)) hS ?_
            refine ga_take 12 rfl (by kernel_rfl) (fun _ hs => (ev_ld rfl Tryz.isAgg28 hs (by rfl))) hS ?_
            refine ga_take 14 rfl (by kernel_rfl) (fun _ _ => (ev_fa (j := 28) rfl Tryz.runUnderlying38 rfl Tryz.sizeOf28 rfl rfl)) hS ?_
            refine ga_take 15 rfl (by kernel_rfl) (fun _ hs => (ev_ld rfl Tryz.isAgg28 hs (by rfl))) hS ?_
            refine ga_v 10 rfl (by kernel_rfl) (ev_bsl (cs := ((texts0 d).map Value.string).toArray) rfl Tryz.runUnderlying28 Tryz.sizeOf9 Tryz.zeroValue9 (by decide) (by kernel_rfl)) (al_old hS) ?_
            have hoa : Old wI (wI.drew.alloc (.cells ((texts0 d).map Value.string).toArray 9)) := Old.alloc (w := wI.drew)
            have hba : (wI.drew.alloc (.cells ((texts0 d).map Value.string).toArray 9)).heap[wI.heap.size]? = some (.cells ((texts0 d).map Value.string).toArray 9 (0, 0)) := al_new (w := wI.drew)
            generalize wI.drew.alloc (.cells ((texts0 d).map Value.string).toArray 9) = wa at hoa hba ⊢
            have hG0 := grow0 hoa hba (by simp [texts0])
            obtain ⟨hm1, hn1⟩ := rowS.strs (P := Tryz.prog) hs.strs ((hK.old hoa).has hM hlb)
            obtain ⟨v1, wb, hap1, hG1⟩ := grow_steps (t := 28) (T := 28) hG0 Tryz.runUnderlying28 Tryz.typeInfo9 Tryz.sizeOf9 Tryz.zeroValue9 rfl rfl rfl (by simp [texts0]; omega) (by simp [texts0]) hm1 hn1 (by simp) (by simp [one])
            refine ga_v 13 rfl (by kernel_rfl) (ev_append rfl rfl hap1) (hG1.bl.old _ _ hb1) ?_
            obtain ⟨hm2, hn2⟩ := rowS.strs (P := Tryz.prog) hs.strs2 ((hK.old hG1.bl.old).has hM hlb)
            obtain ⟨v2, wc, hap2, hG2⟩ := grow_steps (t := 28) (T := 28) hG1 Tryz.runUnderlying28 Tryz.typeInfo9 Tryz.sizeOf9 Tryz.zeroValue9 rfl rfl rfl (by simp [texts0]; omega) (by simp [texts0]; omega) hm2 hn2 (by simp) (by simp [one])
            refine ga_v 16 rfl (by kernel_rfl) (ev_append rfl rfl hap2) (hG2.bl.old _ _ hb1) ?_
            have hS : wc.heap[w.heap.size]? = some (.cells (cells52 d x) 38 (0, 0)) := hG2.bl.old _ _ hb1
            refine ga_take 17 rfl (by kernel_rfl) (fun _ _ => (ev_as rfl)) hS ?_
            refine ga_nil (by kernel_rfl) ?_
            have hG : GRow 9 1 (fun b => wI.heap[b]?) wI wc (fun b => wI.heap[b]?) v2 (texts d 0).length ((texts d 0).map Value.string) := by
              have e1 : (texts0 d).length + d.strs.length + d.strs2.length = (texts d 0).length := by rw [texts_zero]; simp [Nat.add_assoc]
              rw [← e1, texts_zero, List.map_append, List.map_append]; exact hG2
            clear hG0 hG1 hG2
            refine gk_seq ?_
            refine gk_seq ?_
            refine gk_region ?_
            refine gr_v (ev_fa (j := 14) rfl Tryz.runUnderlying38 rfl Tryz.sizeOf29 rfl rfl) ?_
            refine gr_v (ev_ld rfl Tryz.isAgg29 (hG.bl.old _ _ hb1) (by rfl)) ?_
            refine gr_v (ev_lenL hs.stat.len rfl ⟨_, rfl, _, Tryz.runUnderlying29⟩) ?_
            refine gr_v (ev_mv rfl) ?_
            refine gr_nil ?_
            refine gk_block ?_
            refine gk_loop (fun i : Nat × Value => [(9, i.2), (123, x.stat), (124, .int .i64 d.stat.length), (125, .int .i64 (i.1 : Int)), (1, ptr lb), (2, .int .i64 (n : Nat)), (3, ptr w.heap.size), (6, .bool false)]) (fun i w' => GRow 9 1 (fun b => wI.heap[b]?) wI w' (fun b => wI.heap[b]?) i.2 (texts d i.1).length ((texts d i.1).map Value.string) ∧ i.1 ≤ d.stat.length) (fun i => d.stat.length - i.1) (0, v2) ⟨rfl, rfl, rfl, rfl, rfl, rfl, rfl, rfl, trivial⟩ ⟨hG, Nat.zero_le _⟩ ?_
            clear hG
            rintro ⟨i, vt⟩ wk ⟨hG, hil⟩
            simp only at hG hil
            rcases Nat.lt_or_ge i d.stat.length with hi | hge
            · skip
              obtain ⟨b, o, c, cs, e, fz, hvv, hcs, hle, he⟩ := hs.stat.get hi
              have hsl : d.stat.length ≤ 1 := by have := of_decide_eq_false hd2_24; omega
              refine gk_seq ?_
              refine gk_region ?_
              refine gr_bb (ev_lss rfl rfl) (decide_eq_true (by omega)) ?_
              refine gr_nil ?_
              refine gk_seq ?_
              refine gk_true rfl rfl ?_
              refine gk_skip ?_
              refine gk_seq ?_
              refine gk_block ?_
              refine gk_seq ?_
              refine gk_region ?_
              refine gr_v (ev_ix (len := d.stat.length) (a' := o + i * 3) (by rw [← hvv]; rfl) rfl Tryz.runUnderlying29 Tryz.sizeOf86 (by omega) (by omega) (by omega)) ?_
              refine gr_v (ev_lda rfl Tryz.isAgg86 Tryz.sizeOf86 ((hK.old hG.bl.old).has hM hlb _ _ hcs) (mul_lt_ext hi hle)) ?_
              rw [show cs.extract (o + i * 3) (o + i * 3 + 3) = _ from he]
              refine gr_var Tryz.zeroValue86 Tryz.sizeOf86 rfl rfl rfl (ones_lit rfl) ?_
              intro wk1 ho1 hbv hs1
              refine gr_nil ?_
              refine gk_region ?_
              refine gr_v (ev_mv rfl) ?_
              refine gr_v (ev_fa (j := 0) rfl Tryz.runUnderlying86 rfl Tryz.sizeOf9 rfl rfl) ?_
              refine gr_v (ev_ld rfl Tryz.isAgg9 hbv (by rfl)) ?_
              refine gr_bs (ys := [.string d.stat[i].1]) (sz := 1) rfl rfl rfl Tryz.runUnderlying28 Tryz.sizeOf9 Tryz.zeroValue9 (by decide) rfl ?_
              intro wk2 ho2 hb2 hs2
              obtain ⟨v', wk3, hap, hG4, _⟩ := (hG.more ((Builds.refl hG.bl.has).step (ho1.trans ho2))).step (t := 28) (T := 28) Tryz.runUnderlying28 Tryz.typeInfo9 Tryz.sizeOf9 Tryz.zeroValue9 rfl rfl rfl (by rw [texts_len]; omega) hb2 rfl (by simp [one])
              refine gr_v (ev_append rfl rfl hap) ?_
              refine gr_v (ev_as rfl) ?_
              refine gr_nil ?_
              refine gk_endblk ?_
              refine gk_region ?_
              refine gr_v (ev_add (r := ((i + 1 : Nat) : Int)) rfl rfl (by rw [w_i64 (by omega) (by omega)]; omega)) ?_
              refine gr_v (ev_mv rfl) ?_
              refine gr_nil ?_
              refine gk_fin fun a ha => ?_
              exact ⟨(i + 1, v'), ha.keep ⟨rfl, rfl, rfl, rfl, rfl, rfl, rfl, rfl, trivial⟩, ⟨by rw [texts_succ hi, List.length_append, List.map_append]; exact hG4, hi⟩, (by show d.stat.length - (i + 1) < d.stat.length - i; omega)⟩
            · skip
              obtain rfl : i = d.stat.length := by omega
              have hoT := hG.bl.old
              replace hK := hK.old hoT
              replace hb1 := hoT _ _ hb1
              replace hL := hoT _ _ hL
              have hR := hG.row
              clear hG
              refine gk_seq ?_
              refine gk_region ?_
              refine gr_bb (ev_lss rfl rfl) (decide_eq_false (by omega)) ?_
              refine gr_nil ?_
              refine gk_seq ?_
              refine gk_false rfl rfl ?_
              refine gk_exit rfl ?_
              refine gk_seq ?_
              refine gk_seq ?_
              refine gk_region ?_
              refine gr_v (ev_mv rfl) ?_
              refine gr_v (ev_lenL hR.isLen rfl ⟨_, rfl, _, Tryz.runUnderlying28⟩) ?_
              refine gr_v (ev_mv rfl) ?_
              refine gr_nil ?_
              refine gk_block ?_
              refine gk_loop (fun i : Nat => [(135, vt), (136, .int .i64 (texts d d.stat.length).length), (137, .int .i64 (i : Int)), (1, ptr lb), (2, .int .i64 (n : Nat)), (3, ptr w.heap.size), (6, .bool false)]) (fun i w' => wk = w' ∧ i ≤ (texts d d.stat.length).length ∧ ∀ j, j < i → ((texts d d.stat.length)[j]?.getD ByteArray.empty).size ≤ 300) (fun i => (texts d d.stat.length).length - i) 0 ⟨rfl, rfl, rfl, rfl, rfl, rfl, rfl, trivial⟩ ⟨rfl, Nat.zero_le _, fun j h => absurd h (by omega)⟩ ?_
              rintro i _ ⟨rfl, hil, hall⟩
              rcases Nat.lt_or_ge i (texts d d.stat.length).length with hi | hge
              · skip
                obtain ⟨b, kk, cs, hvv, hcs, hce⟩ := hR.getS hi
                have hlen : (texts d d.stat.length).length ≤ 1000 := by rw [texts_len]; have := of_decide_eq_false hd2_24; omega
                refine gk_seq ?_
                refine gk_region ?_
                refine gr_bb (ev_lss rfl rfl) (decide_eq_true (by omega)) ?_
                refine gr_nil ?_
                refine gk_seq ?_
                refine gk_true rfl rfl ?_
                refine gk_skip ?_
                refine gk_seq ?_
                refine gk_block ?_
                refine gk_seq ?_
                refine gk_region ?_
                refine gr_v (ev_ix (len := (texts d d.stat.length).length) (a' := i) (by rw [← hvv]; rfl) rfl Tryz.runUnderlying28 Tryz.sizeOf9 (by omega) (by omega) (by omega)) ?_
                refine gr_v (ev_ld rfl Tryz.isAgg9 hcs hce) ?_
                refine gr_v (ev_as rfl) ?_
                refine gr_nil ?_
                refine gk_seq ?_
                refine gk_region ?_
                refine gr_v (ev_mv rfl) ?_
                refine gr_v (ev_lens rfl ⟨_, rfl, Tryz.runUnderlying9⟩) ?_
                refine gr_b (ev_gtr rfl rfl) (fun hd19_2 => ?_) (fun hd19_2 => ?_)
                · skip
                  refine gr_nil ?_
                  refine gk_true rfl rfl ?_
                  refine gk_seq ?_
                  refine gk_region ?_
                  refine gr_v (ev_as rfl) ?_
                  refine gr_nil ?_
                  refine gk_ret1 Tryz.results11 rfl ?_
                  exact ⟨_, rfl, false, rfl, hK, fun h => by cases h⟩
                · skip
                  refine gr_nil ?_
                  refine gk_false rfl rfl ?_
                  refine gk_skip ?_
                  refine gk_endblk ?_
                  refine gk_region ?_
                  refine gr_v (ev_add (r := ((i + 1 : Nat) : Int)) rfl rfl (by rw [w_i64 (by omega) (by omega)]; omega)) ?_
                  refine gr_v (ev_mv rfl) ?_
                  refine gr_nil ?_
                  refine gk_fin fun a ha => ?_
                  exact ⟨i + 1, ha.keep ⟨rfl, rfl, rfl, rfl, rfl, rfl, rfl, trivial⟩, ⟨rfl, hi, all_step hall (by have := of_decide_eq_false hd19_2; omega)⟩, (by show (texts d d.stat.length).length - (i + 1) < (texts d d.stat.length).length - i; omega)⟩
              · skip
                obtain rfl : i = (texts d d.stat.length).length := by omega
                have hT300 := mem_all hall rfl
                clear hall hR
                refine gk_seq ?_
                refine gk_region ?_
                refine gr_bb (ev_lss rfl rfl) (decide_eq_false (by omega)) ?_
                refine gr_nil ?_
                refine gk_seq ?_
                refine gk_false rfl rfl ?_
                refine gk_exit rfl ?_
                refine gk_seq ?_
                refine gk_seq ?_
                refine gk_region ?_
                refine gr_v (ev_fa (j := 0) rfl Tryz.runUnderlying38 rfl Tryz.sizeOf22 rfl rfl) ?_
                refine gr_v (ev_ld rfl Tryz.isAgg22 (by first | exact hb1 | exact hL) (by rfl)) ?_
                refine gr_v (ev_lenL hs.pos.len rfl ⟨_, rfl, _, Tryz.runUnderlying22⟩) ?_
                refine gr_v (ev_mv rfl) ?_
                refine gr_nil ?_
                refine gk_block ?_
                refine gk_loop (fun i : Nat => [(146, x.pos), (147, .int .i64 d.pos.length), (148, .int .i64 (i : Int)), (1, ptr lb), (2, .int .i64 (n : Nat)), (3, ptr w.heap.size), (6, .bool false)]) (fun i w' => KeepL lb w w' ∧ w'.heap[w.heap.size]? = some (.cells (cells52 d x) 38 (0, 0)) ∧ w'.heap[lb]? = some (.cells #[.int .i64 (Lm : Nat)] 3 (0, 0)) ∧ i ≤ d.pos.length) (fun i => d.pos.length - i) 0 ⟨rfl, rfl, rfl, rfl, rfl, rfl, rfl, trivial⟩ ⟨hK, hb1, hL, Nat.zero_le _⟩ ?_
                clear hK hb1 hL
                rintro i wp ⟨hK, hb1, hL, hil⟩
                rcases Nat.lt_or_ge i d.pos.length with hi | hge
                · skip
                  obtain ⟨b, o, c, cs, e, fz, hvv, hcs, hle, he⟩ := hs.pos.get hi
                  have hpl : d.pos.length ≤ 1 := by have := of_decide_eq_false hd2_12; omega
                  refine gk_seq ?_
                  refine gk_region ?_
                  refine gr_bb (ev_lss rfl rfl) (decide_eq_true (by omega)) ?_
                  refine gr_nil ?_
                  refine gk_seq ?_
                  refine gk_true rfl rfl ?_
                  refine gk_skip ?_
                  refine gk_seq ?_
                  refine gk_block ?_
                  refine gk_seq ?_
                  refine gk_region ?_
                  refine gr_v (ev_ix (len := d.pos.length) (a' := o + i * 7) (by rw [← hvv]; rfl) rfl Tryz.runUnderlying22 Tryz.sizeOf75 (by omega) (by omega) (by omega)) ?_
                  refine gr_v (ev_lda rfl Tryz.isAgg75 Tryz.sizeOf75 (hK.has hM hlb _ _ hcs) (mul_lt_ext hi hle)) ?_
                  rw [show cs.extract (o + i * 7) (o + i * 7 + 7) = _ from he]
                  refine gr_var Tryz.zeroValue75 Tryz.sizeOf75 rfl rfl rfl (ones_lit rfl) ?_
                  intro wp1 hop hbv hsp
                  replace hK := hK.old hop
                  replace hb1 := hop _ _ hb1
                  replace hL := hop _ _ hL
                  refine gr_nil ?_
                  refine gk_seq ?_
                  refine gk_region ?_
                  refine gr_v (ev_fa (j := 0) rfl Tryz.runUnderlying75 rfl Tryz.sizeOf30 rfl rfl) ?_
                  refine gr_v (ev_ld rfl Tryz.isAgg30 (by first | exact hb1 | exact hL | exact hbv) (by rfl)) ?_
                  refine gr_v (ev_cv rfl ⟨_, Tryz.runUnderlying30⟩ Tryz.runUnderlying31 rfl) ?_
                  refine gr_call (ec_func Tryz.call37 rfl) (k37_9 _ _) ?_
                  rintro _ _ ⟨⟨b, rfl⟩, rfl⟩
                  cases b
                  · skip
                    refine gr_v (ev_not rfl) ?_
                    refine gr_v (ev_mv rfl) ?_
                    refine gr_gs rfl rfl rfl ?_
                    refine gr_gs rfl rfl rfl ?_
                    refine gr_gs rfl rfl rfl ?_
                    refine gr_gs rfl rfl rfl ?_
                    refine gr_gs rfl rfl rfl ?_
                    refine gr_v (ev_pickT rfl rfl rfl) ?_
                    refine gr_v (ev_mv rfl) ?_
                    refine gr_gs rfl rfl rfl ?_
                    refine gr_gs rfl rfl rfl ?_
                    refine gr_gs rfl rfl rfl ?_
                    refine gr_gs rfl rfl rfl ?_
                    refine gr_gs rfl rfl rfl ?_
                    refine gr_v (ev_pickT rfl rfl rfl) ?_
                    refine gr_v (ev_mv rfl) ?_
                    refine gr_gs rfl rfl rfl ?_
                    refine gr_gs rfl rfl rfl ?_
                    refine gr_gs rfl rfl rfl ?_
                    refine gr_gs rfl rfl rfl ?_
                    refine gr_v (ev_pickT rfl rfl rfl) ?_
                    refine gr_nil ?_
                    refine gk_true rfl rfl ?_
                    refine gk_seq ?_
                    refine gk_region ?_
                    refine gr_v (ev_as rfl) ?_
                    refine gr_nil ?_
                    refine gk_ret1 Tryz.results11 rfl ?_
                    exact ⟨_, rfl, false, rfl, hK, fun h => by cases h⟩
                  · skip
                    refine gr_v (ev_not rfl) ?_
                    refine gr_v (ev_mv rfl) ?_
                    refine gr_gv rfl rfl rfl (ev_fa (j := 1) rfl Tryz.runUnderlying75 rfl Tryz.sizeOf30 rfl rfl) ?_
                    refine gr_gv rfl rfl rfl (ev_ld rfl Tryz.isAgg30 (by first | exact hb1 | exact hL | exact hbv) (by rfl)) ?_
                    refine gr_gv rfl rfl rfl (ev_cv rfl ⟨_, Tryz.runUnderlying30⟩ Tryz.runUnderlying31 rfl) ?_
                    refine gr_gcall rfl rfl rfl (ec_func Tryz.call37 rfl) (k37_9 _ _) ?_
                    rintro _ _ ⟨⟨b, rfl⟩, rfl⟩
                    cases b
                    · skip
                      refine gr_gv rfl rfl rfl (ev_not rfl) ?_
                      refine gr_v (ev_pickF rfl rfl rfl) ?_
                      refine gr_v (ev_mv rfl) ?_
                      refine gr_gs rfl rfl rfl ?_
                      refine gr_gs rfl rfl rfl ?_
                      refine gr_gs rfl rfl rfl ?_
                      refine gr_gs rfl rfl rfl ?_
                      refine gr_gs rfl rfl rfl ?_
                      refine gr_v (ev_pickT rfl rfl rfl) ?_
                      refine gr_v (ev_mv rfl) ?_
                      refine gr_gs rfl rfl rfl ?_
                      refine gr_gs rfl rfl rfl ?_
                      refine gr_gs rfl rfl rfl ?_
                      refine gr_gs rfl rfl rfl ?_
                      refine gr_v (ev_pickT rfl rfl rfl) ?_
                      refine gr_nil ?_
                      refine gk_true rfl rfl ?_
                      refine gk_seq ?_
                      refine gk_region ?_
                      refine gr_v (ev_as rfl) ?_
                      refine gr_nil ?_
                      refine gk_ret1 Tryz.results11 rfl ?_
                      exact ⟨_, rfl, false, rfl, hK, fun h => by cases h⟩
                    · skip
                      refine gr_gv rfl rfl rfl (ev_not rfl) ?_
                      refine gr_v (ev_pickF rfl rfl rfl) ?_
                      refine gr_v (ev_mv rfl) ?_
                      refine gr_gv rfl rfl rfl (ev_fa (j := 2) rfl Tryz.runUnderlying75 rfl Tryz.sizeOf30 rfl rfl) ?_
                      refine gr_gv rfl rfl rfl (ev_ld rfl Tryz.isAgg30 (by first | exact hb1 | exact hL | exact hbv) (by rfl)) ?_
                      refine gr_gv rfl rfl rfl (ev_cv rfl ⟨_, Tryz.runUnderlying30⟩ Tryz.runUnderlying31 rfl) ?_
                      refine gr_gcall rfl rfl rfl (ec_func Tryz.call37 rfl) (k37_9 _ _) ?_
                      rintro _ _ ⟨⟨b, rfl⟩, rfl⟩
                      cases b
                      · skip
                        refine gr_gv rfl rfl rfl (ev_not rfl) ?_
                        refine gr_v (ev_pickF rfl rfl rfl) ?_
                        refine gr_v (ev_mv rfl) ?_
                        refine gr_gs rfl rfl rfl ?_
                        refine gr_gs rfl rfl rfl ?_
                        refine gr_gs rfl rfl rfl ?_
                        refine gr_gs rfl rfl rfl ?_
                        refine gr_v (ev_pickT rfl rfl rfl) ?_
                        refine gr_nil ?_
                        refine gk_true rfl rfl ?_
                        refine gk_seq ?_
                        refine gk_region ?_
                        refine gr_v (ev_as rfl) ?_
                        refine gr_nil ?_
                        refine gk_ret1 Tryz.results11 rfl ?_
                        exact ⟨_, rfl, false, rfl, hK, fun h => by cases h⟩
                      · skip
                        refine gr_gv rfl rfl rfl (ev_not rfl) ?_
                        refine gr_v (ev_pickF rfl rfl rfl) ?_
                        refine gr_v (ev_mv rfl) ?_
                        refine gr_gv rfl rfl rfl (ev_fa (j := 3) rfl Tryz.runUnderlying75 rfl Tryz.sizeOf31 rfl rfl) ?_
                        refine gr_gv rfl rfl rfl (ev_ld rfl Tryz.isAgg31 (by first | exact hb1 | exact hL | exact hbv) (by rfl)) ?_
                        refine gr_gcall rfl rfl rfl (ec_func Tryz.call37 rfl) (k37_10 _ _) ?_
                        rintro _ _ ⟨⟨b, rfl⟩, rfl⟩
                        cases b
                        · skip
                          refine gr_gv rfl rfl rfl (ev_not rfl) ?_
                          refine gr_v (ev_pickF rfl rfl rfl) ?_
                          refine gr_nil ?_
                          refine gk_true rfl rfl ?_
                          refine gk_seq ?_
                          refine gk_region ?_
                          refine gr_v (ev_as rfl) ?_
                          refine gr_nil ?_
                          refine gk_ret1 Tryz.results11 rfl ?_
                          exact ⟨_, rfl, false, rfl, hK, fun h => by cases h⟩
                        · skip
                          refine gr_gv rfl rfl rfl (ev_not rfl) ?_
                          refine gr_v (ev_pickF rfl rfl rfl) ?_
                          refine gr_nil ?_
                          refine gk_false rfl rfl ?_
                          refine gk_skip ?_
                          refine gk_endblk ?_
                          refine gk_region ?_
                          refine gr_v (ev_add (r := ((i + 1 : Nat) : Int)) rfl rfl (by rw [w_i64 (by omega) (by omega)]; omega)) ?_
                          refine gr_v (ev_mv rfl) ?_
                          refine gr_nil ?_
                          refine gk_fin fun a ha => ?_
                          exact ⟨i + 1, ha.keep ⟨rfl, rfl, rfl, rfl, rfl, rfl, rfl, trivial⟩, ⟨hK, hb1, hL, hi⟩, (by show d.pos.length - (i + 1) < d.pos.length - i; omega)⟩
                · skip
                  refine gk_seq ?_
                  refine gk_region ?_
                  refine gr_bb (ev_lss rfl rfl) (decide_eq_false (by omega)) ?_
                  refine gr_nil ?_
                  refine gk_seq ?_
                  refine gk_false rfl rfl ?_
                  refine gk_exit rfl ?_
                  refine gk_seq ?_
                  refine gk_seq ?_
                  refine gk_region ?_
                  refine gr_v (ev_fa (j := 33) rfl Tryz.runUnderlying38 rfl Tryz.sizeOf35 rfl rfl) ?_
                  refine gr_v (ev_ld rfl Tryz.isAgg35 (by first | exact hb1 | exact hL) (by rfl)) ?_
                  refine gr_v (ev_lenL hs.doubles.len rfl ⟨_, rfl, _, Tryz.runUnderlying35⟩) ?_
                  refine gr_v (ev_mv rfl) ?_
                  refine gr_nil ?_
                  refine gk_block ?_
                  refine gk_loop (fun i : Nat => [(179, x.doubles), (180, .int .i64 d.doubles.length), (181, .int .i64 (i : Int)), (1, ptr lb), (2, .int .i64 (n : Nat)), (3, ptr w.heap.size), (6, .bool false)]) (fun i w' => wp = w' ∧ i ≤ d.doubles.length) (fun i => d.doubles.length - i) 0 ⟨rfl, rfl, rfl, rfl, rfl, rfl, rfl, trivial⟩ ⟨rfl, Nat.zero_le _⟩ ?_
                  rintro i _ ⟨rfl, hil⟩
                  rcases Nat.lt_or_ge i d.doubles.length with hi | hge
                  · skip
                    obtain ⟨b, o, c, cs, e, fz, y, hvv, hcs, hle, hy, rfl⟩ := hs.doubles.get hi
                    refine gk_seq ?_
                    refine gk_region ?_
                    refine gr_bb (ev_lss rfl rfl) (decide_eq_true (by omega)) ?_
                    refine gr_nil ?_
                    refine gk_seq ?_
                    refine gk_true rfl rfl ?_
                    refine gk_skip ?_
                    refine gk_seq ?_
                    refine gk_block ?_
                    refine gk_seq ?_
                    refine gk_region ?_
                    refine gr_v (ev_ix (len := d.doubles.length) (a' := o + i) (by rw [← hvv]; rfl) rfl Tryz.runUnderlying35 Tryz.sizeOf31 (by omega) (by omega) (by omega)) ?_
                    refine gr_v (ev_ld rfl Tryz.isAgg31 (hK.has hM hlb _ _ hcs) hy) ?_
                    refine gr_v (ev_as rfl) ?_
                    refine gr_nil ?_
                    refine gk_seq ?_
                    refine gk_region ?_
                    refine gr_v (ev_mv rfl) ?_
                    refine gr_call (ec_func Tryz.call37 rfl) (k37_10 _ _) ?_
                    rintro _ _ ⟨⟨b, rfl⟩, rfl⟩
                    cases b
                    · skip
                      refine gr_v (ev_not rfl) ?_
                      refine gr_nil ?_
                      refine gk_true rfl rfl ?_
                      refine gk_seq ?_
                      refine gk_region ?_
                      refine gr_v (ev_as rfl) ?_
                      refine gr_nil ?_
                      refine gk_ret1 Tryz.results11 rfl ?_
                      exact ⟨_, rfl, false, rfl, hK, fun h => by cases h⟩
                    · skip
                      refine gr_v (ev_not rfl) ?_
                      refine gr_nil ?_
                      refine gk_false rfl rfl ?_
                      refine gk_skip ?_
                      refine gk_endblk ?_
                      refine gk_region ?_
                      refine gr_v (ev_add (r := ((i + 1 : Nat) : Int)) rfl rfl (by rw [w_i64 (by omega) (by omega)]; omega)) ?_
                      refine gr_v (ev_mv rfl) ?_
                      refine gr_nil ?_
                      refine gk_fin fun a ha => ?_
                      exact ⟨i + 1, ha.keep ⟨rfl, rfl, rfl, rfl, rfl, rfl, rfl, trivial⟩, ⟨rfl, hi⟩, (by show d.doubles.length - (i + 1) < d.doubles.length - i; omega)⟩
                  · skip
                    refine gk_seq ?_
                    refine gk_region ?_
                    refine gr_bb (ev_lss rfl rfl) (decide_eq_false (by omega)) ?_
                    refine gr_nil ?_
                    refine gk_seq ?_
                    refine gk_false rfl rfl ?_
                    refine gk_exit rfl ?_
                    refine gk_seq ?_
                    refine gk_seq ?_
                    refine gk_region ?_
                    refine gr_v (ev_fa (j := 25) rfl Tryz.runUnderlying38 rfl Tryz.sizeOf30 rfl rfl) ?_
                    refine gr_v (ev_ld rfl Tryz.isAgg30 (by first | exact hb1 | exact hL) (by rfl)) ?_
                    refine gr_v (ev_cv rfl ⟨_, Tryz.runUnderlying30⟩ Tryz.runUnderlying31 rfl) ?_
                    refine gr_call (ec_func Tryz.call37 rfl) (k37_9 _ _) ?_
                    rintro _ _ ⟨⟨b, rfl⟩, rfl⟩
                    cases b
                    · skip
                      refine gr_v (ev_not rfl) ?_
                      refine gr_v (ev_mv rfl) ?_
                      refine gr_gs rfl rfl rfl ?_
                      refine gr_gs rfl rfl rfl ?_
                      refine gr_gs rfl rfl rfl ?_
                      refine gr_gs rfl rfl rfl ?_
                      refine gr_gs rfl rfl rfl ?_
                      refine gr_v (ev_pickT rfl rfl rfl) ?_
                      refine gr_v (ev_mv rfl) ?_
                      refine gr_gs rfl rfl rfl ?_
                      refine gr_gs rfl rfl rfl ?_
                      refine gr_gs rfl rfl rfl ?_
                      refine gr_gs rfl rfl rfl ?_
                      refine gr_gs rfl rfl rfl ?_
                      refine gr_v (ev_pickT rfl rfl rfl) ?_
                      refine gr_nil ?_
                      refine gk_true rfl rfl ?_
                      refine gk_seq ?_
                      refine gk_region ?_
                      refine gr_v (ev_as rfl) ?_
                      refine gr_nil ?_
                      refine gk_ret1 Tryz.results11 rfl ?_
                      exact ⟨_, rfl, false, rfl, hK, fun h => by cases h⟩
                    · skip
                      refine gr_v (ev_not rfl) ?_
                      refine gr_v (ev_mv rfl) ?_
                      refine gr_gv rfl rfl rfl (ev_fa (j := 26) rfl Tryz.runUnderlying38 rfl Tryz.sizeOf30 rfl rfl) ?_
                      refine gr_gv rfl rfl rfl (ev_ld rfl Tryz.isAgg30 (by first | exact hb1 | exact hL) (by rfl)) ?_
                      refine gr_gv rfl rfl rfl (ev_cv rfl ⟨_, Tryz.runUnderlying30⟩ Tryz.runUnderlying31 rfl) ?_
                      refine gr_gcall rfl rfl rfl (ec_func Tryz.call37 rfl) (k37_9 _ _) ?_
                      rintro _ _ ⟨⟨b, rfl⟩, rfl⟩
                      cases b
                      · skip
                        refine gr_gv rfl rfl rfl (ev_not rfl) ?_
                        refine gr_v (ev_pickF rfl rfl rfl) ?_
                        refine gr_v (ev_mv rfl) ?_
                        refine gr_gs rfl rfl rfl ?_
                        refine gr_gs rfl rfl rfl ?_
                        refine gr_gs rfl rfl rfl ?_
                        refine gr_gs rfl rfl rfl ?_
                        refine gr_gs rfl rfl rfl ?_
                        refine gr_v (ev_pickT rfl rfl rfl) ?_
                        refine gr_nil ?_
                        refine gk_true rfl rfl ?_
                        refine gk_seq ?_
                        refine gk_region ?_
                        refine gr_v (ev_as rfl) ?_
                        refine gr_nil ?_
                        refine gk_ret1 Tryz.results11 rfl ?_
                        exact ⟨_, rfl, false, rfl, hK, fun h => by cases h⟩
                      · skip
                        refine gr_gv rfl rfl rfl (ev_not rfl) ?_
                        refine gr_v (ev_pickF rfl rfl rfl) ?_
                        refine gr_v (ev_mv rfl) ?_
                        refine gr_gv rfl rfl rfl (ev_fa (j := 27) rfl Tryz.runUnderlying38 rfl Tryz.sizeOf30 rfl rfl) ?_
                        refine gr_gv rfl rfl rfl (ev_ld rfl Tryz.isAgg30 (by first | exact hb1 | exact hL) (by rfl)) ?_
                        refine gr_gv rfl rfl rfl (ev_cv rfl ⟨_, Tryz.runUnderlying30⟩ Tryz.runUnderlying31 rfl) ?_
                        refine gr_gcall rfl rfl rfl (ec_func Tryz.call37 rfl) (k37_9 _ _) ?_
                        rintro _ _ ⟨⟨b, rfl⟩, rfl⟩
                        cases b
                        · skip
                          refine gr_gv rfl rfl rfl (ev_not rfl) ?_
                          refine gr_v (ev_pickF rfl rfl rfl) ?_
                          refine gr_nil ?_
                          refine gk_true rfl rfl ?_
                          refine gk_seq ?_
                          refine gk_region ?_
                          refine gr_v (ev_as rfl) ?_
                          refine gr_nil ?_
                          refine gk_ret1 Tryz.results11 rfl ?_
                          exact ⟨_, rfl, false, rfl, hK, fun h => by cases h⟩
                        · skip
                          refine gr_gv rfl rfl rfl (ev_not rfl) ?_
                          refine gr_v (ev_pickF rfl rfl rfl) ?_
                          refine gr_nil ?_
                          refine gk_false rfl rfl ?_
                          refine gk_skip ?_
                          refine gk_seq ?_
                          refine gk_seq ?_
                          refine gk_region ?_
                          refine gr_v (ev_fa (j := 11) rfl Tryz.runUnderlying38 rfl Tryz.sizeOf24 rfl rfl) ?_
                          refine gr_v (ev_ld rfl Tryz.isAgg24 (by first | exact hb1 | exact hL) (by rfl)) ?_
                          refine gr_v (ev_fa (j := 12) rfl Tryz.runUnderlying38 rfl Tryz.sizeOf24 rfl rfl) ?_
                          refine gr_v (ev_ld rfl Tryz.isAgg24 (by first | exact hb1 | exact hL) (by rfl)) ?_
                          have hLp := hL
                          obtain ⟨a9, n9, c9, e9⟩ := hs.tables.isS
                          obtain ⟨a10, n10, c10, e10⟩ := hs.enemy.isS
                          refine gr_bsl (vs := [(0, x.tables), (1, x.enemy)]) (cs := #[x.tables, x.enemy]) rfl Tryz.runUnderlying101 Tryz.sizeOf24 Tryz.zeroValue24 (by decide) (by rw [e9, e10]; kernel_rfl) ?_
                          intro wT hoT2 hbT hsT
                          replace hK := hK.old hoT2
                          replace hb1 := hoT2 _ _ hb1
                          replace hL := hoT2 _ _ hL
                          have hneT : wp.heap.size ≠ lb := fun e => by have := lt_of_heap hL; have h2 := lt_of_heap hLp; omega
                          refine gr_v (ev_len rfl ⟨_, rfl, _, Tryz.runUnderlying101⟩) ?_
                          refine gr_v (ev_mv rfl) ?_
                          refine gr_nil ?_
                          refine gk_block ?_
                          refine gk_loop (fun i : Nat × Nat × List PK × List PK => [(214, .int .i64 (i.1 : Int)), (212, .slice (some ⟨wp.heap.size, 0, none⟩) 2 2), (213, .int .i64 ((2 : Nat) : Int)), (1, ptr lb), (2, .int .i64 (n : Nat)), (3, ptr w.heap.size), (6, .bool false)]) (fun i w' => KeepL lb w w' ∧ w'.heap[w.heap.size]? = some (.cells (cells52 d x) 38 (0, 0)) ∧ w'.heap[wp.heap.size]? = some (.cells #[x.tables, x.enemy] 24 (0, 0)) ∧ w'.heap[lb]? = some (.cells #[.int .i64 (i.2.1 : Nat)] 3 (0, 0)) ∧ i.1 ≤ 2 ∧ i.2.1 ≤ Lm ∧ (1 ≤ i.1 → i.2.2.1.length = d.tables.length) ∧ (2 ≤ i.1 → i.2.2.2.length = d.enemy.length) ∧ ∃ k1 k2, Subs M x.tables i.2.2.1 k1 ∧ Subs M x.enemy i.2.2.2 k2 ∧ k1 + k2 ≤ 130000 * (Lm - i.2.1)) (fun i => 2 - i.1) (0, Lm, [], []) ⟨rfl, rfl, rfl, rfl, rfl, rfl, rfl, trivial⟩ ⟨hK, hb1, hbT, hL, Nat.zero_le _, Nat.le_refl _, fun h => absurd h (by show ¬ 1 ≤ 0; decide), fun h => absurd h (by show ¬ 2 ≤ 0; decide), 0, 0, Subs.nil, Subs.nil, Nat.zero_le _⟩ ?_
                          clear hK hb1 hL hbT
                          rintro ⟨oo, La, pt, pe⟩ wo ⟨hK, hb1, hbT, hL, hol, hLa, hpt, hpe, k1, k2, hSt, hSe, hkk⟩
                          simp only at hK hb1 hbT hL hol hLa hpt hpe hSt hSe hkk
                          rcases Nat.lt_or_ge oo 2 with hoo | hge
                          · skip
                            obtain ⟨vo, lo, hvo, hro, hwho⟩ : ∃ (vo : Value) (lo : List PK), #[x.tables, x.enemy][oo]? = some vo ∧ rowM 51 M vo lo (fun cs (_ : PK) => MonR n M cs) ∧ ((oo = 0 ∧ vo = x.tables ∧ lo = d.tables) ∨ (oo = 1 ∧ vo = x.enemy ∧ lo = d.enemy)) := by
                              rcases (show oo = 0 ∨ oo = 1 by omega) with rfl | rfl
                              · exact ⟨_, _, rfl, hs.tables, .inl ⟨rfl, rfl, rfl⟩⟩
                              · exact ⟨_, _, rfl, hs.enemy, .inr ⟨rfl, rfl, rfl⟩⟩
                            obtain ⟨va, vc, hvl⟩ := hro.len
                            have hlo : lo.length ≤ 50 := by
                              rcases hwho with ⟨_, _, rfl⟩ | ⟨_, _, rfl⟩
                              · exact c_tables
                              · have := of_decide_eq_false hd2_18; omega
                            refine gk_seq ?_
                            refine gk_region ?_
                            refine gr_bb (ev_lss rfl rfl) (decide_eq_true (by omega)) ?_
                            refine gr_nil ?_
                            refine gk_seq ?_
                            refine gk_true rfl rfl ?_
                            refine gk_skip ?_
                            refine gk_seq ?_
                            refine gk_block ?_
                            refine gk_seq ?_
                            refine gk_region ?_
                            refine gr_v (ev_ix (len := 2) (a' := oo) rfl rfl Tryz.runUnderlying101 Tryz.sizeOf24 (by omega) (by omega) (by omega)) ?_
                            refine gr_v (ev_ld rfl Tryz.isAgg24 hbT hvo) ?_
                            refine gr_v (ev_as rfl) ?_
                            refine gr_nil ?_
                            refine gk_seq ?_
                            refine gk_region ?_
                            refine gr_v (ev_mv rfl) ?_
                            refine gr_v (ev_lenL hro.len rfl ⟨_, rfl, _, Tryz.runUnderlying24⟩) ?_
                            refine gr_v (ev_mv rfl) ?_
                            refine gr_nil ?_
                            refine gk_block ?_
                            refine gk_loop (fun i : Nat × Nat × List PK => [(218, vo), (219, .int .i64 lo.length), (220, .int .i64 (i.1 : Int)), (214, .int .i64 (oo : Int)), (212, .slice (some ⟨wp.heap.size, 0, none⟩) 2 2), (213, .int .i64 ((2 : Nat) : Int)), (1, ptr lb), (2, .int .i64 (n : Nat)), (3, ptr w.heap.size), (6, .bool false)]) (fun i w' => KeepL lb w w' ∧ w'.heap[w.heap.size]? = some (.cells (cells52 d x) 38 (0, 0)) ∧ w'.heap[wp.heap.size]? = some (.cells #[x.tables, x.enemy] 24 (0, 0)) ∧ w'.heap[lb]? = some (.cells #[.int .i64 (i.2.1 : Nat)] 3 (0, 0)) ∧ i.1 ≤ lo.length ∧ i.2.1 ≤ La ∧ i.2.2.length = i.1 ∧ Subs M vo i.2.2 (130000 * (La - i.2.1))) (fun i => lo.length - i.1) (0, La, []) ⟨rfl, rfl, rfl, rfl, rfl, rfl, rfl, rfl, rfl, rfl, trivial⟩ ⟨hK, hb1, hbT, hL, Nat.zero_le _, Nat.le_refl _, rfl, Subs.nil⟩ ?_
                            clear hK hb1 hL hbT
                            rintro ⟨i, Lc, pks⟩ wi ⟨hK, hb1, hbT, hL, hil, hLc, hpl, hSp⟩
                            simp only at hK hb1 hbT hL hil hLc hpl hSp
                            rcases Nat.lt_or_ge i lo.length with hi | hge
                            · skip
                              obtain ⟨b, o, c, cs, e, fz, hvv, hcs, hle, hel, he⟩ := hro.elt hi
                              refine gk_seq ?_
                              refine gk_region ?_
                              refine gr_bb (ev_lss rfl rfl) (decide_eq_true (by omega)) ?_
                              refine gr_nil ?_
                              refine gk_seq ?_
                              refine gk_true rfl rfl ?_
                              refine gk_skip ?_
                              refine gk_seq ?_
                              refine gk_block ?_
                              refine gk_seq ?_
                              refine gk_region ?_
                              refine gr_v (ev_ix (len := lo.length) (a' := o + i * 51) (by rw [← hvv]; rfl) rfl Tryz.runUnderlying24 Tryz.sizeOf38 (by omega) (by omega) (by omega)) ?_
                              refine gr_v (show EV _ _ _ _ _ (.agg (elA 51 M vo i)) _ from hel ▸ ev_lda rfl Tryz.isAgg38 Tryz.sizeOf38 (hK.has hM hlb _ _ hcs) (mul_lt_ext hi hle)) ?_
                              refine gr_var Tryz.zeroValue38 Tryz.sizeOf38 rfl rfl he.ok.1 he.ok.2 ?_
                              intro wi1 hoi hbv hsi
                              replace hK := hK.old hoi
                              replace hb1 := hoi _ _ hb1
                              replace hbT := hoi _ _ hbT
                              replace hL := hoi _ _ hL
                              refine gr_nil ?_
                              refine gk_seq ?_
                              refine gk_region ?_
                              refine gr_v (ev_ldall rfl Tryz.isAgg38 Tryz.sizeOf38 hbv he.ok.1) ?_
                              refine gr_v (ev_mv rfl) ?_
                              refine gr_v (ev_mv rfl) ?_
                              refine gr_v (ev_sub (r := (n : Int) - 1) rfl rfl (w_i64 (by omega) (by omega))) ?_
                              refine gr_call (ec_func Tryz.call11 rfl) (ih M _ Lc wi1 lb he (hK.has hM hlb) hlb hL (by omega) (by omega)) ?_
                              rintro _ wi2 ⟨b2, rfl, hK2, h2⟩
                              replace hK := hK.trans hK2
                              replace hb1 := hK2 _ _ hne hb1
                              replace hbT := hK2 _ _ hneT hbT
                              clear hL
                              cases b2
                              · skip
                                refine gr_v (ev_not rfl) ?_
                                refine gr_nil ?_
                                refine gk_true rfl rfl ?_
                                refine gk_seq ?_
                                refine gk_region ?_
                                refine gr_v (ev_as rfl) ?_
                                refine gr_nil ?_
                                refine gk_ret1 Tryz.results11 rfl ?_
                                exact ⟨_, rfl, false, rfl, hK, fun h => by cases h⟩
                              · skip
                                obtain ⟨L', h3, hL, pk, h5, h6⟩ := h2 rfl
                                refine gr_v (ev_not rfl) ?_
                                refine gr_nil ?_
                                refine gk_false rfl rfl ?_
                                refine gk_skip ?_
                                refine gk_endblk ?_
                                refine gk_region ?_
                                refine gr_v (ev_add (r := ((i + 1 : Nat) : Int)) rfl rfl (by rw [w_i64 (by omega) (by omega)]; omega)) ?_
                                refine gr_v (ev_mv rfl) ?_
                                refine gr_nil ?_
                                refine gk_fin fun a ha => ?_
                                have ek : 130000 * (La - Lc) + 130000 * (Lc - L') = 130000 * (La - L') := by omega
                                exact ⟨(i + 1, L', pks ++ [pk]), ha.keep ⟨rfl, rfl, rfl, rfl, rfl, rfl, rfl, rfl, rfl, rfl, trivial⟩, ⟨hK, hb1, hbT, hL, hi, Nat.le_trans h3 hLc, by simp [hpl], ek ▸ hSp.snoc hpl h5 h6⟩, (by show lo.length - (i + 1) < lo.length - i; omega)⟩
                            · skip
                              obtain rfl : i = lo.length := by omega
                              refine gk_seq ?_
                              refine gk_region ?_
                              refine gr_bb (ev_lss rfl rfl) (decide_eq_false (by omega)) ?_
                              refine gr_nil ?_
                              refine gk_seq ?_
                              refine gk_false rfl rfl ?_
                              refine gk_exit rfl ?_
                              refine gk_endblk ?_
                              refine gk_region ?_
                              refine gr_v (ev_add (r := ((oo + 1 : Nat) : Int)) rfl rfl (by rw [w_i64 (by omega) (by omega)]; omega)) ?_
                              refine gr_v (ev_mv rfl) ?_
                              refine gr_nil ?_
                              refine gk_fin fun a ha => ?_
                              rcases hwho with ⟨rfl, rfl, rfl⟩ | ⟨rfl, rfl, rfl⟩
                              · exact ⟨(1, Lc, pks, pe), ha.keep ⟨rfl, rfl, rfl, rfl, rfl, rfl, rfl, trivial⟩, ⟨hK, hb1, hbT, hL, (by show 1 ≤ 2; decide), Nat.le_trans hLc hLa, fun _ => hpl, fun h => absurd h (by show ¬ 2 ≤ 1; decide), _, k2, hSp, hSe, by show 130000 * (La - Lc) + k2 ≤ 130000 * (Lm - Lc); omega⟩, (by show 2 - 1 < 2 - 0; decide)⟩
                              · exact ⟨(2, Lc, pt, pks), ha.keep ⟨rfl, rfl, rfl, rfl, rfl, rfl, rfl, trivial⟩, ⟨hK, hb1, hbT, hL, (by show 2 ≤ 2; decide), Nat.le_trans hLc hLa, fun _ => hpt (by decide), fun _ => hpl, k1, _, hSt, hSp, by show k1 + 130000 * (La - Lc) ≤ 130000 * (Lm - Lc); omega⟩, (by show 2 - 2 < 2 - 1; decide)⟩
                          · skip
                            obtain rfl : oo = 2 := by omega
                            replace hpt := hpt (by decide)
                            replace hpe := hpe (by decide)
                            refine gk_seq ?_
                            refine gk_region ?_
                            refine gr_bb (ev_lss rfl rfl) (decide_eq_false (by omega)) ?_
                            refine gr_nil ?_
                            refine gk_seq ?_
                            refine gk_false rfl rfl ?_
                            refine gk_exit rfl ?_
                            refine gk_seq ?_
                            refine gk_region ?_
                            refine gr_v (ev_fa (j := 6) rfl Tryz.runUnderlying38 rfl Tryz.sizeOf26 rfl rfl) ?_
                            refine gr_v (show EV _ _ _ _ _ (.agg #[B d.test.k, x.test, B d.test.col]) _ from ev_lda (s := 3) (i := 6) rfl Tryz.isAgg26 Tryz.sizeOf26 hb1 (by show 6 + 3 ≤ 51; decide)) ?_
                            refine gr_v (ev_mv rfl) ?_
                            refine gr_v (ev_mv rfl) ?_
                            refine gr_call (ec_func Tryz.call38 rfl) (ccU ih hs.test (hK.has hM hlb) hlb hL (by omega) (by omega)) ?_
                            rintro _ wq1 ⟨bq, rfl, hKq, hq⟩
                            replace hK := hK.trans hKq
                            replace hb1 := hKq _ _ hne hb1
                            clear hL
                            cases bq
                            · skip
                              refine gr_v (ev_mv rfl) ?_
                              refine gr_gs rfl rfl rfl ?_
                              refine gr_gs rfl rfl rfl ?_
                              refine gr_gs rfl rfl rfl ?_
                              refine gr_gs rfl rfl rfl ?_
                              refine gr_gs rfl rfl rfl ?_
                              refine gr_v (ev_pickF rfl rfl rfl) ?_
                              refine gr_v (ev_mv rfl) ?_
                              refine gr_gs rfl rfl rfl ?_
                              refine gr_gs rfl rfl rfl ?_
                              refine gr_gs rfl rfl rfl ?_
                              refine gr_gs rfl rfl rfl ?_
                              refine gr_gs rfl rfl rfl ?_
                              refine gr_v (ev_pickF rfl rfl rfl) ?_
                              refine gr_v (ev_as rfl) ?_
                              refine gr_nil ?_
                              refine gk_ret1 Tryz.results11 rfl ?_
                              exact ⟨_, rfl, false, rfl, hK, fun h => by cases h⟩
                            · skip
                              obtain ⟨L1, hL1, hL, su1, sl1, so1, sr1, sw1, st1⟩ := hq rfl
                              refine gr_v (ev_mv rfl) ?_
                              refine gr_gv rfl rfl rfl (ev_fa (j := 43) rfl Tryz.runUnderlying38 rfl Tryz.sizeOf26 rfl rfl) ?_
                              refine gr_gv rfl rfl rfl (show EV _ _ _ _ _ (.agg #[B d.anyU.k, x.anyU, B d.anyU.col]) _ from ev_lda (s := 3) (i := 43) rfl Tryz.isAgg26 Tryz.sizeOf26 hb1 (by show 43 + 3 ≤ 51; decide)) ?_
                              refine gr_gv rfl rfl rfl (ev_mv rfl) ?_
                              refine gr_gv rfl rfl rfl (ev_mv rfl) ?_
                              refine gr_gcall rfl rfl rfl (ec_func Tryz.call38 rfl) (ccU ih hs.anyU (hK.has hM hlb) hlb hL (by omega) (by omega)) ?_
                              rintro _ wq2 ⟨bq, rfl, hKq, hq⟩
                              replace hK := hK.trans hKq
                              replace hb1 := hKq _ _ hne hb1
                              clear hL
                              cases bq
                              · skip
                                refine gr_v (ev_pickT rfl rfl rfl) ?_
                                refine gr_v (ev_mv rfl) ?_
                                refine gr_gs rfl rfl rfl ?_
                                refine gr_gs rfl rfl rfl ?_
                                refine gr_gs rfl rfl rfl ?_
                                refine gr_gs rfl rfl rfl ?_
                                refine gr_gs rfl rfl rfl ?_
                                refine gr_v (ev_pickF rfl rfl rfl) ?_
                                refine gr_v (ev_as rfl) ?_
                                refine gr_nil ?_
                                refine gk_ret1 Tryz.results11 rfl ?_
                                exact ⟨_, rfl, false, rfl, hK, fun h => by cases h⟩
                              · skip
                                obtain ⟨L2, hL2, hL, su2, sl2, so2, sr2, sw2, st2⟩ := hq rfl
                                refine gr_v (ev_pickT rfl rfl rfl) ?_
                                refine gr_v (ev_mv rfl) ?_
                                refine gr_gv rfl rfl rfl (ev_fa (j := 46) rfl Tryz.runUnderlying38 rfl Tryz.sizeOf26 rfl rfl) ?_
                                refine gr_gv rfl rfl rfl (show EV _ _ _ _ _ (.agg #[B d.anyA.k, x.anyA, B d.anyA.col]) _ from ev_lda (s := 3) (i := 46) rfl Tryz.isAgg26 Tryz.sizeOf26 hb1 (by show 46 + 3 ≤ 51; decide)) ?_
                                refine gr_gv rfl rfl rfl (ev_mv rfl) ?_
                                refine gr_gv rfl rfl rfl (ev_mv rfl) ?_
                                refine gr_gcall rfl rfl rfl (ec_func Tryz.call38 rfl) (ccA ih hs.anyA (hK.has hM hlb) hlb hL (by omega) (by omega)) ?_
                                rintro _ wq3 ⟨bq, rfl, hKq, hq⟩
                                replace hK := hK.trans hKq
                                replace hb1 := hKq _ _ hne hb1
                                clear hL
                                cases bq
                                · skip
                                  refine gr_v (ev_pickT rfl rfl rfl) ?_
                                  refine gr_v (ev_as rfl) ?_
                                  refine gr_nil ?_
                                  refine gk_ret1 Tryz.results11 rfl ?_
                                  exact ⟨_, rfl, false, rfl, hK, fun h => by cases h⟩
                                · skip
                                  obtain ⟨L3, hL3, hL, su3, sl3, so3, sr3, sw3, st3⟩ := hq rfl
                                  refine gr_v (ev_pickT rfl rfl rfl) ?_
                                  refine gr_v (ev_as rfl) ?_
                                  refine gr_nil ?_
                                  refine gk_ret1 Tryz.results11 rfl ?_
                                  have tx : ∀ s ∈ texts d d.stat.length, s.size ≤ 300 := hT300
                                  have hpos : d.pos.length ≤ 1 := by have := of_decide_eq_false hd2_12; omega
                                  have henm : d.enemy.length ≤ 1 := by have := of_decide_eq_false hd2_18; omega
                                  have hstt : d.stat.length ≤ 1 := by have := of_decide_eq_false hd2_24; omega
                                  have hX : SrcR SpecOK M { d with tables := pt, enemy := pe, test := ⟨d.test.k, su1, d.test.col⟩, anyU := ⟨d.anyU.k, su2, d.anyU.col⟩, anyA := ⟨d.anyA.k, su3, d.anyA.col⟩ } x := { pos := hs.pos, test := sr1, test4 := hs.test4, strs := hs.strs, tables := hSt.row hs.tables hpt, enemy := hSe.row hs.enemy hpe, stat := hs.stat, bools := hs.bools, strs2 := hs.strs2, abil := hs.abil, test5 := hs.test5, longs := hs.longs, doubles := hs.doubles, refs := hs.refs, weak := hs.weak, strong := hs.strong, coown := hs.coown, nonown := hs.nonown, anyU := sr2, anyA := sr3 }
                                  have hC : Clean { d with tables := pt, enemy := pe, test := ⟨d.test.k, su1, d.test.col⟩, anyU := ⟨d.anyU.k, su2, d.anyU.col⟩, anyA := ⟨d.anyA.k, su3, d.anyA.col⟩ } := { pos := hpos, enemy := (by show pe.length ≤ 1; omega), stat := hstt, test := sw1, anyU := sw2, anyA := sw3, test4 := c_test4, strs := c_strs, tables := (by show pt.length ≤ 50; omega), bools := c_bools, strs2 := c_strs2, abil := c_abil, test5 := c_test5, longs := c_longs, doubles := c_doubles, refs := c_refs, weak := c_weak, strong := c_strong, coown := c_coown, nonown := c_nonown, name := tx _ (by simp [texts, texts0]), inv := tx _ (by simp [texts, texts0]), nest := tx _ (by simp [texts, texts0]), flex := tx _ (by simp [texts, texts0]), enums := tx _ (by simp [texts, texts0]), strs300 := fun s h => tx s (by simp [texts, h]), strs2300 := fun s h => tx s (by simp [texts, h]), stat300 := fun s h => tx s.1 (by simp only [texts, List.take_length, List.mem_append, List.mem_map]; exact .inr ⟨s, h, rfl⟩) }
                                  have h8 := t8 hX hC ⟨Nat.le_trans so1 (by decide), Nat.le_trans so2 (by decide), Nat.le_trans so3 (by decide)⟩
                                  have hT := totD hC hSt.2 hSe.2 st1 st2 st3
                                  exact ⟨_, rfl, true, rfl, hK, fun _ => ⟨L3, by omega, hL, _, h8, hT.mono (by omega)⟩⟩

theorem cleanAt : ∀ n, CleanAt n
  | 0 => mc_zero
  | n + 1 => mc_succ (cleanAt n)
end Go.Proofs.YtjaplgfgkigmiaaGreat