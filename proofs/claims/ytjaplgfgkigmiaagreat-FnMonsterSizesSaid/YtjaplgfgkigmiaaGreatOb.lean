/-
  Objects begun; the buffer finished; a new builder.
-/
import Derived.Test.YtjaplgfgkigmiaaGreatVc
namespace Go.Proofs.YtjaplgfgkigmiaaGreat
open Go Go.Proofs

theorem BldG.revt {F : Nat → Prop} {w w' : World} {bb : Nat} {S : St} {g : Gh} (h : BldG F w bb S g) (vb' : Nat) (vx' : List Value) (S' : St) (e1 : S'.buf = S.buf) (e3 : S'.vts = S.vts) (e4 : S'.room = S.room) (hone : ∀ v ∈ vx', one v = true)
    (hb : w'.heap[bb]? = some (.cells (({ g with vb := some vb', vx := vx' } : Gh).cells S') 110 (0, 0))) (hv : w'.heap[vb']? = some (.cells (rowU S'.vt vx') 65 (0, 0)))
    (ho : ∀ c x, bb ≠ c → g.vb ≠ some c → w.heap[c]? = some x → w'.heap[c]? = some x) (hvb : g.vb = some vb' ∨ w.heap.size ≤ vb') (hsz : w.heap.size ≤ w'.heap.size) :
    BldG F w' bb S' { g with vb := some vb', vx := vx' } ∧ Keep F w w' := by
  have nb : bb ≠ vb' := by
    rcases hvb with e | e
    · exact (h.bv _ e).1
    · have := lt_of_heap h.hb; omega
  have nk : g.kb ≠ vb' := by
    rcases hvb with e | e
    · exact (h.bv _ e).2.1
    · have := lt_of_heap h.hk; omega
  have nt : g.tb ≠ vb' := by
    rcases hvb with e | e
    · exact (h.bv _ e).2.2
    · have := lt_of_heap h.ht; omega
  have nf : ¬ F vb' := by
    rcases hvb with e | e
    · exact h.fv _ e
    · intro hf; have := h.fs _ hf; omega
  refine ⟨{ hb := hb, hk := by rw [e1]; exact ho _ _ h.bk (fun e => (h.bv _ e).2.1 rfl) h.hk, hv := fun b e => (by cases e; exact hv), hv0 := fun e => (by cases e), hst := fun _ => ⟨_, rfl⟩,
            ht := by rw [e3]; exact ho _ _ h.bt (fun e => (h.bv _ e).2.2 rfl) h.ht, bk := h.bk, bv := fun b e => (by cases e; exact ⟨nb, nk, nt⟩), bt := h.bt, kt := h.kt, fb := h.fb, fk := h.fk,
            fv := fun b e => (by cases e; exact nf), ft := h.ft, fs := fun b hb => Nat.lt_of_lt_of_le (h.fs b hb) hsz, room := by rw [e4]; exact h.room,
            small := by have := h.small; simp only [Gh.len, e1] at this ⊢; exact this, vone := hone, tone := h.tone }, ⟨fun c hc => ?_, hsz⟩⟩
  have hcs := h.fs c hc
  have : w.heap[c]? = some w.heap[c] := Array.getElem?_eq_getElem hcs
  rw [this]
  exact ho c _ (fun e => h.fb (e ▸ hc)) (fun e => h.fv _ e hc) this

theorem rowU_zero (n : Nat) : Array.replicate n (Value.int .u32 0) = rowU (List.replicate n 0) [] := by
  apply Array.ext'
  simp [rowU]; exact .inr rfl
theorem U_one : ∀ (l : List Nat), ∀ v ∈ l.map U, one v = true := fun l v hv => by
  obtain ⟨n, _, rfl⟩ := List.mem_map.1 hv; rfl

theorem zero_step {i : Nat} {vc : List Value} (h : i < vc.length) : ((List.replicate i (U 0) ++ vc.drop i).toArray).setIfInBounds i (.int .u32 0) = (List.replicate (i + 1) (U 0) ++ vc.drop (i + 1)).toArray := by
  apply Array.ext'
  simp only [Array.toList_setIfInBounds]
  rw [List.set_append_right _ _ (by simp), List.length_replicate, Nat.sub_self, List.drop_eq_getElem_cons h, List.set_cons_zero, List.replicate_succ']
  simp [U]

theorem c253 (n : Nat) (hn1 : n ≤ 100000) : BOp 253 [.int .i64 n] (startObject n) := by
  rintro F w bb S S' ⟨g, h⟩ hm
  unfold startObject at hm
  cases hn : S.nested
  case true => rw [hn] at hm; exact absurd hm (by simp)
  rw [hn] at hm
  simp only [Bool.false_eq_true, if_false] at hm
  obtain rfl := Option.some.inj hm
  have hb := h.hb
  obtain ⟨kb, junk, extra, vb, vx, tb, tx⟩ := g
  by_cases hcase : vb = none ∨ ∃ b, vb = some b ∧ S.vt.length + vx.length < n
  case pos =>
    rcases hcase with rfl | ⟨b, rfl, hlt⟩
    · by_cases hn0 : n = 0
      · skip
        refine cr_enter Tryz.func253 rfl Tryz.ntmps253 ?_
        refine gk_seq ?_
        refine gk_region ?_
        refine gr_v (ev_mv rfl) ?_
        refine gr_call (ec_func Tryz.call44 rfl) (c44 h hn) ?_
        rintro _ _ ⟨rfl, rfl⟩
        refine gr_nil ?_
        refine gk_seq ?_
        refine gk_region ?_
        refine gr_v (ev_mv rfl) ?_
        refine gr_v (ev_nil rfl) ?_
        refine gr_v (ev_fa (j := 6) rfl Tryz.runUnderlying110 rfl Tryz.sizeOf4 rfl rfl) ?_
        refine gr_st rfl rfl (by rfl) Tryz.sizeOf4 (by first | exact hb) (by rfl) (by rfl) ?_
        intro w1 hw1 hb1
        refine gr_nil ?_
        refine gk_seq ?_
        refine gk_seq ?_
        refine gk_region ?_
        refine gr_v (ev_mv rfl) ?_
        refine gr_v (ev_nil rfl) ?_
        refine gr_v (ev_fa (j := 2) rfl Tryz.runUnderlying110 rfl Tryz.sizeOf107 rfl rfl) ?_
        refine gr_v (ev_ld rfl Tryz.isAgg107 (by first | exact hb1) (by rfl)) ?_
        refine gr_v (ev_cap rfl ⟨_, rfl, _, Tryz.runUnderlying107⟩) ?_
        refine gr_v (ev_mv rfl) ?_
        refine gr_v (ev_lss rfl rfl) ?_
        refine gr_v (ev_mv rfl) ?_
        refine gr_gv rfl rfl (decide_eq_false (by first | omega | (show ¬ ((S.vt.length + vx.length : Nat) : Int) < (n : Int); omega))) (ev_mv rfl) ?_
        refine gr_gv rfl rfl (decide_eq_false (by first | omega | (show ¬ ((S.vt.length + vx.length : Nat) : Int) < (n : Int); omega))) (ev_nil rfl) ?_
        refine gr_gv rfl rfl (decide_eq_false (by first | omega | (show ¬ ((S.vt.length + vx.length : Nat) : Int) < (n : Int); omega))) (ev_fa (j := 2) rfl Tryz.runUnderlying110 rfl Tryz.sizeOf107 rfl rfl) ?_
        refine gr_gv rfl rfl (decide_eq_false (by first | omega | (show ¬ ((S.vt.length + vx.length : Nat) : Int) < (n : Int); omega))) (ev_ld rfl Tryz.isAgg107 (by first | exact hb1) (by rfl)) ?_
        refine gr_gv rfl rfl (decide_eq_false (by first | omega | (show ¬ ((S.vt.length + vx.length : Nat) : Int) < (n : Int); omega))) (ev_sliceeql rfl rfl Tryz.runUnderlying107) ?_
        refine gr_v (ev_pickF rfl (decide_eq_false (by first | omega | (show ¬ ((S.vt.length + vx.length : Nat) : Int) < (n : Int); omega))) rfl) ?_
        refine gr_nil ?_
        refine gk_true rfl (rfl) ?_
        refine gk_region ?_
        refine gr_v (ev_mv rfl) ?_
        refine gr_v (ev_mv rfl) ?_
        refine gr_v (ev_mk (c := n) (cap' := n) rfl rfl Tryz.runUnderlying107 Tryz.typeInfo65 Tryz.sizeOf65 Tryz.zeroValue65 rfl (by omega) (by omega) (by omega) rfl (by omega) (by omega)) ?_
        refine gr_v (ev_nil rfl) ?_
        refine gr_v (ev_fa (j := 2) rfl Tryz.runUnderlying110 rfl Tryz.sizeOf107 rfl rfl) ?_
        refine gr_st rfl rfl (by rfl) Tryz.sizeOf107 (al_old hb1) (by rfl) (by rfl) ?_
        intro w2 hw2 hb2
        have hv2 := sb_at hw2 (c := w1.heap.size) (by have := lt_of_heap hb1; omega) (al_new (w := w1))
        rw [rowU_zero] at hv2
        have hs1 : w1.heap.size = w.heap.size := by rw [hw1]; exact sb_size
        have hs2 : w2.heap.size = w.heap.size + 1 := by rw [hw2, sb_size, al_size, hs1]
        rw [hs1] at hv2 hb2
        refine gr_nil ?_
        have hv2b := h.revt (w' := w2) w.heap.size [] { S with nested := true, vt := List.replicate n 0, started := true } rfl rfl rfl (by simp) (by rw [hb2]; simp [Gh.cells, Gh.vtv, Gh.len, Gh.cap]) hv2 (fun c x n1 n2 hx => sb_at hw2 n1 (al_old (sb_at hw1 n1 hx))) (.inr (Nat.le_refl _)) (by omega)
        refine gk_region ?_
        refine gr_v (ev_mv rfl) ?_
        refine gr_v (ev_mv rfl) ?_
        refine gr_call (ec_func Tryz.call230 rfl) (c230 (g := ⟨kb, junk, extra, some w.heap.size, [], tb, tx⟩) hv2b.1) ?_
        rintro _ w3 ⟨rfl, hh3⟩
        have hb3 := hp hh3 hb2
        refine gr_v (ev_nil rfl) ?_
        refine gr_v (ev_fa (j := 3) rfl Tryz.runUnderlying110 rfl Tryz.sizeOf65 rfl rfl) ?_
        refine gr_st rfl rfl (by rfl) Tryz.sizeOf65 hb3 (by rfl) (by rfl) ?_
        intro w4 hw4 hb4
        refine gr_nil ?_
        refine gk_end0 Tryz.results253 ?_
        have hv4 := (hv2b.1.same hh3).upd { S with nested := true, vt := List.replicate n 0, oend := S.buf.length, started := true } rfl rfl rfl rfl rfl (w1 := w4) (by rw [hw4]; congr 1; simp [Gh.cells, Gh.vtv, Gh.len, Gh.cap, U])
        exact ⟨_, rfl, rfl, ⟨_, hv4.1⟩, (hv2b.2.trans (Keep.same hh3)).trans hv4.2⟩
      · skip
        refine cr_enter Tryz.func253 rfl Tryz.ntmps253 ?_
        refine gk_seq ?_
        refine gk_region ?_
        refine gr_v (ev_mv rfl) ?_
        refine gr_call (ec_func Tryz.call44 rfl) (c44 h hn) ?_
        rintro _ _ ⟨rfl, rfl⟩
        refine gr_nil ?_
        refine gk_seq ?_
        refine gk_region ?_
        refine gr_v (ev_mv rfl) ?_
        refine gr_v (ev_nil rfl) ?_
        refine gr_v (ev_fa (j := 6) rfl Tryz.runUnderlying110 rfl Tryz.sizeOf4 rfl rfl) ?_
        refine gr_st rfl rfl (by rfl) Tryz.sizeOf4 (by first | exact hb) (by rfl) (by rfl) ?_
        intro w1 hw1 hb1
        refine gr_nil ?_
        refine gk_seq ?_
        refine gk_seq ?_
        refine gk_region ?_
        refine gr_v (ev_mv rfl) ?_
        refine gr_v (ev_nil rfl) ?_
        refine gr_v (ev_fa (j := 2) rfl Tryz.runUnderlying110 rfl Tryz.sizeOf107 rfl rfl) ?_
        refine gr_v (ev_ld rfl Tryz.isAgg107 (by first | exact hb1) (by rfl)) ?_
        refine gr_v (ev_cap rfl ⟨_, rfl, _, Tryz.runUnderlying107⟩) ?_
        refine gr_v (ev_mv rfl) ?_
        refine gr_v (ev_lss rfl rfl) ?_
        refine gr_v (ev_mv rfl) ?_
        refine gr_gs rfl rfl (decide_eq_true (by first | omega | (show ((S.vt.length + vx.length : Nat) : Int) < (n : Int); omega))) ?_
        refine gr_gs rfl rfl (decide_eq_true (by first | omega | (show ((S.vt.length + vx.length : Nat) : Int) < (n : Int); omega))) ?_
        refine gr_gs rfl rfl (decide_eq_true (by first | omega | (show ((S.vt.length + vx.length : Nat) : Int) < (n : Int); omega))) ?_
        refine gr_gs rfl rfl (decide_eq_true (by first | omega | (show ((S.vt.length + vx.length : Nat) : Int) < (n : Int); omega))) ?_
        refine gr_gs rfl rfl (decide_eq_true (by first | omega | (show ((S.vt.length + vx.length : Nat) : Int) < (n : Int); omega))) ?_
        refine gr_v (ev_pickT rfl (decide_eq_true (by first | omega | (show ((S.vt.length + vx.length : Nat) : Int) < (n : Int); omega))) rfl) ?_
        refine gr_nil ?_
        refine gk_true rfl (rfl) ?_
        refine gk_region ?_
        refine gr_v (ev_mv rfl) ?_
        refine gr_v (ev_mv rfl) ?_
        refine gr_v (ev_mk (c := n) (cap' := n) rfl rfl Tryz.runUnderlying107 Tryz.typeInfo65 Tryz.sizeOf65 Tryz.zeroValue65 rfl (by omega) (by omega) (by omega) rfl (by omega) (by omega)) ?_
        refine gr_v (ev_nil rfl) ?_
        refine gr_v (ev_fa (j := 2) rfl Tryz.runUnderlying110 rfl Tryz.sizeOf107 rfl rfl) ?_
        refine gr_st rfl rfl (by rfl) Tryz.sizeOf107 (al_old hb1) (by rfl) (by rfl) ?_
        intro w2 hw2 hb2
        have hv2 := sb_at hw2 (c := w1.heap.size) (by have := lt_of_heap hb1; omega) (al_new (w := w1))
        rw [rowU_zero] at hv2
        have hs1 : w1.heap.size = w.heap.size := by rw [hw1]; exact sb_size
        have hs2 : w2.heap.size = w.heap.size + 1 := by rw [hw2, sb_size, al_size, hs1]
        rw [hs1] at hv2 hb2
        refine gr_nil ?_
        have hv2b := h.revt (w' := w2) w.heap.size [] { S with nested := true, vt := List.replicate n 0, started := true } rfl rfl rfl (by simp) (by rw [hb2]; simp [Gh.cells, Gh.vtv, Gh.len, Gh.cap]) hv2 (fun c x n1 n2 hx => sb_at hw2 n1 (al_old (sb_at hw1 n1 hx))) (.inr (Nat.le_refl _)) (by omega)
        refine gk_region ?_
        refine gr_v (ev_mv rfl) ?_
        refine gr_v (ev_mv rfl) ?_
        refine gr_call (ec_func Tryz.call230 rfl) (c230 (g := ⟨kb, junk, extra, some w.heap.size, [], tb, tx⟩) hv2b.1) ?_
        rintro _ w3 ⟨rfl, hh3⟩
        have hb3 := hp hh3 hb2
        refine gr_v (ev_nil rfl) ?_
        refine gr_v (ev_fa (j := 3) rfl Tryz.runUnderlying110 rfl Tryz.sizeOf65 rfl rfl) ?_
        refine gr_st rfl rfl (by rfl) Tryz.sizeOf65 hb3 (by rfl) (by rfl) ?_
        intro w4 hw4 hb4
        refine gr_nil ?_
        refine gk_end0 Tryz.results253 ?_
        have hv4 := (hv2b.1.same hh3).upd { S with nested := true, vt := List.replicate n 0, oend := S.buf.length, started := true } rfl rfl rfl rfl rfl (w1 := w4) (by rw [hw4]; congr 1; simp [Gh.cells, Gh.vtv, Gh.len, Gh.cap, U])
        exact ⟨_, rfl, rfl, ⟨_, hv4.1⟩, (hv2b.2.trans (Keep.same hh3)).trans hv4.2⟩
    · skip
      refine cr_enter Tryz.func253 rfl Tryz.ntmps253 ?_
      refine gk_seq ?_
      refine gk_region ?_
      refine gr_v (ev_mv rfl) ?_
      refine gr_call (ec_func Tryz.call44 rfl) (c44 h hn) ?_
      rintro _ _ ⟨rfl, rfl⟩
      refine gr_nil ?_
      refine gk_seq ?_
      refine gk_region ?_
      refine gr_v (ev_mv rfl) ?_
      refine gr_v (ev_nil rfl) ?_
      refine gr_v (ev_fa (j := 6) rfl Tryz.runUnderlying110 rfl Tryz.sizeOf4 rfl rfl) ?_
      refine gr_st rfl rfl (by rfl) Tryz.sizeOf4 (by first | exact hb) (by rfl) (by rfl) ?_
      intro w1 hw1 hb1
      refine gr_nil ?_
      refine gk_seq ?_
      refine gk_seq ?_
      refine gk_region ?_
      refine gr_v (ev_mv rfl) ?_
      refine gr_v (ev_nil rfl) ?_
      refine gr_v (ev_fa (j := 2) rfl Tryz.runUnderlying110 rfl Tryz.sizeOf107 rfl rfl) ?_
      refine gr_v (ev_ld rfl Tryz.isAgg107 (by first | exact hb1) (by rfl)) ?_
      refine gr_v (ev_cap rfl ⟨_, rfl, _, Tryz.runUnderlying107⟩) ?_
      refine gr_v (ev_mv rfl) ?_
      refine gr_v (ev_lss rfl rfl) ?_
      refine gr_v (ev_mv rfl) ?_
      refine gr_gs rfl rfl (decide_eq_true (by first | omega | (show ((S.vt.length + vx.length : Nat) : Int) < (n : Int); omega))) ?_
      refine gr_gs rfl rfl (decide_eq_true (by first | omega | (show ((S.vt.length + vx.length : Nat) : Int) < (n : Int); omega))) ?_
      refine gr_gs rfl rfl (decide_eq_true (by first | omega | (show ((S.vt.length + vx.length : Nat) : Int) < (n : Int); omega))) ?_
      refine gr_gs rfl rfl (decide_eq_true (by first | omega | (show ((S.vt.length + vx.length : Nat) : Int) < (n : Int); omega))) ?_
      refine gr_gs rfl rfl (decide_eq_true (by first | omega | (show ((S.vt.length + vx.length : Nat) : Int) < (n : Int); omega))) ?_
      refine gr_v (ev_pickT rfl (decide_eq_true (by first | omega | (show ((S.vt.length + vx.length : Nat) : Int) < (n : Int); omega))) rfl) ?_
      refine gr_nil ?_
      refine gk_true rfl (rfl) ?_
      refine gk_region ?_
      refine gr_v (ev_mv rfl) ?_
      refine gr_v (ev_mv rfl) ?_
      refine gr_v (ev_mk (c := n) (cap' := n) rfl rfl Tryz.runUnderlying107 Tryz.typeInfo65 Tryz.sizeOf65 Tryz.zeroValue65 rfl (by omega) (by omega) (by omega) rfl (by omega) (by omega)) ?_
      refine gr_v (ev_nil rfl) ?_
      refine gr_v (ev_fa (j := 2) rfl Tryz.runUnderlying110 rfl Tryz.sizeOf107 rfl rfl) ?_
      refine gr_st rfl rfl (by rfl) Tryz.sizeOf107 (al_old hb1) (by rfl) (by rfl) ?_
      intro w2 hw2 hb2
      have hv2 := sb_at hw2 (c := w1.heap.size) (by have := lt_of_heap hb1; omega) (al_new (w := w1))
      rw [rowU_zero] at hv2
      have hs1 : w1.heap.size = w.heap.size := by rw [hw1]; exact sb_size
      have hs2 : w2.heap.size = w.heap.size + 1 := by rw [hw2, sb_size, al_size, hs1]
      rw [hs1] at hv2 hb2
      refine gr_nil ?_
      have hv2b := h.revt (w' := w2) w.heap.size [] { S with nested := true, vt := List.replicate n 0, started := true } rfl rfl rfl (by simp) (by rw [hb2]; simp [Gh.cells, Gh.vtv, Gh.len, Gh.cap]) hv2 (fun c x n1 n2 hx => sb_at hw2 n1 (al_old (sb_at hw1 n1 hx))) (.inr (Nat.le_refl _)) (by omega)
      refine gk_region ?_
      refine gr_v (ev_mv rfl) ?_
      refine gr_v (ev_mv rfl) ?_
      refine gr_call (ec_func Tryz.call230 rfl) (c230 (g := ⟨kb, junk, extra, some w.heap.size, [], tb, tx⟩) hv2b.1) ?_
      rintro _ w3 ⟨rfl, hh3⟩
      have hb3 := hp hh3 hb2
      refine gr_v (ev_nil rfl) ?_
      refine gr_v (ev_fa (j := 3) rfl Tryz.runUnderlying110 rfl Tryz.sizeOf65 rfl rfl) ?_
      refine gr_st rfl rfl (by rfl) Tryz.sizeOf65 hb3 (by rfl) (by rfl) ?_
      intro w4 hw4 hb4
      refine gr_nil ?_
      refine gk_end0 Tryz.results253 ?_
      have hv4 := (hv2b.1.same hh3).upd { S with nested := true, vt := List.replicate n 0, oend := S.buf.length, started := true } rfl rfl rfl rfl rfl (w1 := w4) (by rw [hw4]; congr 1; simp [Gh.cells, Gh.vtv, Gh.len, Gh.cap, U])
      exact ⟨_, rfl, rfl, ⟨_, hv4.1⟩, (hv2b.2.trans (Keep.same hh3)).trans hv4.2⟩
  case neg =>
    cases vb with
    | none => exact absurd (.inl rfl) hcase
    | some vb =>
    have hge : n ≤ S.vt.length + vx.length := by
      rcases Nat.lt_or_ge (S.vt.length + vx.length) n with hlt | hge
      · exact absurd (.inr ⟨vb, rfl, hlt⟩) hcase
      · exact hge
    have hv := h.hv vb rfl
    have hbv := h.bv vb rfl
    generalize hvc : S.vt.map U ++ vx = vc
    have hvl : vc.length = S.vt.length + vx.length := by rw [← hvc]; simp
    have hvxl : (Gh.vx ⟨kb, junk, extra, some vb, vx, tb, tx⟩).length = vx.length := rfl
    have hvo : ∀ v ∈ vc, one v = true := by
      rw [← hvc]; intro v hv
      rcases List.mem_append.1 hv with h1 | h1
      · exact U_one _ v h1
      · exact h.vone v h1
    refine cr_enter Tryz.func253 rfl Tryz.ntmps253 ?_
    refine gk_seq ?_
    refine gk_region ?_
    refine gr_v (ev_mv rfl) ?_
    refine gr_call (ec_func Tryz.call44 rfl) (c44 h hn) ?_
    rintro _ _ ⟨rfl, rfl⟩
    refine gr_nil ?_
    refine gk_seq ?_
    refine gk_region ?_
    refine gr_v (ev_mv rfl) ?_
    refine gr_v (ev_nil rfl) ?_
    refine gr_v (ev_fa (j := 6) rfl Tryz.runUnderlying110 rfl Tryz.sizeOf4 rfl rfl) ?_
    refine gr_st rfl rfl (by rfl) Tryz.sizeOf4 (by first | exact hb) (by rfl) (by rfl) ?_
    intro w1 hw1 hb1
    refine gr_nil ?_
    refine gk_seq ?_
    refine gk_seq ?_
    refine gk_region ?_
    refine gr_v (ev_mv rfl) ?_
    refine gr_v (ev_nil rfl) ?_
    refine gr_v (ev_fa (j := 2) rfl Tryz.runUnderlying110 rfl Tryz.sizeOf107 rfl rfl) ?_
    refine gr_v (ev_ld rfl Tryz.isAgg107 (by first | exact hb1) (by rfl)) ?_
    refine gr_v (ev_cap rfl ⟨_, rfl, _, Tryz.runUnderlying107⟩) ?_
    refine gr_v (ev_mv rfl) ?_
    refine gr_v (ev_lss rfl rfl) ?_
    refine gr_v (ev_mv rfl) ?_
    refine gr_gv rfl rfl (decide_eq_false (by first | omega | (show ¬ ((S.vt.length + vx.length : Nat) : Int) < (n : Int); omega))) (ev_mv rfl) ?_
    refine gr_gv rfl rfl (decide_eq_false (by first | omega | (show ¬ ((S.vt.length + vx.length : Nat) : Int) < (n : Int); omega))) (ev_nil rfl) ?_
    refine gr_gv rfl rfl (decide_eq_false (by first | omega | (show ¬ ((S.vt.length + vx.length : Nat) : Int) < (n : Int); omega))) (ev_fa (j := 2) rfl Tryz.runUnderlying110 rfl Tryz.sizeOf107 rfl rfl) ?_
    refine gr_gv rfl rfl (decide_eq_false (by first | omega | (show ¬ ((S.vt.length + vx.length : Nat) : Int) < (n : Int); omega))) (ev_ld rfl Tryz.isAgg107 (by first | exact hb1) (by rfl)) ?_
    refine gr_gv rfl rfl (decide_eq_false (by first | omega | (show ¬ ((S.vt.length + vx.length : Nat) : Int) < (n : Int); omega))) (ev_sliceeql rfl rfl Tryz.runUnderlying107) ?_
    refine gr_v (ev_pickF rfl (decide_eq_false (by first | omega | (show ¬ ((S.vt.length + vx.length : Nat) : Int) < (n : Int); omega))) rfl) ?_
    refine gr_nil ?_
    refine gk_false rfl (rfl) ?_
    refine gk_seq ?_
    refine gk_region ?_
    refine gr_v (ev_mv rfl) ?_
    refine gr_v (ev_mv rfl) ?_
    refine gr_v (ev_nil rfl) ?_
    refine gr_v (ev_fa (j := 2) rfl Tryz.runUnderlying110 rfl Tryz.sizeOf107 rfl rfl) ?_
    refine gr_v (ev_ld rfl Tryz.isAgg107 (by first | exact hb1) (by rfl)) ?_
    refine gr_v (ev_mv rfl) ?_
    refine gr_v (ev_shi rfl rfl Tryz.runUnderlying107 Tryz.sizeOf65 (by omega) (by omega)) ?_
    refine gr_v (ev_nil rfl) ?_
    refine gr_v (ev_fa (j := 2) rfl Tryz.runUnderlying110 rfl Tryz.sizeOf107 rfl rfl) ?_
    refine gr_st rfl rfl (by rfl) Tryz.sizeOf107 (by first | exact hb1) (by rfl) (by rfl) ?_
    intro w2 hw2 hb2
    have hv2 := sb_at hw2 hbv.1 (sb_at hw1 hbv.1 hv)
    refine gr_nil ?_
    refine gk_seq ?_
    refine gk_region ?_
    refine gr_v (ev_as rfl) ?_
    refine gr_nil ?_
    refine gk_block ?_
    have hb2b : w2.heap[bb]? = some (.cells (({ kb := kb, junk := junk, extra := extra, vb := some vb, vx := vc.drop n, tb := tb, tx := tx } : Gh).cells { S with nested := true, vt := List.replicate n 0, started := true }) 110 (0, 0)) := by
      rw [hb2]; congr 2; simp [Gh.cells, Gh.vtv, Gh.len, Gh.cap]; omega
    clear hb2
    refine gk_loop (fun i : Nat => [(0, ptr bb), (1, .int .i64 n), (4, .int .i64 i)]) (fun i w' => i ≤ n ∧ w'.heap[bb]? = some (.cells (({ kb := kb, junk := junk, extra := extra, vb := some vb, vx := vc.drop n, tb := tb, tx := tx } : Gh).cells { S with nested := true, vt := List.replicate n 0, started := true }) 110 (0, 0)) ∧ w'.heap[vb]? = some (.cells (List.replicate i (U 0) ++ vc.drop i).toArray 65 (0, 0)) ∧ (∀ c x, bb ≠ c → vb ≠ c → w.heap[c]? = some x → w'.heap[c]? = some x) ∧ w'.heap.size = w.heap.size) (fun i => n - i) 0 ⟨rfl, rfl, rfl, trivial⟩ ⟨Nat.zero_le _, hb2b, by rw [hv2, ← hvc]; rfl, fun c x n1 n2 hx => sb_at hw2 n1 (sb_at hw1 n1 hx), by rw [hw2, sb_size, hw1, sb_size]⟩ ?_
    rintro i w5 ⟨hi, hb5, hv5, ho5, hs5⟩
    by_cases hc : i < n
    · skip
      refine gk_seq ?_
      refine gk_seq ?_
      refine gk_region ?_
      refine gr_v (ev_mv rfl) ?_
      refine gr_v (ev_mv rfl) ?_
      refine gr_v (ev_nil rfl) ?_
      refine gr_v (ev_fa (j := 2) rfl Tryz.runUnderlying110 rfl Tryz.sizeOf107 rfl rfl) ?_
      refine gr_v (ev_ld rfl Tryz.isAgg107 (by first | exact hb5) (by rfl)) ?_
      refine gr_v (ev_len rfl ⟨_, rfl, _, Tryz.runUnderlying107⟩) ?_
      refine gr_v (ev_lss rfl rfl) ?_
      refine gr_nil ?_
      refine gk_true rfl (decide_eq_true (by simp; omega)) ?_
      refine gk_skip ?_
      refine gk_seq ?_
      refine gk_block ?_
      refine gk_region ?_
      refine gr_v (ev_mv rfl) ?_
      refine gr_v (ev_nil rfl) ?_
      refine gr_v (ev_fa (j := 2) rfl Tryz.runUnderlying110 rfl Tryz.sizeOf107 rfl rfl) ?_
      refine gr_v (ev_ld rfl Tryz.isAgg107 (by first | exact hb5) (by rfl)) ?_
      refine gr_v (ev_mv rfl) ?_
      refine gr_v (ev_ix (a' := i) rfl rfl Tryz.runUnderlying107 Tryz.sizeOf65 (by omega) (by first | omega | (simp; omega)) (by omega)) ?_
      refine gr_s (es_st (cs' := (List.replicate (i + 1) (U 0) ++ vc.drop (i + 1)).toArray) rfl rfl (by rfl) Tryz.sizeOf65 hv5 (by simp [Nat.blt_eq]; omega) (zero_step (by omega))) ?_
      refine gr_nil ?_
      refine gk_endblk ?_
      refine gk_region ?_
      refine gr_v (ev_mv rfl) ?_
      refine gr_v (ev_add rfl rfl (w_i64 (by omega) (by omega))) ?_
      refine gr_v (ev_as rfl) ?_
      refine gr_nil ?_
      refine gk_fin fun a ha => ?_
      exact ⟨i + 1, ha.keep ⟨rfl, rfl, rfl, trivial⟩, ⟨by omega, sb_ne hbv.1.symm hb5, sb_same hv5, fun c x n1 n2 hx => sb_ne n2 (ho5 c x n1 n2 hx), by rw [sb_size]; exact hs5⟩, by omega⟩
    · obtain rfl : i = n := by omega
      have hv6 := h.revt (w' := w5) vb (vc.drop i) { S with nested := true, vt := List.replicate i 0, started := true } rfl rfl rfl (fun v hv => hvo v (List.mem_of_mem_drop hv)) hb5 (by rw [hv5]; congr 2; simp [rowU]) (fun c x n1 n2 hx => ho5 c x n1 (fun e => n2 (by rw [e])) hx) (.inl rfl) (by omega)
      refine gk_seq ?_
      refine gk_seq ?_
      refine gk_region ?_
      refine gr_v (ev_mv rfl) ?_
      refine gr_v (ev_mv rfl) ?_
      refine gr_v (ev_nil rfl) ?_
      refine gr_v (ev_fa (j := 2) rfl Tryz.runUnderlying110 rfl Tryz.sizeOf107 rfl rfl) ?_
      refine gr_v (ev_ld rfl Tryz.isAgg107 (by first | exact hb5) (by rfl)) ?_
      refine gr_v (ev_len rfl ⟨_, rfl, _, Tryz.runUnderlying107⟩) ?_
      refine gr_v (ev_lss rfl rfl) ?_
      refine gr_nil ?_
      refine gk_false rfl (decide_eq_false (by simp)) ?_
      refine gk_exit rfl ?_
      refine gk_region ?_
      refine gr_v (ev_mv rfl) ?_
      refine gr_v (ev_mv rfl) ?_
      refine gr_call (ec_func Tryz.call230 rfl) (c230 hv6.1) ?_
      rintro _ w3 ⟨rfl, hh3⟩
      have hb3 := hp hh3 hb5
      refine gr_v (ev_nil rfl) ?_
      refine gr_v (ev_fa (j := 3) rfl Tryz.runUnderlying110 rfl Tryz.sizeOf65 rfl rfl) ?_
      refine gr_st rfl rfl (by rfl) Tryz.sizeOf65 (by first | exact hb3) (by rfl) (by rfl) ?_
      intro w4 hw4 hb4
      refine gr_nil ?_
      refine gk_end0 Tryz.results253 ?_
      have hv4 := (hv6.1.same hh3).upd { S with nested := true, vt := List.replicate i 0, oend := S.buf.length, started := true } rfl rfl rfl rfl rfl (w1 := w4) (by rw [hw4]; congr 1)
      exact ⟨_, rfl, rfl, ⟨_, hv4.1⟩, (hv6.2.trans (Keep.same hh3)).trans hv4.2⟩
end Go.Proofs.YtjaplgfgkigmiaaGreat