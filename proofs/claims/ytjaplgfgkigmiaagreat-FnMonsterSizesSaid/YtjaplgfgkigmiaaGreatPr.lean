/-
  Prep.
-/
import Derived.Test.YtjaplgfgkigmiaaGreatGr
namespace Go.Proofs.YtjaplgfgkigmiaaGreat
open Go Go.Proofs

theorem pad_nat {k x : Nat} (hk : k ≤ 3) (hx : x < 1000000000000000000) (e1 : (BitVec.ofInt 64 (((2 ^ k : Nat) : Int) - 1)).toNat = 2 ^ k - 1) :
    (BitVec.ofInt 64 (-(x : Int)) &&& BitVec.ofInt 64 (((2 ^ k : Nat) : Int) - 1)).toNat = padOf (2 ^ k) x := by
  rw [BitVec.toNat_and, e1, Nat.and_two_pow_sub_one_eq_mod, BitVec.toNat_ofInt]
  have : k = 0 ∨ k = 1 ∨ k = 2 ∨ k = 3 := by omega
  unfold padOf
  rcases this with rfl | rfl | rfl | rfl <;> simp only [Nat.reducePow] <;> omega
theorem padOf_lt {s x : Nat} (h : 0 < s) : padOf s x < s := Nat.mod_lt _ h
theorem pad_and {s x : Nat} (h : okSize s = true) (hx : x < 1000000000000000000) : IntKind.wrap .i64 ((BitVec.ofInt 64 (-(x : Int)) &&& BitVec.ofInt 64 ((s : Int) - 1)).toNat : Int) = (padOf s x : Int) := by
  simp only [okSize, Bool.or_eq_true, beq_iff_eq] at h
  rcases h with ((rfl | rfl) | rfl) | rfl
  · rw [pad_nat (k := 0) (by omega) hx (by decide)]
    have := padOf_lt (s := 2 ^ 0) (x := x) (by decide)
    exact w_i64 (by omega) (by omega)
  · rw [pad_nat (k := 1) (by omega) hx (by decide)]
    have := padOf_lt (s := 2 ^ 1) (x := x) (by decide)
    exact w_i64 (by omega) (by omega)
  · rw [pad_nat (k := 2) (by omega) hx (by decide)]
    have := padOf_lt (s := 2 ^ 2) (x := x) (by decide)
    exact w_i64 (by omega) (by omega)
  · rw [pad_nat (k := 3) (by omega) hx (by decide)]
    have := padOf_lt (s := 2 ^ 3) (x := x) (by decide)
    exact w_i64 (by omega) (by omega)

theorem BldG.bump {F : Nat → Prop} {w : World} {bb : Nat} {S : St} {g : Gh} (h : BldG F w bb S g) (r : Nat) (hr : r ≤ g.junk.length) : BldG F w bb { S with room := r } g :=
  { hb := h.hb, hk := h.hk, hv := h.hv, hv0 := h.hv0, hst := h.hst, ht := h.ht, bk := h.bk, bv := h.bv, bt := h.bt, kt := h.kt, fb := h.fb, fk := h.fk, fv := h.fv, ft := h.ft, fs := h.fs, room := hr, small := h.small, vone := h.vone, tone := h.tone }

set_option maxRecDepth 4000 in
theorem c45 (s a : Nat) : BOp 45 [.int .i64 s, .int .i64 a] (prep s a) := by
  rintro F w bb S S' ⟨g, h⟩ hm
  unfold prep at hm
  generalize hal : padOf s (S.buf.length + a) = al at hm
  by_cases hcond : (okSize s && decide (S.buf.length + al + s + a ≤ 268435456)) = true
  case neg => simp only [hcond] at hm; exact absurd hm (by simp)
  simp only [hcond, if_true] at hm
  obtain rfl := Option.some.inj hm
  simp only [Bool.and_eq_true, decide_eq_true_eq] at hcond
  obtain ⟨hok, hbd⟩ := hcond
  have hs1 : 1 ≤ s ∧ s ≤ 8 := by
    simp only [okSize, Bool.or_eq_true, beq_iff_eq] at hok; omega
  have hsm := h.small
  have e1 : g.len S = g.junk.length + S.buf.length := rfl
  have hb := h.hb
  have hroom := h.room
  generalize hS1 : ({ S with malign := max S.malign s } : St) = S1
  have hbuf : S1.buf = S.buf := by rw [← hS1]
  have hrm : S1.room = S.room := by rw [← hS1]
  have hbl : S1.buf.length = S.buf.length := by rw [hbuf]
  refine cr_enter Tryz.func45 rfl Tryz.ntmps45 ?_
  refine gk_seq ?_
  refine gk_seq ?_
  refine gk_region ?_
  refine gr_v (ev_mv rfl) ?_
  refine gr_v (ev_mv rfl) ?_
  refine gr_v (ev_nil rfl) ?_
  refine gr_v (ev_fa (j := 1) rfl Tryz.runUnderlying110 rfl Tryz.sizeOf3 rfl rfl) ?_
  refine gr_v (ev_ld rfl Tryz.isAgg3 (by first | exact hb) (by rfl)) ?_
  refine gr_v (ev_gtr rfl rfl) ?_
  refine gr_nil ?_
  refine gk_cut (fun _ : Unit => [(0, ptr bb), (1, .int .i64 s), (2, .int .i64 a)]) (fun _ w' => BldG F w' bb S1 g ∧ Keep F w w') ?_ ?_
  · skip
    refine gk_if rfl (fun ht => ?_) (fun hf => ?_)
    · skip
      refine gk_region ?_
      refine gr_v (ev_mv rfl) ?_
      refine gr_v (ev_mv rfl) ?_
      refine gr_v (ev_nil rfl) ?_
      refine gr_v (ev_fa (j := 1) rfl Tryz.runUnderlying110 rfl Tryz.sizeOf3 rfl rfl) ?_
      refine gr_st rfl rfl (by rfl) Tryz.sizeOf3 (by first | exact hb) (by rfl) (by rfl) ?_
      intro w1 hw1 hbn
      have hb1 := hbn; clear hbn
      refine gr_nil ?_
      refine gk_fin fun a ha => ?_
      have hgt := of_decide_eq_true ht
      have hmx : max S.malign s = s := by omega
      have hx := h.upd S1 (by rw [← hS1]) (by rw [← hS1]) (by rw [← hS1]) (by rw [← hS1]) (by rw [← hS1]) (w1 := w1) (by rw [hw1, ← hS1]; simp only [hmx]; rfl)
      exact ⟨(), ha.keep ⟨rfl, rfl, rfl, trivial⟩, hx.1, hx.2⟩
    · skip
      refine gk_skip ?_
      refine gk_fin fun a ha => ?_
      have hgt := of_decide_eq_false hf
      have hmx : max S.malign s = S.malign := by omega
      have hSS : S1 = S := by rw [← hS1, hmx]
      rw [hSS]
      exact ⟨(), ha.keep ⟨rfl, rfl, rfl, trivial⟩, h, Keep.refl⟩
  rintro _ w1 ⟨hB1, hK1⟩
  have hb1 := hB1.hb
  refine gk_seq ?_
  refine gk_draw (fun w' => w'.heap[bb]? = some (.cells (g.cells S1) 110 (0, 0))) (by kernel_rfl) ?_
  have hS := hb1
  refine ga_take 0 rfl (by kernel_rfl) (fun _ _ => (ev_mv rfl)) hS ?_
  refine ga_take 1 rfl (by kernel_rfl) (fun _ _ => (ev_nil rfl)) hS ?_
  refine ga_take 2 rfl (by kernel_rfl) (fun _ _ => (ev_fa (j := 0) rfl Tryz.runUnderlying110 rfl Tryz.sizeOf69 rfl rfl)) hS ?_
  refine ga_take 3 rfl (by kernel_rfl) (fun _ hs => (ev_ld rfl Tryz.isAgg69 (by first | exact hs | exact hs.1 | exact hs.2 | exact hs.2.1 | exact hs.2.2) (by rfl))) hS ?_
  refine ga_take 4 rfl (by kernel_rfl) (fun _ _ => (ev_len rfl ⟨_, rfl, _, Tryz.runUnderlying69⟩)) hS ?_
  refine ga_take 5 rfl (by kernel_rfl) (fun _ _ => (ev_mv rfl)) hS ?_
  refine ga_take 9 rfl (by kernel_rfl) (fun _ _ => (ev_mv rfl)) hS ?_
  refine ga_call 6 rfl (by kernel_rfl) (ec_func Tryz.call141 rfl) (c141 (hB1.same rfl)) ?_
  rintro _ w2 ⟨rfl, rfl⟩
  refine ⟨hS, fun _ => ?_⟩
  refine ga_take 7 rfl (by kernel_rfl) (fun _ _ => (ev_cv rfl ⟨_, Tryz.runUnderlying65⟩ Tryz.runUnderlying3 (w_i64 (by omega) (by omega)))) hS ?_
  refine ga_take 8 rfl (by kernel_rfl) (fun _ _ => (ev_sub rfl rfl (w_i64 (by have : g.len S1 = g.junk.length + S1.buf.length := rfl; omega) (by have : g.len S1 = g.junk.length + S1.buf.length := rfl; omega)))) hS ?_
  refine ga_take 10 rfl (by kernel_rfl) (fun _ _ => (ev_add rfl rfl (w_i64 (by have : g.len S1 = g.junk.length + S1.buf.length := rfl; omega) (by have : g.len S1 = g.junk.length + S1.buf.length := rfl; omega)))) hS ?_
  refine ga_take 11 rfl (by kernel_rfl) (fun _ _ => (ev_xor rfl (by have : g.len S1 = g.junk.length + S1.buf.length := rfl; omega) (by have : g.len S1 = g.junk.length + S1.buf.length := rfl; omega))) hS ?_
  refine ga_take 12 rfl (by kernel_rfl) (fun _ _ => (ev_add rfl rfl (w_i64 (by have : g.len S1 = g.junk.length + S1.buf.length := rfl; omega) (by have : g.len S1 = g.junk.length + S1.buf.length := rfl; omega)))) hS ?_
  refine ga_take 13 rfl (by kernel_rfl) (fun _ _ => (ev_as rfl)) hS ?_
  refine ga_nil (by kernel_rfl) ?_
  refine gk_seq ?_
  refine gk_region ?_
  refine gr_v (ev_mv rfl) ?_
  refine gr_v (ev_mv rfl) ?_
  refine gr_v (ev_sub rfl rfl (w_i64 (by omega) (by omega))) ?_
  refine gr_v (ev_and (r := al) rfl rfl (by rw [show (-((g.len S1 : Int) - (g.junk.length : Int) + (a : Int)) - 1 + 1 : Int) = -((S.buf.length + a : Nat) : Int) from by (have : g.len S1 = g.junk.length + S1.buf.length := rfl); omega]; rw [← hal]; exact pad_and hok (by omega))) ?_
  refine gr_v (ev_as rfl) ?_
  refine gr_nil ?_
  refine gk_seq ?_
  refine gk_block ?_
  refine gk_loop (fun _ : Gh => [(0, ptr bb), (1, .int .i64 s), (2, .int .i64 a), (6, .int .i64 al)]) (fun g w' => BldG F w' bb S1 g ∧ Keep F w w') (fun g => al + s + a + 1 - g.junk.length) g ⟨rfl, rfl, rfl, rfl, trivial⟩ ⟨hB1.same rfl, hK1.trans (Keep.same rfl)⟩ ?_
  clear hb hb1 hB1 hK1 h hS e1 hroom hsm
  rintro g1 w3 ⟨hB3, hK3⟩
  have hb3 := hB3.hb
  have hsm3 := hB3.small
  have e3 : g1.len S1 = g1.junk.length + S1.buf.length := rfl
  by_cases hc : g1.junk.length ≤ al + s + a
  · skip
    refine gk_seq ?_
    refine gk_seq ?_
    refine gk_region ?_
    refine gr_v (ev_mv rfl) ?_
    refine gr_v (ev_nil rfl) ?_
    refine gr_v (ev_fa (j := 5) rfl Tryz.runUnderlying110 rfl Tryz.sizeOf65 rfl rfl) ?_
    refine gr_v (ev_ld rfl Tryz.isAgg65 (by first | exact hb3) (by rfl)) ?_
    refine gr_v (ev_cv rfl ⟨_, Tryz.runUnderlying65⟩ Tryz.runUnderlying3 (w_i64 (by omega) (by omega))) ?_
    refine gr_v (ev_mv rfl) ?_
    refine gr_v (ev_mv rfl) ?_
    refine gr_v (ev_add rfl rfl (w_i64 (by omega) (by omega))) ?_
    refine gr_v (ev_mv rfl) ?_
    refine gr_v (ev_add rfl rfl (w_i64 (by omega) (by omega))) ?_
    refine gr_v (ev_leq rfl rfl) ?_
    refine gr_nil ?_
    refine gk_true rfl (decide_eq_true (by omega)) ?_
    refine gk_skip ?_
    refine gk_block ?_
    refine gk_seq ?_
    refine gk_region ?_
    refine gr_v (ev_mv rfl) ?_
    refine gr_v (ev_nil rfl) ?_
    refine gr_v (ev_fa (j := 0) rfl Tryz.runUnderlying110 rfl Tryz.sizeOf69 rfl rfl) ?_
    refine gr_v (ev_ld rfl Tryz.isAgg69 (by first | exact hb3) (by rfl)) ?_
    refine gr_v (ev_len rfl ⟨_, rfl, _, Tryz.runUnderlying69⟩) ?_
    refine gr_v (ev_as rfl) ?_
    refine gr_nil ?_
    refine gk_seq ?_
    refine gk_region ?_
    refine gr_v (ev_mv rfl) ?_
    refine gr_call (ec_func Tryz.call228 rfl) (c228 hB3 (by omega)) ?_
    rintro _ w4 ⟨rfl, g2, hj2, hb4, hB4, hK4⟩
    have e4 : g2.len S1 = g2.junk.length + S1.buf.length := rfl
    have hj2b : S1.buf.length ≤ (if g1.len S1 = 0 then 1 else 2 * g1.len S1) := by split <;> omega
    have hj2c : g1.len S1 < (if g1.len S1 = 0 then 1 else 2 * g1.len S1) ∧ (if g1.len S1 = 0 then 1 else 2 * g1.len S1) ≤ 600000000 := by split <;> omega
    refine gr_nil ?_
    refine gk_tail 15 (by kernel_rfl) (by kernel_rfl) ?_
    simp only [List.take_succ_cons, List.take_zero, List.drop_succ_cons, List.drop_zero]
    refine gs_v (ev_mv rfl) ?_
    refine gs_v (ev_nil rfl) ?_
    refine gs_v (ev_fa (j := 5) rfl Tryz.runUnderlying110 rfl Tryz.sizeOf65 rfl rfl) ?_
    refine gs_v (ev_ld rfl Tryz.isAgg65 (by first | exact (dr_heap hb4)) (by rfl)) ?_
    refine gs_v (ev_mv rfl) ?_
    refine gs_v (ev_nil rfl) ?_
    refine gs_v (ev_fa (j := 0) rfl Tryz.runUnderlying110 rfl Tryz.sizeOf69 rfl rfl) ?_
    refine gs_v (ev_ld rfl Tryz.isAgg69 (by first | exact (dr_heap hb4)) (by rfl)) ?_
    refine gs_v (ev_len rfl ⟨_, rfl, _, Tryz.runUnderlying69⟩) ?_
    refine gs_v (ev_mv rfl) ?_
    refine gs_v (ev_sub rfl rfl (w_i64 (by omega) (by omega))) ?_
    refine gs_v (ev_cv rfl ⟨_, Tryz.runUnderlying3⟩ Tryz.runUnderlying65 (w_u32 (by omega) (by omega))) ?_
    refine gs_v (ev_add rfl rfl (w_u32 (by omega) (by omega))) ?_
    refine gs_v (ev_nil rfl) ?_
    refine gs_v (ev_fa (j := 5) rfl Tryz.runUnderlying110 rfl Tryz.sizeOf65 rfl rfl) ?_
    refine gs_nil ?_
    refine gr_st rfl rfl (by rfl) Tryz.sizeOf65 (dr_heap hb4) (by rfl) (by rfl) ?_
    intro w1 hw1 hb5
    refine gr_nil ?_
    refine gk_endblk ?_
    refine gk_fin fun a ha => ?_
    refine ⟨g2, ha.keep ⟨rfl, rfl, rfl, rfl, trivial⟩, ⟨?_, ?_⟩, by omega⟩
    · refine hB4 _ ?_
      rw [hw1]
      rw [show ((g1.junk.length : Int) + ((g2.len S1 : Int) - (g1.len S1 : Int))) = (g2.junk.length : Int) by omega]
      rfl
    · exact (hK3.trans hK4).trans (Keep.of_eq (w := w4.drew) hw1 hB3.fb)
  · skip
    refine gk_seq ?_
    refine gk_seq ?_
    refine gk_region ?_
    refine gr_v (ev_mv rfl) ?_
    refine gr_v (ev_nil rfl) ?_
    refine gr_v (ev_fa (j := 5) rfl Tryz.runUnderlying110 rfl Tryz.sizeOf65 rfl rfl) ?_
    refine gr_v (ev_ld rfl Tryz.isAgg65 (by first | exact hb3) (by rfl)) ?_
    refine gr_v (ev_cv rfl ⟨_, Tryz.runUnderlying65⟩ Tryz.runUnderlying3 (w_i64 (by omega) (by omega))) ?_
    refine gr_v (ev_mv rfl) ?_
    refine gr_v (ev_mv rfl) ?_
    refine gr_v (ev_add rfl rfl (w_i64 (by omega) (by omega))) ?_
    refine gr_v (ev_mv rfl) ?_
    refine gr_v (ev_add rfl rfl (w_i64 (by omega) (by omega))) ?_
    refine gr_v (ev_leq rfl rfl) ?_
    refine gr_nil ?_
    refine gk_false rfl (decide_eq_false (by omega)) ?_
    refine gk_exit rfl ?_
    refine gk_region ?_
    refine gr_v (ev_mv rfl) ?_
    refine gr_v (ev_mv rfl) ?_
    refine gr_call (ec_func Tryz.call229 rfl) (c229 al F w3 bb _ _ ⟨g1, hB3.bump (max S.room (al + s + a)) (by have := hB3.room; rw [hrm] at this; omega)⟩ (by unfold place; rw [if_pos (by simp; omega)])) ?_
    rintro _ w4 ⟨rfl, hB4, hK4⟩
    refine gr_nil ?_
    refine gk_end0 Tryz.results45 ?_
    refine ⟨_, rfl, rfl, ?_, hK3.trans hK4⟩
    rw [← hS1] at hB4
    have er : max S.room (al + s + a) - (List.replicate al (0 : UInt8)).length = max (S.room - al) (s + a) := by simp; omega
    rw [er] at hB4
    exact hB4
end Go.Proofs.YtjaplgfgkigmiaaGreat