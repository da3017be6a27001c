/-
  growByteBuffer.
-/
import Derived.Test.YtjaplgfgkigmiaaGreatBf
import Derived.Test.YtjaplgfgkigmiaaGreatApp
namespace Go.Proofs.YtjaplgfgkigmiaaGreat
open Go Go.Proofs

theorem grown {F : Nat → Prop} {w w' : World} {bb : Nat} {S : St} {g : Gh} (h : BldG F w bb S g) (kb' : Nat) (ls1 : List UInt8) (N : Nat) (hN2 : N = if g.len S = 0 then 1 else 2 * g.len S) (hN' : N ≤ ls1.length)
    (ht : ls1.take (g.len S) = g.junk ++ S.buf) (hk : w'.heap[kb']? = some (.cells (row (sets ls1 (g.len S) (ls1.take (g.len S)))) 5 (0, 0)))
    (hb : w'.heap[bb]? = some (.cells ((g.cells S).setIfInBounds 0 (.slice (some ⟨kb', 0, none⟩) N ls1.length)) 110 (0, 0)))
    (hoth : ∀ c x, bb ≠ c → g.kb ≠ c → w.heap[c]? = some x → w'.heap[c]? = some x) (hkb' : kb' = g.kb ∨ w.heap.size ≤ kb') (hsz : w.heap.size ≤ w'.heap.size) (hL : N ≤ 600000000) :
    ∃ g', g'.junk.length = N - S.buf.length ∧ w'.heap[bb]? = some (.cells ((g'.cells S).setIfInBounds 5 (.int .u32 g.junk.length)) 110 (0, 0)) ∧
      (∀ w2, w2.heap = (w'.setB bb (.cells (g'.cells S) 110 (0, 0))).heap → BldG F w2 bb S g') ∧ Keep F w w' := by
  have e1 : g.len S = g.junk.length + S.buf.length := rfl
  have hlt : (ls1.take (g.len S)).length = g.len S := by rw [ht]; simp [e1]
  have hL1 : g.len S ≤ ls1.length := by simp at hlt; omega
  have hbN : S.buf.length ≤ N := by rw [hN2]; split <;> omega
  have hLN : g.len S ≤ N := by rw [hN2]; split <;> omega
  have hLL : g.len S + (ls1.take (g.len S)).length ≤ ls1.length := by
    rw [hlt]; rw [hN2] at hN'; split at hN' <;> omega
  rw [sets_eq _ _ _ hLL] at hk
  generalize hls2 : ls1.take (g.len S) ++ ls1.take (g.len S) ++ ls1.drop (g.len S + (ls1.take (g.len S)).length) = ls2 at hk
  have hl2 : ls2.length = ls1.length := by rw [← hls2]; simp; omega
  have hmid : (ls2.drop (N - S.buf.length)).take S.buf.length = S.buf := by
    by_cases h0 : g.len S = 0
    · have : S.buf = [] := by apply List.eq_nil_of_length_eq_zero; omega
      rw [this]; simp
    · rw [if_neg h0] at hN2
      have e2 : N - S.buf.length = (g.junk ++ S.buf ++ g.junk).length := by simp; omega
      rw [← hls2, ht, e2]
      have : g.junk ++ S.buf ++ (g.junk ++ S.buf) ++ List.drop (g.len S + (g.junk ++ S.buf).length) ls1 = (g.junk ++ S.buf ++ g.junk) ++ (S.buf ++ List.drop (g.len S + (g.junk ++ S.buf).length) ls1) := by simp
      rw [this, List.drop_left, List.take_left]
  have hsplit : ls2 = ls2.take (N - S.buf.length) ++ S.buf ++ ls2.drop N := by
    have a1 : ls2 = ls2.take (N - S.buf.length) ++ ls2.drop (N - S.buf.length) := (List.take_append_drop _ _).symm
    have a2 : ls2.drop (N - S.buf.length) = S.buf ++ ls2.drop N := by
      have := (List.take_append_drop S.buf.length (ls2.drop (N - S.buf.length))).symm
      rw [hmid, List.drop_drop] at this
      rw [show N - S.buf.length + S.buf.length = N by omega] at this
      exact this
    rw [List.append_assoc, ← a2]; exact a1
  let g' : Gh := { g with kb := kb', junk := ls2.take (N - S.buf.length), extra := ls2.drop N }
  have j1 : g'.junk.length = N - S.buf.length := by simp [g']; omega
  have j2 : g'.len S = N := by simp only [Gh.len, j1]; omega
  have j3 : g'.cap S = ls1.length := by simp only [Gh.cap, j1]; simp [g']; omega
  have jc : (g'.cells S).setIfInBounds 5 (.int .u32 g.junk.length) = (g.cells S).setIfInBounds 0 (.slice (some ⟨kb', 0, none⟩) N ls1.length) := by
    unfold Gh.cells; rw [j2, j3]; rfl
  have hbs : bb < w.heap.size := lt_of_heap h.hb
  have kb1 : bb ≠ kb' := by rcases hkb' with e | e; exact e ▸ h.bk; omega
  have kt1 : kb' ≠ g.tb := by rcases hkb' with e | e; exact e ▸ h.kt; have := lt_of_heap h.ht; omega
  have kf1 : ¬ F kb' := by rcases hkb' with e | e; exact e ▸ h.fk; intro hf; have := h.fs _ hf; omega
  have kv1 : ∀ b, g.vb = some b → kb' ≠ b := fun b hb => by rcases hkb' with e | e; exact e ▸ (h.bv b hb).2.1; have := lt_of_heap (h.hv b hb); omega
  refine ⟨g', j1, by rw [jc]; exact hb, fun w2 hw2 => ?_, ⟨fun c hc => ?_, hsz⟩⟩
  · have o2 : ∀ c x, bb ≠ c → w'.heap[c]? = some x → w2.heap[c]? = some x := fun c x n1 hx => by rw [hw2]; exact sb_ne n1 hx
    have hs2 : w2.heap.size = w'.heap.size := by rw [hw2]; exact sb_size
    exact { hb := by rw [hw2]; exact sb_same hb, hk := o2 _ _ kb1 (by rw [hk, hsplit] ), hv := fun b hb => o2 _ _ (h.bv b hb).1 (hoth _ _ (h.bv b hb).1 (h.bv b hb).2.1 (h.hv b hb)), hv0 := h.hv0, hst := h.hst,
            ht := o2 _ _ h.bt (hoth _ _ h.bt h.kt h.ht), bk := kb1, bv := fun b hb => ⟨(h.bv b hb).1, kv1 b hb, (h.bv b hb).2.2⟩, bt := h.bt, kt := kt1, fb := h.fb, fk := kf1, fv := h.fv, ft := h.ft,
            fs := fun b hb => by rw [hs2]; have := h.fs b hb; omega, room := by rw [j1]; have := h.room; rw [hN2]; split <;> omega, small := by rw [j2]; exact hL, vone := h.vone, tone := h.tone }
  · have hcs := h.fs c hc
    have : w.heap[c]? = some w.heap[c] := Array.getElem?_eq_getElem hcs
    rw [this]
    exact hoth c _ (fun e => h.fb (e ▸ hc)) (fun e => h.fk (e ▸ hc)) this

theorem and_hi {n : Int} (h0 : 0 ≤ n) (h1 : n < 1073741824) : IntKind.wrap .i64 ((BitVec.ofInt 64 n &&& BitVec.ofInt 64 3221225472).toNat : Int) = 0 := by
  obtain ⟨k, rfl⟩ := Int.eq_ofNat_of_zero_le h0
  have hk : k < 2 ^ 30 := by omega
  have e : (BitVec.ofInt 64 (k : Int) &&& BitVec.ofInt 64 3221225472).toNat = 0 := by
    rw [BitVec.toNat_and]
    have e1 : (BitVec.ofInt 64 (k : Int)).toNat = k := by simp; omega
    have e2 : (BitVec.ofInt 64 3221225472).toNat = 3 * 2 ^ 30 := by decide
    rw [e1, e2]
    apply Nat.eq_of_testBit_eq
    intro i
    rw [Nat.testBit_and, Nat.zero_testBit, Nat.testBit_mul_two_pow]
    by_cases hi : 30 ≤ i
    · have : k.testBit i = false := Nat.testBit_lt_two_pow (Nat.lt_of_lt_of_le hk (Nat.pow_le_pow_right (by decide) hi))
      simp [this]
    · simp [hi]
  rw [e]; decide

theorem setMany_row : ∀ (bs : List UInt8) (l : List UInt8) (o : Nat), setMany (row l) o (bs.map B) = row (sets l o bs)
  | [], _, _ => rfl
  | b :: bs, l, o => by
    rw [List.map_cons, setMany, row_set, setMany_row bs]; rfl
theorem row_extract (l : List UInt8) (k : Nat) : ((row l).extract 0 k).toList = (l.take k).map B := by
  simp [row, List.map_take]
theorem row_rep (n : Nat) : Array.replicate n (Value.int .u8 0) = row (List.replicate n 0) := by
  apply Array.ext'
  simp [row]; exact .inr rfl


theorem zc_u8 (n : Nat) : Builtin.zeroCells #[Value.int .u8 0] n = row (List.replicate n 0) := by
  rw [← row_rep]
  unfold Builtin.zeroCells
  apply Array.ext
  · simp
  · intro j h1 h2; simp [Nat.mod_one]
theorem row_app (a b : List UInt8) : row a ++ row b = row (a ++ b) := by simp [row]
theorem row_ext (l : List UInt8) (k : Nat) : (row l).extract 0 k = row (l.take k) := by
  apply Array.ext'; simp [row, List.map_take]

theorem c228z {F : Nat → Prop} {w : World} {bb : Nat} {S : St} {g : Gh} (h : BldG F w bb S g) (hL : g.len S ≤ 300000000) (hz : g.len S = 0) :
    CR Tryz.prog 228 #[ptr bb] w (fun v w' => v = .tuple #[] ∧ ∃ g', g'.junk.length = (if g.len S = 0 then 1 else 2 * g.len S) - S.buf.length ∧
      w'.heap[bb]? = some (.cells ((g'.cells S).setIfInBounds 5 (.int .u32 g.junk.length)) 110 (0, 0)) ∧ (∀ w2, w2.heap = (w'.setB bb (.cells (g'.cells S) 110 (0, 0))).heap → BldG F w2 bb S g') ∧ Keep F w w') := by
  have hb := h.hb
  have hk := h.hk
  have e1 : g.len S = g.junk.length + S.buf.length := rfl
  have e2 : g.cap S = g.junk.length + S.buf.length + g.extra.length := rfl
  have hlen : (g.junk ++ S.buf ++ g.extra).length = g.cap S := by simp [e2]; omega
  have htake : (g.junk ++ S.buf ++ g.extra).take (g.len S) = g.junk ++ S.buf := by
    rw [List.take_append_of_le_length (by simp; omega)]; apply List.take_of_length_le; simp; omega
  generalize hls : g.junk ++ S.buf ++ g.extra = ls at *
  refine cr_enter Tryz.func228 rfl Tryz.ntmps228 ?_
  refine gk_seq ?_
  refine gk_seq ?_
  refine gk_region ?_
  refine gr_v (ev_mv rfl) ?_
  refine gr_v (ev_nil rfl) ?_
  refine gr_v (ev_fa (j := 0) rfl Tryz.runUnderlying110 rfl Tryz.sizeOf69 rfl rfl) ?_
  refine gr_v (ev_ld rfl Tryz.isAgg69 (by first | exact hb | exact hk) (by rfl)) ?_
  refine gr_v (ev_len rfl ⟨_, rfl, _, Tryz.runUnderlying69⟩) ?_
  refine gr_v (ev_and rfl rfl (and_hi (by omega) (by omega))) ?_
  refine gr_v (ev_neq rfl rfl) ?_
  refine gr_nil ?_
  refine gk_false rfl (rfl) ?_
  refine gk_skip ?_
  refine gk_seq ?_
  refine gk_region ?_
  refine gr_v (ev_mv rfl) ?_
  refine gr_v (ev_nil rfl) ?_
  refine gr_v (ev_fa (j := 0) rfl Tryz.runUnderlying110 rfl Tryz.sizeOf69 rfl rfl) ?_
  refine gr_v (ev_ld rfl Tryz.isAgg69 (by first | exact hb | exact hk) (by rfl)) ?_
  refine gr_v (ev_len rfl ⟨_, rfl, _, Tryz.runUnderlying69⟩) ?_
  refine gr_v (ev_mul rfl rfl (w_i64 (by omega) (by omega))) ?_
  refine gr_v (ev_as rfl) ?_
  refine gr_nil ?_
  refine gk_seq ?_
  refine gk_seq ?_
  refine gk_region ?_
  refine gr_v (ev_mv rfl) ?_
  refine gr_v (ev_eql rfl rfl) ?_
  refine gr_nil ?_
  refine gk_true rfl (by rw [beq_iff_eq]; omega) ?_
  refine gk_region ?_
  refine gr_v (ev_as rfl) ?_
  refine gr_nil ?_
  refine gk_seq ?_
  refine gk_seq ?_
  refine gk_region ?_
  refine gr_v (ev_mv rfl) ?_
  refine gr_v (ev_nil rfl) ?_
  refine gr_v (ev_fa (j := 0) rfl Tryz.runUnderlying110 rfl Tryz.sizeOf69 rfl rfl) ?_
  refine gr_v (ev_ld rfl Tryz.isAgg69 (by first | exact hb | exact hk) (by rfl)) ?_
  refine gr_v (ev_cap rfl ⟨_, rfl, _, Tryz.runUnderlying69⟩) ?_
  refine gr_v (ev_mv rfl) ?_
  refine gr_v (ev_geq rfl rfl) ?_
  refine gr_nil ?_
  by_cases hc : 1 ≤ g.cap S
  ·
    refine gk_true rfl (decide_eq_true (by omega)) ?_
    refine gk_region ?_
    refine gr_v (ev_mv rfl) ?_
    refine gr_v (ev_mv rfl) ?_
    refine gr_v (ev_nil rfl) ?_
    refine gr_v (ev_fa (j := 0) rfl Tryz.runUnderlying110 rfl Tryz.sizeOf69 rfl rfl) ?_
    refine gr_v (ev_ld rfl Tryz.isAgg69 (by first | exact hb | exact hk) (by rfl)) ?_
    refine gr_v (ev_mv rfl) ?_
    refine gr_v (ev_shi rfl rfl Tryz.runUnderlying69 Tryz.sizeOf5 (by omega) (by omega)) ?_
    refine gr_v (ev_nil rfl) ?_
    refine gr_v (ev_fa (j := 0) rfl Tryz.runUnderlying110 rfl Tryz.sizeOf69 rfl rfl) ?_
    refine gr_st rfl rfl (by rfl) Tryz.sizeOf69 (by first | exact hb | exact hk) (by rfl) (by rfl) ?_
    intro w1 hw1 hbn
    have hb1 := hbn; clear hbn
    have hk1 := sb_at hw1 h.bk hk
    refine gr_nil ?_
    have ec : ((1 : Int)).toNat = 1 := by omega
    rw [ec] at hb1 hw1
    refine gk_seq ?_
    refine gk_region ?_
    refine gr_v (ev_mv rfl) ?_
    refine gr_v (ev_quo (r := g.len S) rfl rfl (by decide) (by rw [show ((1 : Int)).tdiv 2 = (g.len S : Int) from by rw [hz]; rfl]; exact w_i64 (by omega) (by omega))) ?_
    refine gr_v (ev_as rfl) ?_
    refine gr_nil ?_
    refine gk_draw (fun w' => w'.heap[bb]? = some (.cells ((g.cells S).setIfInBounds 0 (.slice (some ⟨g.kb, 0, none⟩) 1 (g.cap S))) 110 (0, 0))) (by kernel_rfl) ?_
    have hS := hb1
    refine ga_take 0 rfl (by kernel_rfl) (fun _ _ => (ev_mv rfl)) hS ?_
    refine ga_take 1 rfl (by kernel_rfl) (fun _ _ => (ev_nil rfl)) hS ?_
    refine ga_take 2 rfl (by kernel_rfl) (fun _ _ => (ev_fa (j := 0) rfl Tryz.runUnderlying110 rfl Tryz.sizeOf69 rfl rfl)) hS ?_
    refine ga_take 3 rfl (by kernel_rfl) (fun _ hs => (ev_ld rfl Tryz.isAgg69 (by first | exact hs | exact hs.1 | exact hs.2 | exact hs.2.1 | exact hs.2.2) (by rfl))) hS ?_
    refine ga_take 4 rfl (by kernel_rfl) (fun _ _ => (ev_mv rfl)) hS ?_
    refine ga_take 5 rfl (by kernel_rfl) (fun _ _ => (ev_slo (a' := g.len S) rfl rfl Tryz.runUnderlying69 Tryz.sizeOf5 (by omega) (by omega) (by omega) (by omega))) hS ?_
    refine ga_take 6 rfl (by kernel_rfl) (fun _ _ => (ev_mv rfl)) hS ?_
    refine ga_take 7 rfl (by kernel_rfl) (fun _ _ => (ev_nil rfl)) hS ?_
    refine ga_take 8 rfl (by kernel_rfl) (fun _ _ => (ev_fa (j := 0) rfl Tryz.runUnderlying110 rfl Tryz.sizeOf69 rfl rfl)) hS ?_
    refine ga_take 9 rfl (by kernel_rfl) (fun _ hs => (ev_ld rfl Tryz.isAgg69 (by first | exact hs | exact hs.1 | exact hs.2 | exact hs.2.1 | exact hs.2.2) (by rfl))) hS ?_
    refine ga_take 10 rfl (by kernel_rfl) (fun _ _ => (ev_mv rfl)) hS ?_
    refine ga_take 11 rfl (by kernel_rfl) (fun _ _ => (ev_shi rfl rfl Tryz.runUnderlying69 Tryz.sizeOf5 (by omega) (by omega))) hS ?_
    refine ga_v 12 rfl (by kernel_rfl) (ev_copy (k := g.len S) (cs' := row (sets ls (g.len S) (ls.take (g.len S)))) rfl rfl rfl Tryz.runUnderlying69 Tryz.sizeOf5 (dr_heap hk1) (dr_heap hk1) (by simp only [Int.toNat_natCast]; exact Nat.min_eq_left (by omega)) (by rw [row_size]; omega) (by rw [row_size]; omega) (by rw [Nat.zero_add, row_extract]; intro v hv; obtain ⟨u, _, rfl⟩ := List.mem_map.1 hv; rfl) (by rw [Nat.zero_add, row_extract]; exact setMany_row _ _ _)) ?_ ?_
    · exact sb_ne (by first | exact h.bk.symm | (have := lt_of_heap hb; omega)) hS
    refine ga_nil (by kernel_rfl) ?_
    refine gk_end0 Tryz.results228 ?_
    exact ⟨_, rfl, rfl, by rw [if_pos hz]; exact grown h g.kb ls 1 (by rw [if_pos hz]) (by omega) htake (sb_same (dr_heap hk1)) (by rw [hlen]; exact sb_ne h.bk.symm (dr_heap hb1)) (fun c x n1 n2 hx => sb_ne n2 (dr_heap (sb_at hw1 n1 hx))) (.inl rfl) (by rw [sb_size]; show w.heap.size ≤ w1.heap.size; rw [hw1, sb_size]; exact Nat.le_refl _) (by omega)⟩
  ·
    refine gk_false rfl (decide_eq_false (by omega)) ?_
    refine gk_seq ?_
    refine gk_region ?_
    refine gr_v (ev_mv rfl) ?_
    refine gr_v (ev_mv rfl) ?_
    refine gr_v (ev_nil rfl) ?_
    refine gr_v (ev_fa (j := 0) rfl Tryz.runUnderlying110 rfl Tryz.sizeOf69 rfl rfl) ?_
    refine gr_v (ev_ld rfl Tryz.isAgg69 (by first | exact hb | exact hk) (by rfl)) ?_
    refine gr_v (ev_len rfl ⟨_, rfl, _, Tryz.runUnderlying69⟩) ?_
    refine gr_v (ev_sub rfl rfl (w_i64 (by omega) (by omega))) ?_
    refine gr_v (ev_mk (c := (1 - g.len S)) (cap' := (1 - g.len S)) rfl rfl Tryz.runUnderlying69 Tryz.typeInfo5 Tryz.sizeOf5 Tryz.zeroValue5 rfl (by omega) (by omega) (by omega) rfl (by omega) (by omega)) ?_
    refine gr_v (ev_as rfl) ?_
    refine gr_nil ?_
    refine gk_region ?_
    refine gr_v (ev_mv rfl) ?_
    refine gr_v (ev_mv rfl) ?_
    refine gr_v (ev_nil rfl) ?_
    refine gr_v (ev_fa (j := 0) rfl Tryz.runUnderlying110 rfl Tryz.sizeOf69 rfl rfl) ?_
    refine gr_v (ev_ld rfl Tryz.isAgg69 (by first | exact (al_old hb) | exact (al_old hk)) (by rfl)) ?_
    refine gr_v (ev_mv rfl) ?_
    have hbA := al_old (o := .cells (Array.replicate (1 - g.len S) (.int .u8 0)) 5 (0, 0)) hb
    have hkA := al_old (o := .cells (Array.replicate (1 - g.len S) (.int .u8 0)) 5 (0, 0)) hk
    have hxA := al_new (w := w) (o := .cells (Array.replicate (1 - g.len S) (.int .u8 0)) 5 (0, 0))
    rw [row_rep] at hbA hkA hxA ⊢
    obtain ⟨c, hcc, ha⟩ := run_append_grow (P := Tryz.prog) (T := 69) (t := 69) (t2 := 69) (ats := #[69, 69]) (need := 1) rfl rfl Tryz.runUnderlying69 Tryz.runUnderlying69 Tryz.typeInfo5 Tryz.sizeOf5 Tryz.zeroValue5 (n := (1 - g.len S)) (v2 := .slice (some ⟨w.heap.size, 0, none⟩) (1 - g.len S) (1 - g.len S)) (fun _ => rfl) (by omega) (cap := g.cap S) (len := g.len S) (by omega) (by rw [show Tryz.t5.bytes = 1 from rfl]; omega) (by omega) (by rw [show Tryz.t5.bytes = 1 from rfl]; omega) (first_row (b := g.kb) (o := 0) hkA (by rw [row_size]; omega)) (first_row (b := w.heap.size) (o := 0) hxA (by rw [row_size]; simp))
    refine gr_v (ev_append rfl rfl ha) ?_
    refine gr_v (ev_nil rfl) ?_
    refine gr_v (ev_fa (j := 0) rfl Tryz.runUnderlying110 rfl Tryz.sizeOf69 rfl rfl) ?_
    refine gr_st rfl rfl (by rfl) Tryz.sizeOf69 (al_old (dr_heap hbA)) (by rfl) (by rfl) ?_
    intro w1 hw1 hb1
    refine gr_nil ?_
    have hl1 : (List.take (g.len S) ls).length = g.len S := by simp; omega
    have hk1 := sb_at hw1 (c := (w.alloc (.cells (row (List.replicate (1 - g.len S) 0)) 5 (0, 0))).heap.size) (by rw [al_size]; have := lt_of_heap hb; omega) (al_new (w := (w.alloc (.cells (row (List.replicate (1 - g.len S) 0)) 5 (0, 0))).drew))
    rw [al_size] at hb1 hk1
    rw [show ((0 : Nat) + g.len S * 1) = g.len S by omega, show ((0 : Nat) + (1 - g.len S) * 1) = (1 - g.len S) by omega, row_ext, row_ext, show (Value.int .u8 0).cells = #[Value.int .u8 0] from rfl, zc_u8, row_app, row_app] at hk1
    generalize hls1 : List.take (g.len S) ls ++ List.take (1 - g.len S) (List.replicate (1 - g.len S) 0) ++ List.replicate (c - 1) 0 = ls1 at hk1
    have hlen1 : ls1.length = c := by rw [← hls1]; simp; omega
    have htake1 : ls1.take (g.len S) = g.junk ++ S.buf := by rw [← hls1, List.append_assoc, List.take_append_of_le_length (by omega), List.take_take, Nat.min_self]; exact htake
    refine gk_seq ?_
    refine gk_region ?_
    refine gr_v (ev_mv rfl) ?_
    refine gr_v (ev_quo (r := g.len S) rfl rfl (by decide) (by rw [show ((1 : Int)).tdiv 2 = (g.len S : Int) from by rw [hz]; rfl]; exact w_i64 (by omega) (by omega))) ?_
    refine gr_v (ev_as rfl) ?_
    refine gr_nil ?_
    refine gk_draw (fun w' => w'.heap[bb]? = some (.cells ((g.cells S).setIfInBounds 0 (.slice (some ⟨(w.heap.size + 1), 0, none⟩) 1 c)) 110 (0, 0))) (by kernel_rfl) ?_
    have hS := hb1
    refine ga_take 0 rfl (by kernel_rfl) (fun _ _ => (ev_mv rfl)) hS ?_
    refine ga_take 1 rfl (by kernel_rfl) (fun _ _ => (ev_nil rfl)) hS ?_
    refine ga_take 2 rfl (by kernel_rfl) (fun _ _ => (ev_fa (j := 0) rfl Tryz.runUnderlying110 rfl Tryz.sizeOf69 rfl rfl)) hS ?_
    refine ga_take 3 rfl (by kernel_rfl) (fun _ hs => (ev_ld rfl Tryz.isAgg69 (by first | exact hs | exact hs.1 | exact hs.2 | exact hs.2.1 | exact hs.2.2) (by rfl))) hS ?_
    refine ga_take 4 rfl (by kernel_rfl) (fun _ _ => (ev_mv rfl)) hS ?_
    refine ga_take 5 rfl (by kernel_rfl) (fun _ _ => (ev_slo (a' := g.len S) rfl rfl Tryz.runUnderlying69 Tryz.sizeOf5 (by omega) (by omega) (by omega) (by omega))) hS ?_
    refine ga_take 6 rfl (by kernel_rfl) (fun _ _ => (ev_mv rfl)) hS ?_
    refine ga_take 7 rfl (by kernel_rfl) (fun _ _ => (ev_nil rfl)) hS ?_
    refine ga_take 8 rfl (by kernel_rfl) (fun _ _ => (ev_fa (j := 0) rfl Tryz.runUnderlying110 rfl Tryz.sizeOf69 rfl rfl)) hS ?_
    refine ga_take 9 rfl (by kernel_rfl) (fun _ hs => (ev_ld rfl Tryz.isAgg69 (by first | exact hs | exact hs.1 | exact hs.2 | exact hs.2.1 | exact hs.2.2) (by rfl))) hS ?_
    refine ga_take 10 rfl (by kernel_rfl) (fun _ _ => (ev_mv rfl)) hS ?_
    refine ga_take 11 rfl (by kernel_rfl) (fun _ _ => (ev_shi rfl rfl Tryz.runUnderlying69 Tryz.sizeOf5 (by omega) (by omega))) hS ?_
    refine ga_v 12 rfl (by kernel_rfl) (ev_copy (k := g.len S) (cs' := row (sets ls1 (g.len S) (ls1.take (g.len S)))) rfl rfl rfl Tryz.runUnderlying69 Tryz.sizeOf5 (dr_heap hk1) (dr_heap hk1) (by simp only [Int.toNat_natCast]; exact Nat.min_eq_left (by omega)) (by rw [row_size]; omega) (by rw [row_size]; omega) (by rw [Nat.zero_add, row_extract]; intro v hv; obtain ⟨u, _, rfl⟩ := List.mem_map.1 hv; rfl) (by rw [Nat.zero_add, row_extract]; exact setMany_row _ _ _)) ?_ ?_
    · exact sb_ne (by first | exact h.bk.symm | (have := lt_of_heap hb; omega)) hS
    refine ga_nil (by kernel_rfl) ?_
    refine gk_end0 Tryz.results228 ?_
    have hs1 : w1.heap.size = w.heap.size + 2 := by rw [hw1, sb_size, al_size]; show (w.alloc _).heap.size + 1 = _; rw [al_size]
    exact ⟨_, rfl, rfl, by rw [if_pos hz]; exact grown h (w.heap.size + 1) ls1 1 (by rw [if_pos hz]) (by omega) htake1 (sb_same (dr_heap hk1)) (by rw [hlen1]; exact sb_ne (by have := lt_of_heap hb; omega) (dr_heap hb1)) (fun c x n1 n2 hx => sb_ne (by have := lt_of_heap hx; omega) (dr_heap (sb_at hw1 n1 (al_old (dr_heap (al_old hx)))))) (.inr (by omega)) (by rw [sb_size]; show w.heap.size ≤ w1.heap.size; omega) (by omega)⟩

theorem c228p {F : Nat → Prop} {w : World} {bb : Nat} {S : St} {g : Gh} (h : BldG F w bb S g) (hL : g.len S ≤ 300000000) (hz : 0 < g.len S) :
    CR Tryz.prog 228 #[ptr bb] w (fun v w' => v = .tuple #[] ∧ ∃ g', g'.junk.length = (if g.len S = 0 then 1 else 2 * g.len S) - S.buf.length ∧
      w'.heap[bb]? = some (.cells ((g'.cells S).setIfInBounds 5 (.int .u32 g.junk.length)) 110 (0, 0)) ∧ (∀ w2, w2.heap = (w'.setB bb (.cells (g'.cells S) 110 (0, 0))).heap → BldG F w2 bb S g') ∧ Keep F w w') := by
  have hb := h.hb
  have hk := h.hk
  have e1 : g.len S = g.junk.length + S.buf.length := rfl
  have e2 : g.cap S = g.junk.length + S.buf.length + g.extra.length := rfl
  have hlen : (g.junk ++ S.buf ++ g.extra).length = g.cap S := by simp [e2]; omega
  have htake : (g.junk ++ S.buf ++ g.extra).take (g.len S) = g.junk ++ S.buf := by
    rw [List.take_append_of_le_length (by simp; omega)]; apply List.take_of_length_le; simp; omega
  generalize hls : g.junk ++ S.buf ++ g.extra = ls at *
  refine cr_enter Tryz.func228 rfl Tryz.ntmps228 ?_
  refine gk_seq ?_
  refine gk_seq ?_
  refine gk_region ?_
  refine gr_v (ev_mv rfl) ?_
  refine gr_v (ev_nil rfl) ?_
  refine gr_v (ev_fa (j := 0) rfl Tryz.runUnderlying110 rfl Tryz.sizeOf69 rfl rfl) ?_
  refine gr_v (ev_ld rfl Tryz.isAgg69 (by first | exact hb | exact hk) (by rfl)) ?_
  refine gr_v (ev_len rfl ⟨_, rfl, _, Tryz.runUnderlying69⟩) ?_
  refine gr_v (ev_and rfl rfl (and_hi (by omega) (by omega))) ?_
  refine gr_v (ev_neq rfl rfl) ?_
  refine gr_nil ?_
  refine gk_false rfl (rfl) ?_
  refine gk_skip ?_
  refine gk_seq ?_
  refine gk_region ?_
  refine gr_v (ev_mv rfl) ?_
  refine gr_v (ev_nil rfl) ?_
  refine gr_v (ev_fa (j := 0) rfl Tryz.runUnderlying110 rfl Tryz.sizeOf69 rfl rfl) ?_
  refine gr_v (ev_ld rfl Tryz.isAgg69 (by first | exact hb | exact hk) (by rfl)) ?_
  refine gr_v (ev_len rfl ⟨_, rfl, _, Tryz.runUnderlying69⟩) ?_
  refine gr_v (ev_mul rfl rfl (w_i64 (by omega) (by omega))) ?_
  refine gr_v (ev_as rfl) ?_
  refine gr_nil ?_
  refine gk_seq ?_
  refine gk_seq ?_
  refine gk_region ?_
  refine gr_v (ev_mv rfl) ?_
  refine gr_v (ev_eql rfl rfl) ?_
  refine gr_nil ?_
  refine gk_false rfl (by rw [beq_eq_false_iff_ne]; omega) ?_
  refine gk_skip ?_
  refine gk_seq ?_
  refine gk_seq ?_
  refine gk_region ?_
  refine gr_v (ev_mv rfl) ?_
  refine gr_v (ev_nil rfl) ?_
  refine gr_v (ev_fa (j := 0) rfl Tryz.runUnderlying110 rfl Tryz.sizeOf69 rfl rfl) ?_
  refine gr_v (ev_ld rfl Tryz.isAgg69 (by first | exact hb | exact hk) (by rfl)) ?_
  refine gr_v (ev_cap rfl ⟨_, rfl, _, Tryz.runUnderlying69⟩) ?_
  refine gr_v (ev_mv rfl) ?_
  refine gr_v (ev_geq rfl rfl) ?_
  refine gr_nil ?_
  by_cases hc : (2 * g.len S) ≤ g.cap S
  ·
    refine gk_true rfl (decide_eq_true (by omega)) ?_
    refine gk_region ?_
    refine gr_v (ev_mv rfl) ?_
    refine gr_v (ev_mv rfl) ?_
    refine gr_v (ev_nil rfl) ?_
    refine gr_v (ev_fa (j := 0) rfl Tryz.runUnderlying110 rfl Tryz.sizeOf69 rfl rfl) ?_
    refine gr_v (ev_ld rfl Tryz.isAgg69 (by first | exact hb | exact hk) (by rfl)) ?_
    refine gr_v (ev_mv rfl) ?_
    refine gr_v (ev_shi rfl rfl Tryz.runUnderlying69 Tryz.sizeOf5 (by omega) (by omega)) ?_
    refine gr_v (ev_nil rfl) ?_
    refine gr_v (ev_fa (j := 0) rfl Tryz.runUnderlying110 rfl Tryz.sizeOf69 rfl rfl) ?_
    refine gr_st rfl rfl (by rfl) Tryz.sizeOf69 (by first | exact hb | exact hk) (by rfl) (by rfl) ?_
    intro w1 hw1 hbn
    have hb1 := hbn; clear hbn
    have hk1 := sb_at hw1 h.bk hk
    refine gr_nil ?_
    have ec : (((g.len S : Int) * 2 : Int)).toNat = (2 * g.len S) := by omega
    rw [ec] at hb1 hw1
    refine gk_seq ?_
    refine gk_region ?_
    refine gr_v (ev_mv rfl) ?_
    refine gr_v (ev_quo (r := g.len S) rfl rfl (by decide) (by rw [show (((g.len S : Int) * 2 : Int)).tdiv 2 = (g.len S : Int) from Int.mul_tdiv_cancel _ (by decide)]; exact w_i64 (by omega) (by omega))) ?_
    refine gr_v (ev_as rfl) ?_
    refine gr_nil ?_
    refine gk_draw (fun w' => w'.heap[bb]? = some (.cells ((g.cells S).setIfInBounds 0 (.slice (some ⟨g.kb, 0, none⟩) (2 * g.len S) (g.cap S))) 110 (0, 0))) (by kernel_rfl) ?_
    have hS := hb1
    refine ga_take 0 rfl (by kernel_rfl) (fun _ _ => (ev_mv rfl)) hS ?_
    refine ga_take 1 rfl (by kernel_rfl) (fun _ _ => (ev_nil rfl)) hS ?_
    refine ga_take 2 rfl (by kernel_rfl) (fun _ _ => (ev_fa (j := 0) rfl Tryz.runUnderlying110 rfl Tryz.sizeOf69 rfl rfl)) hS ?_
    refine ga_take 3 rfl (by kernel_rfl) (fun _ hs => (ev_ld rfl Tryz.isAgg69 (by first | exact hs | exact hs.1 | exact hs.2 | exact hs.2.1 | exact hs.2.2) (by rfl))) hS ?_
    refine ga_take 4 rfl (by kernel_rfl) (fun _ _ => (ev_mv rfl)) hS ?_
    refine ga_take 5 rfl (by kernel_rfl) (fun _ _ => (ev_slo (a' := g.len S) rfl rfl Tryz.runUnderlying69 Tryz.sizeOf5 (by omega) (by omega) (by omega) (by omega))) hS ?_
    refine ga_take 6 rfl (by kernel_rfl) (fun _ _ => (ev_mv rfl)) hS ?_
    refine ga_take 7 rfl (by kernel_rfl) (fun _ _ => (ev_nil rfl)) hS ?_
    refine ga_take 8 rfl (by kernel_rfl) (fun _ _ => (ev_fa (j := 0) rfl Tryz.runUnderlying110 rfl Tryz.sizeOf69 rfl rfl)) hS ?_
    refine ga_take 9 rfl (by kernel_rfl) (fun _ hs => (ev_ld rfl Tryz.isAgg69 (by first | exact hs | exact hs.1 | exact hs.2 | exact hs.2.1 | exact hs.2.2) (by rfl))) hS ?_
    refine ga_take 10 rfl (by kernel_rfl) (fun _ _ => (ev_mv rfl)) hS ?_
    refine ga_take 11 rfl (by kernel_rfl) (fun _ _ => (ev_shi rfl rfl Tryz.runUnderlying69 Tryz.sizeOf5 (by omega) (by omega))) hS ?_
    refine ga_v 12 rfl (by kernel_rfl) (ev_copy (k := g.len S) (cs' := row (sets ls (g.len S) (ls.take (g.len S)))) rfl rfl rfl Tryz.runUnderlying69 Tryz.sizeOf5 (dr_heap hk1) (dr_heap hk1) (by simp only [Int.toNat_natCast]; exact Nat.min_eq_left (by omega)) (by rw [row_size]; omega) (by rw [row_size]; omega) (by rw [Nat.zero_add, row_extract]; intro v hv; obtain ⟨u, _, rfl⟩ := List.mem_map.1 hv; rfl) (by rw [Nat.zero_add, row_extract]; exact setMany_row _ _ _)) ?_ ?_
    · exact sb_ne (by first | exact h.bk.symm | (have := lt_of_heap hb; omega)) hS
    refine ga_nil (by kernel_rfl) ?_
    refine gk_end0 Tryz.results228 ?_
    exact ⟨_, rfl, rfl, by rw [if_neg (by omega)]; exact grown h g.kb ls (2 * g.len S) (by rw [if_neg (by omega)]) (by omega) htake (sb_same (dr_heap hk1)) (by rw [hlen]; exact sb_ne h.bk.symm (dr_heap hb1)) (fun c x n1 n2 hx => sb_ne n2 (dr_heap (sb_at hw1 n1 hx))) (.inl rfl) (by rw [sb_size]; show w.heap.size ≤ w1.heap.size; rw [hw1, sb_size]; exact Nat.le_refl _) (by omega)⟩
  ·
    refine gk_false rfl (decide_eq_false (by omega)) ?_
    refine gk_seq ?_
    refine gk_region ?_
    refine gr_v (ev_mv rfl) ?_
    refine gr_v (ev_mv rfl) ?_
    refine gr_v (ev_nil rfl) ?_
    refine gr_v (ev_fa (j := 0) rfl Tryz.runUnderlying110 rfl Tryz.sizeOf69 rfl rfl) ?_
    refine gr_v (ev_ld rfl Tryz.isAgg69 (by first | exact hb | exact hk) (by rfl)) ?_
    refine gr_v (ev_len rfl ⟨_, rfl, _, Tryz.runUnderlying69⟩) ?_
    refine gr_v (ev_sub rfl rfl (w_i64 (by omega) (by omega))) ?_
    refine gr_v (ev_mk (c := ((2 * g.len S) - g.len S)) (cap' := ((2 * g.len S) - g.len S)) rfl rfl Tryz.runUnderlying69 Tryz.typeInfo5 Tryz.sizeOf5 Tryz.zeroValue5 rfl (by omega) (by omega) (by omega) rfl (by omega) (by omega)) ?_
    refine gr_v (ev_as rfl) ?_
    refine gr_nil ?_
    refine gk_region ?_
    refine gr_v (ev_mv rfl) ?_
    refine gr_v (ev_mv rfl) ?_
    refine gr_v (ev_nil rfl) ?_
    refine gr_v (ev_fa (j := 0) rfl Tryz.runUnderlying110 rfl Tryz.sizeOf69 rfl rfl) ?_
    refine gr_v (ev_ld rfl Tryz.isAgg69 (by first | exact (al_old hb) | exact (al_old hk)) (by rfl)) ?_
    refine gr_v (ev_mv rfl) ?_
    have hbA := al_old (o := .cells (Array.replicate ((2 * g.len S) - g.len S) (.int .u8 0)) 5 (0, 0)) hb
    have hkA := al_old (o := .cells (Array.replicate ((2 * g.len S) - g.len S) (.int .u8 0)) 5 (0, 0)) hk
    have hxA := al_new (w := w) (o := .cells (Array.replicate ((2 * g.len S) - g.len S) (.int .u8 0)) 5 (0, 0))
    rw [row_rep] at hbA hkA hxA ⊢
    obtain ⟨c, hcc, ha⟩ := run_append_grow (P := Tryz.prog) (T := 69) (t := 69) (t2 := 69) (ats := #[69, 69]) (need := (2 * g.len S)) rfl rfl Tryz.runUnderlying69 Tryz.runUnderlying69 Tryz.typeInfo5 Tryz.sizeOf5 Tryz.zeroValue5 (n := ((2 * g.len S) - g.len S)) (v2 := .slice (some ⟨w.heap.size, 0, none⟩) ((2 * g.len S) - g.len S) ((2 * g.len S) - g.len S)) (fun _ => rfl) (by omega) (cap := g.cap S) (len := g.len S) (by omega) (by rw [show Tryz.t5.bytes = 1 from rfl]; omega) (by omega) (by rw [show Tryz.t5.bytes = 1 from rfl]; omega) (first_row (b := g.kb) (o := 0) hkA (by rw [row_size]; omega)) (first_row (b := w.heap.size) (o := 0) hxA (by rw [row_size]; simp))
    refine gr_v (ev_append rfl rfl ha) ?_
    refine gr_v (ev_nil rfl) ?_
    refine gr_v (ev_fa (j := 0) rfl Tryz.runUnderlying110 rfl Tryz.sizeOf69 rfl rfl) ?_
    refine gr_st rfl rfl (by rfl) Tryz.sizeOf69 (al_old (dr_heap hbA)) (by rfl) (by rfl) ?_
    intro w1 hw1 hb1
    refine gr_nil ?_
    have hl1 : (List.take (g.len S) ls).length = g.len S := by simp; omega
    have hk1 := sb_at hw1 (c := (w.alloc (.cells (row (List.replicate ((2 * g.len S) - g.len S) 0)) 5 (0, 0))).heap.size) (by rw [al_size]; have := lt_of_heap hb; omega) (al_new (w := (w.alloc (.cells (row (List.replicate ((2 * g.len S) - g.len S) 0)) 5 (0, 0))).drew))
    rw [al_size] at hb1 hk1
    rw [show ((0 : Nat) + g.len S * 1) = g.len S by omega, show ((0 : Nat) + ((2 * g.len S) - g.len S) * 1) = ((2 * g.len S) - g.len S) by omega, row_ext, row_ext, show (Value.int .u8 0).cells = #[Value.int .u8 0] from rfl, zc_u8, row_app, row_app] at hk1
    generalize hls1 : List.take (g.len S) ls ++ List.take ((2 * g.len S) - g.len S) (List.replicate ((2 * g.len S) - g.len S) 0) ++ List.replicate (c - (2 * g.len S)) 0 = ls1 at hk1
    have hlen1 : ls1.length = c := by rw [← hls1]; simp; omega
    have htake1 : ls1.take (g.len S) = g.junk ++ S.buf := by rw [← hls1, List.append_assoc, List.take_append_of_le_length (by omega), List.take_take, Nat.min_self]; exact htake
    refine gk_seq ?_
    refine gk_region ?_
    refine gr_v (ev_mv rfl) ?_
    refine gr_v (ev_quo (r := g.len S) rfl rfl (by decide) (by rw [show (((g.len S : Int) * 2 : Int)).tdiv 2 = (g.len S : Int) from Int.mul_tdiv_cancel _ (by decide)]; exact w_i64 (by omega) (by omega))) ?_
    refine gr_v (ev_as rfl) ?_
    refine gr_nil ?_
    refine gk_draw (fun w' => w'.heap[bb]? = some (.cells ((g.cells S).setIfInBounds 0 (.slice (some ⟨(w.heap.size + 1), 0, none⟩) (2 * g.len S) c)) 110 (0, 0))) (by kernel_rfl) ?_
    have hS := hb1
    refine ga_take 0 rfl (by kernel_rfl) (fun _ _ => (ev_mv rfl)) hS ?_
    refine ga_take 1 rfl (by kernel_rfl) (fun _ _ => (ev_nil rfl)) hS ?_
    refine ga_take 2 rfl (by kernel_rfl) (fun _ _ => (ev_fa (j := 0) rfl Tryz.runUnderlying110 rfl Tryz.sizeOf69 rfl rfl)) hS ?_
    refine ga_take 3 rfl (by kernel_rfl) (fun _ hs => (ev_ld rfl Tryz.isAgg69 (by first | exact hs | exact hs.1 | exact hs.2 | exact hs.2.1 | exact hs.2.2) (by rfl))) hS ?_
    refine ga_take 4 rfl (by kernel_rfl) (fun _ _ => (ev_mv rfl)) hS ?_
    refine ga_take 5 rfl (by kernel_rfl) (fun _ _ => (ev_slo (a' := g.len S) rfl rfl Tryz.runUnderlying69 Tryz.sizeOf5 (by omega) (by omega) (by omega) (by omega))) hS ?_
    refine ga_take 6 rfl (by kernel_rfl) (fun _ _ => (ev_mv rfl)) hS ?_
    refine ga_take 7 rfl (by kernel_rfl) (fun _ _ => (ev_nil rfl)) hS ?_
    refine ga_take 8 rfl (by kernel_rfl) (fun _ _ => (ev_fa (j := 0) rfl Tryz.runUnderlying110 rfl Tryz.sizeOf69 rfl rfl)) hS ?_
    refine ga_take 9 rfl (by kernel_rfl) (fun _ hs => (ev_ld rfl Tryz.isAgg69 (by first | exact hs | exact hs.1 | exact hs.2 | exact hs.2.1 | exact hs.2.2) (by rfl))) hS ?_
    refine ga_take 10 rfl (by kernel_rfl) (fun _ _ => (ev_mv rfl)) hS ?_
    refine ga_take 11 rfl (by kernel_rfl) (fun _ _ => (ev_shi rfl rfl Tryz.runUnderlying69 Tryz.sizeOf5 (by omega) (by omega))) hS ?_
    refine ga_v 12 rfl (by kernel_rfl) (ev_copy (k := g.len S) (cs' := row (sets ls1 (g.len S) (ls1.take (g.len S)))) rfl rfl rfl Tryz.runUnderlying69 Tryz.sizeOf5 (dr_heap hk1) (dr_heap hk1) (by simp only [Int.toNat_natCast]; exact Nat.min_eq_left (by omega)) (by rw [row_size]; omega) (by rw [row_size]; omega) (by rw [Nat.zero_add, row_extract]; intro v hv; obtain ⟨u, _, rfl⟩ := List.mem_map.1 hv; rfl) (by rw [Nat.zero_add, row_extract]; exact setMany_row _ _ _)) ?_ ?_
    · exact sb_ne (by first | exact h.bk.symm | (have := lt_of_heap hb; omega)) hS
    refine ga_nil (by kernel_rfl) ?_
    refine gk_end0 Tryz.results228 ?_
    have hs1 : w1.heap.size = w.heap.size + 2 := by rw [hw1, sb_size, al_size]; show (w.alloc _).heap.size + 1 = _; rw [al_size]
    exact ⟨_, rfl, rfl, by rw [if_neg (by omega)]; exact grown h (w.heap.size + 1) ls1 (2 * g.len S) (by rw [if_neg (by omega)]) (by omega) htake1 (sb_same (dr_heap hk1)) (by rw [hlen1]; exact sb_ne (by have := lt_of_heap hb; omega) (dr_heap hb1)) (fun c x n1 n2 hx => sb_ne (by have := lt_of_heap hx; omega) (dr_heap (sb_at hw1 n1 (al_old (dr_heap (al_old hx)))))) (.inr (by omega)) (by rw [sb_size]; show w.heap.size ≤ w1.heap.size; omega) (by omega)⟩

theorem c228 {F : Nat → Prop} {w : World} {bb : Nat} {S : St} {g : Gh} (h : BldG F w bb S g) (hL : g.len S ≤ 300000000) :
    CR Tryz.prog 228 #[ptr bb] w (fun v w' => v = .tuple #[] ∧ ∃ g', g'.junk.length = (if g.len S = 0 then 1 else 2 * g.len S) - S.buf.length ∧
      w'.heap[bb]? = some (.cells ((g'.cells S).setIfInBounds 5 (.int .u32 g.junk.length)) 110 (0, 0)) ∧ (∀ w2, w2.heap = (w'.setB bb (.cells (g'.cells S) 110 (0, 0))).heap → BldG F w2 bb S g') ∧ Keep F w w') := by
  by_cases hz : g.len S = 0
  · exact c228z h hL hz
  · exact c228p h hL (by omega)
end Go.Proofs.YtjaplgfgkigmiaaGreat