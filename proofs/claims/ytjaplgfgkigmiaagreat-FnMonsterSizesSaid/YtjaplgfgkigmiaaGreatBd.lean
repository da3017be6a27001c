/-
  The builder's own small functions.
-/
import Derived.Test.YtjaplgfgkigmiaaGreatWr
namespace Go.Proofs.YtjaplgfgkigmiaaGreat
open Go Go.Proofs

abbrev ptr (b : Nat) : Value := .pointer (some ⟨b, 0, none⟩)
theorem hp {w w' : World} {b : Nat} {x : Obj} (hh : w'.heap = w.heap) (h : w.heap[b]? = some x) : w'.heap[b]? = some x := by rw [hh]; exact h

/-- A step of a builder without an answer. -/
def BOp (f : FuncId) (args : List Value) (m : St → Option St) : Prop := ∀ F w bb S S', Bld F w bb S → m S = some S' →
  CR Tryz.prog f (ptr bb :: args).toArray w (fun v w' => v = .tuple #[] ∧ Bld F w' bb S' ∧ Keep F w w')
/-- A step that answers an offset. -/
def BVal (f : FuncId) (args : List Value) (m : St → Option (Nat × St)) : Prop := ∀ F w bb S r S', Bld F w bb S → m S = some (r, S') →
  CR Tryz.prog f (ptr bb :: args).toArray w (fun v w' => v = U r ∧ Bld F w' bb S' ∧ Keep F w w')

theorem Gh.cells_buf {g : Gh} {S : St} {bs : List UInt8} {j : List UInt8} {r : Nat} (hj : g.junk.length = j.length + bs.length) :
    (g.cells S).setIfInBounds 5 (.int .u32 j.length) = ({ g with junk := j } : Gh).cells { S with buf := bs ++ S.buf, room := r } := by
  have e1 : ({ g with junk := j } : Gh).len { S with buf := bs ++ S.buf, room := r } = g.len S := by simp [Gh.len, hj]; omega
  have e2 : ({ g with junk := j } : Gh).cap { S with buf := bs ++ S.buf, room := r } = g.cap S := by simp [Gh.cap, hj]; omega
  unfold Gh.cells
  rw [e1, e2]
  rfl

theorem BldG.place {F : Nat → Prop} {w : World} {bb : Nat} {S : St} {g : Gh} {bs : List UInt8} (h : BldG F w bb S g) (hr : bs.length ≤ S.room) {w1 w2 : World} {m : Int} (hm : m = ((g.junk.length - bs.length : Nat) : Int))
    (h1 : w1 = w.setB bb (.cells ((g.cells S).setIfInBounds 5 (.int .u32 m)) 110 (0, 0)))
    (h2 : w2 = w1.drew.setB g.kb (.cells (row (sets (g.junk ++ S.buf ++ g.extra) (g.junk.length - bs.length) bs)) 5 (0, 0))) :
    Bld F w2 bb { S with buf := bs ++ S.buf, room := S.room - bs.length } ∧ Keep F w w2 := by
  have hroom := h.room
  have hj : g.junk.length = (g.junk.take (g.junk.length - bs.length)).length + bs.length := by simp; omega
  have hjl : (g.junk.take (g.junk.length - bs.length)).length = g.junk.length - bs.length := by simp
  rw [hm, ← hjl] at h1
  rw [Gh.cells_buf (r := S.room - bs.length) hj] at h1
  rw [sets_eq _ _ _ (by simp; omega)] at h2
  have e3 : List.take (g.junk.length - bs.length) (g.junk ++ S.buf ++ g.extra) ++ bs ++ List.drop (g.junk.length - bs.length + bs.length) (g.junk ++ S.buf ++ g.extra) = g.junk.take (g.junk.length - bs.length) ++ (bs ++ S.buf) ++ g.extra := by
    have : g.junk.length - bs.length + bs.length = g.junk.length := by omega
    rw [this, List.append_assoc g.junk, List.drop_left, List.take_append_of_le_length (by omega)]
    simp
  rw [e3] at h2
  subst h1
  have hk2 := sb_new h2 (dr_heap (sb_ne h.bk h.hk))
  have hb2 := sb_at h2 h.bk.symm (dr_heap (sb_same h.hb))
  have ho2 : ∀ c x, bb ≠ c → g.kb ≠ c → w.heap[c]? = some x → w2.heap[c]? = some x := fun c x n1 n2 hx => by
    rw [h2]; exact sb_ne n2 (dr_heap (sb_ne n1 hx))
  have hsz : w2.heap.size = w.heap.size := by rw [h2, sb_size]; exact sb_size
  refine ⟨⟨{ g with junk := g.junk.take (g.junk.length - bs.length) }, ?_⟩, ?_⟩
  · exact { hb := hb2, hk := hk2, hv := fun b hb => ho2 b _ (h.bv b hb).1 (h.bv b hb).2.1 (h.hv b hb), hv0 := h.hv0, hst := h.hst, ht := ho2 _ _ h.bt h.kt h.ht,
            bk := h.bk, bv := h.bv, bt := h.bt, kt := h.kt, fb := h.fb, fk := h.fk, fv := h.fv, ft := h.ft, fs := fun b hb => by rw [hsz]; exact h.fs b hb,
            room := by simp; omega, small := by have := h.small; simp [Gh.len] at this ⊢; omega, vone := h.vone, tone := h.tone }
  · rw [h2]; exact (Keep.setB h.fb).trans (Keep.drew.trans (Keep.setB h.fk))

theorem c349 (n : Int) : WrOK 349 (.int .u16 n) (le2 n) := by
  intro w b o len cap ls hk hl ho
  refine cr_enter Tryz.func349 rfl Tryz.ntmps349 ?_
  refine gk_region ?_
  refine gr_v (ev_mv rfl) ?_
  refine gr_v (ev_mv rfl) ?_
  refine gr_call (ec_func Tryz.call348 rfl) (c348 n _ _ _ _ _ _ hk hl ho) ?_
  rintro _ w1 ⟨rfl, h1⟩
  refine gr_nil ?_
  refine gk_end0 Tryz.results349 ?_
  exact ⟨_, rfl, rfl, h1⟩

theorem c338 (n : Int) : WrOK 338 (.int .i32 n) (le4 n) := by
  intro w b o len cap ls hk hl ho
  refine cr_enter Tryz.func338 rfl Tryz.ntmps338 ?_
  refine gk_region ?_
  refine gr_v (ev_mv rfl) ?_
  refine gr_v (ev_mv rfl) ?_
  refine gr_call (ec_func Tryz.call345 rfl) (c345 n _ _ _ _ _ _ hk hl ho) ?_
  rintro _ w1 ⟨rfl, h1⟩
  refine gr_nil ?_
  refine gk_end0 Tryz.results338 ?_
  exact ⟨_, rfl, rfl, h1⟩

theorem c294 (n : Int) : WrOK 294 (.int .u32 n) (le4 n) := by
  intro w b o len cap ls hk hl ho
  refine cr_enter Tryz.func294 rfl Tryz.ntmps294 ?_
  refine gk_region ?_
  refine gr_v (ev_mv rfl) ?_
  refine gr_v (ev_mv rfl) ?_
  refine gr_call (ec_func Tryz.call326 rfl) (c326 n _ _ _ _ _ _ hk hl ho) ?_
  rintro _ w1 ⟨rfl, h1⟩
  refine gr_nil ?_
  refine gk_end0 Tryz.results294 ?_
  exact ⟨_, rfl, rfl, h1⟩

theorem c295 (n : UInt8) : WrOK 295 (B n) [n] := by
  intro w b o len cap ls hk hl ho
  refine cr_enter Tryz.func295 rfl Tryz.ntmps295 ?_
  refine gk_region ?_
  refine gr_v (ev_mv rfl) ?_
  refine gr_v (ev_mv rfl) ?_
  refine gr_call (ec_func Tryz.call327 rfl) (c327 n _ _ _ _ _ _ hk hl ho) ?_
  rintro _ w1 ⟨rfl, h1⟩
  refine gr_nil ?_
  refine gk_end0 Tryz.results295 ?_
  exact ⟨_, rfl, rfl, h1⟩

theorem c231 (n : Int) : BOp 231 [.int .u32 n] (place (le4 n)) := by
  rintro F w bb S S' ⟨g, h⟩ hm
  unfold place at hm
  have hlen : (le4 n).length = 4 := rfl
  by_cases hc : (le4 n).length ≤ S.room
  case neg => rw [if_neg hc] at hm; exact absurd hm (by simp)
  rw [if_pos hc] at hm
  obtain rfl := Option.some.inj hm
  have hroom := h.room
  have hsm := h.small
  have e1 : g.len S = g.junk.length + S.buf.length := rfl
  have e2 : g.cap S = g.junk.length + S.buf.length + g.extra.length := rfl
  have hb := h.hb
  have hk := h.hk
  refine cr_enter Tryz.func231 rfl Tryz.ntmps231 ?_
  refine gk_seq ?_
  refine gk_region ?_
  refine gr_v (ev_mv rfl) ?_
  refine gr_v (ev_nil rfl) ?_
  refine gr_v (ev_fa (j := 5) rfl Tryz.runUnderlying110 rfl Tryz.sizeOf65 rfl rfl) ?_
  refine gr_v (ev_ld rfl Tryz.isAgg65 (by first | exact hb | exact hk) (by rfl)) ?_
  refine gr_v (ev_sub rfl rfl (w_u32 (by omega) (by omega))) ?_
  refine gr_v (ev_nil rfl) ?_
  refine gr_v (ev_fa (j := 5) rfl Tryz.runUnderlying110 rfl Tryz.sizeOf65 rfl rfl) ?_
  refine gr_st rfl rfl (by rfl) Tryz.sizeOf65 (by first | exact hb | exact hk) (by rfl) (by rfl) ?_
  intro w1 hw1 hbn
  have hb1 := hbn; clear hbn
  have hk1 := sb_at hw1 h.bk hk
  refine gr_nil ?_
  refine gk_draw (fun w' => w'.heap[bb]? = some (.cells ((g.cells S).setIfInBounds 5 (.int .u32 (↑g.junk.length - 4))) 110 (0, 0))) (by kernel_rfl) ?_
  have hS := hb1
  refine ga_take 0 rfl (by kernel_rfl) (fun _ _ => (ev_mv rfl)) hS ?_
  refine ga_take 1 rfl (by kernel_rfl) (fun _ _ => (ev_nil rfl)) hS ?_
  refine ga_take 2 rfl (by kernel_rfl) (fun _ _ => (ev_fa (j := 0) rfl Tryz.runUnderlying110 rfl Tryz.sizeOf69 rfl rfl)) hS ?_
  refine ga_take 3 rfl (by kernel_rfl) (fun _ hs => (ev_ld rfl Tryz.isAgg69 (by first | exact hs | exact hs.1 | exact hs.2 | exact hs.2.1 | exact hs.2.2) (by rfl))) hS ?_
  refine ga_take 4 rfl (by kernel_rfl) (fun _ _ => (ev_mv rfl)) hS ?_
  refine ga_take 5 rfl (by kernel_rfl) (fun _ _ => (ev_nil rfl)) hS ?_
  refine ga_take 6 rfl (by kernel_rfl) (fun _ _ => (ev_fa (j := 5) rfl Tryz.runUnderlying110 rfl Tryz.sizeOf65 rfl rfl)) hS ?_
  refine ga_take 7 rfl (by kernel_rfl) (fun _ hs => (ev_ld rfl Tryz.isAgg65 (by first | exact hs | exact hs.1 | exact hs.2 | exact hs.2.1 | exact hs.2.2) (by rfl))) hS ?_
  refine ga_take 8 rfl (by kernel_rfl) (fun _ _ => (ev_slo (a' := g.junk.length - 4) rfl rfl Tryz.runUnderlying69 Tryz.sizeOf5 (by omega) (by omega) (by omega) (by omega))) hS ?_
  refine ga_take 9 rfl (by kernel_rfl) (fun _ _ => (ev_mv rfl)) hS ?_
  refine ga_call 10 rfl (by kernel_rfl) (ec_func Tryz.call294 rfl) (c294 n _ _ (g.junk.length - 4) _ _ _ hk1 (by omega) (by simp; omega)) ?_
  rintro _ w2 ⟨rfl, h2⟩
  refine ⟨sb_at h2 h.bk.symm hb1, fun _ => ?_⟩
  refine ga_nil (by kernel_rfl) ?_
  refine gk_end0 Tryz.results231 ?_
  exact ⟨_, rfl, rfl, h.place hc (by omega) hw1 h2⟩

theorem c232 (n : UInt8) : BOp 232 [B n] (place ([n])) := by
  rintro F w bb S S' ⟨g, h⟩ hm
  unfold place at hm
  have hlen : ([n]).length = 1 := rfl
  by_cases hc : ([n]).length ≤ S.room
  case neg => rw [if_neg hc] at hm; exact absurd hm (by simp)
  rw [if_pos hc] at hm
  obtain rfl := Option.some.inj hm
  have hroom := h.room
  have hsm := h.small
  have e1 : g.len S = g.junk.length + S.buf.length := rfl
  have e2 : g.cap S = g.junk.length + S.buf.length + g.extra.length := rfl
  have hb := h.hb
  have hk := h.hk
  refine cr_enter Tryz.func232 rfl Tryz.ntmps232 ?_
  refine gk_seq ?_
  refine gk_region ?_
  refine gr_v (ev_mv rfl) ?_
  refine gr_v (ev_nil rfl) ?_
  refine gr_v (ev_fa (j := 5) rfl Tryz.runUnderlying110 rfl Tryz.sizeOf65 rfl rfl) ?_
  refine gr_v (ev_ld rfl Tryz.isAgg65 (by first | exact hb | exact hk) (by rfl)) ?_
  refine gr_v (ev_sub rfl rfl (w_u32 (by omega) (by omega))) ?_
  refine gr_v (ev_nil rfl) ?_
  refine gr_v (ev_fa (j := 5) rfl Tryz.runUnderlying110 rfl Tryz.sizeOf65 rfl rfl) ?_
  refine gr_st rfl rfl (by rfl) Tryz.sizeOf65 (by first | exact hb | exact hk) (by rfl) (by rfl) ?_
  intro w1 hw1 hbn
  have hb1 := hbn; clear hbn
  have hk1 := sb_at hw1 h.bk hk
  refine gr_nil ?_
  refine gk_draw (fun w' => w'.heap[bb]? = some (.cells ((g.cells S).setIfInBounds 5 (.int .u32 (↑g.junk.length - 1))) 110 (0, 0))) (by kernel_rfl) ?_
  have hS := hb1
  refine ga_take 0 rfl (by kernel_rfl) (fun _ _ => (ev_mv rfl)) hS ?_
  refine ga_take 1 rfl (by kernel_rfl) (fun _ _ => (ev_nil rfl)) hS ?_
  refine ga_take 2 rfl (by kernel_rfl) (fun _ _ => (ev_fa (j := 0) rfl Tryz.runUnderlying110 rfl Tryz.sizeOf69 rfl rfl)) hS ?_
  refine ga_take 3 rfl (by kernel_rfl) (fun _ hs => (ev_ld rfl Tryz.isAgg69 (by first | exact hs | exact hs.1 | exact hs.2 | exact hs.2.1 | exact hs.2.2) (by rfl))) hS ?_
  refine ga_take 4 rfl (by kernel_rfl) (fun _ _ => (ev_mv rfl)) hS ?_
  refine ga_take 5 rfl (by kernel_rfl) (fun _ _ => (ev_nil rfl)) hS ?_
  refine ga_take 6 rfl (by kernel_rfl) (fun _ _ => (ev_fa (j := 5) rfl Tryz.runUnderlying110 rfl Tryz.sizeOf65 rfl rfl)) hS ?_
  refine ga_take 7 rfl (by kernel_rfl) (fun _ hs => (ev_ld rfl Tryz.isAgg65 (by first | exact hs | exact hs.1 | exact hs.2 | exact hs.2.1 | exact hs.2.2) (by rfl))) hS ?_
  refine ga_take 8 rfl (by kernel_rfl) (fun _ _ => (ev_slo (a' := g.junk.length - 1) rfl rfl Tryz.runUnderlying69 Tryz.sizeOf5 (by omega) (by omega) (by omega) (by omega))) hS ?_
  refine ga_take 9 rfl (by kernel_rfl) (fun _ _ => (ev_mv rfl)) hS ?_
  refine ga_call 10 rfl (by kernel_rfl) (ec_func Tryz.call295 rfl) (c295 n _ _ (g.junk.length - 1) _ _ _ hk1 (by omega) (by simp; omega)) ?_
  rintro _ w2 ⟨rfl, h2⟩
  refine ⟨sb_at h2 h.bk.symm hb1, fun _ => ?_⟩
  refine ga_nil (by kernel_rfl) ?_
  refine gk_end0 Tryz.results232 ?_
  exact ⟨_, rfl, rfl, h.place hc (by omega) hw1 h2⟩

theorem c245 (n : Int) : BOp 245 [.int .i64 n] (place (le8 n)) := by
  rintro F w bb S S' ⟨g, h⟩ hm
  unfold place at hm
  have hlen : (le8 n).length = 8 := rfl
  by_cases hc : (le8 n).length ≤ S.room
  case neg => rw [if_neg hc] at hm; exact absurd hm (by simp)
  rw [if_pos hc] at hm
  obtain rfl := Option.some.inj hm
  have hroom := h.room
  have hsm := h.small
  have e1 : g.len S = g.junk.length + S.buf.length := rfl
  have e2 : g.cap S = g.junk.length + S.buf.length + g.extra.length := rfl
  have hb := h.hb
  have hk := h.hk
  refine cr_enter Tryz.func245 rfl Tryz.ntmps245 ?_
  refine gk_seq ?_
  refine gk_region ?_
  refine gr_v (ev_mv rfl) ?_
  refine gr_v (ev_nil rfl) ?_
  refine gr_v (ev_fa (j := 5) rfl Tryz.runUnderlying110 rfl Tryz.sizeOf65 rfl rfl) ?_
  refine gr_v (ev_ld rfl Tryz.isAgg65 (by first | exact hb | exact hk) (by rfl)) ?_
  refine gr_v (ev_sub rfl rfl (w_u32 (by omega) (by omega))) ?_
  refine gr_v (ev_nil rfl) ?_
  refine gr_v (ev_fa (j := 5) rfl Tryz.runUnderlying110 rfl Tryz.sizeOf65 rfl rfl) ?_
  refine gr_st rfl rfl (by rfl) Tryz.sizeOf65 (by first | exact hb | exact hk) (by rfl) (by rfl) ?_
  intro w1 hw1 hbn
  have hb1 := hbn; clear hbn
  have hk1 := sb_at hw1 h.bk hk
  refine gr_nil ?_
  refine gk_draw (fun w' => w'.heap[bb]? = some (.cells ((g.cells S).setIfInBounds 5 (.int .u32 (↑g.junk.length - 8))) 110 (0, 0))) (by kernel_rfl) ?_
  have hS := hb1
  refine ga_take 0 rfl (by kernel_rfl) (fun _ _ => (ev_mv rfl)) hS ?_
  refine ga_take 1 rfl (by kernel_rfl) (fun _ _ => (ev_nil rfl)) hS ?_
  refine ga_take 2 rfl (by kernel_rfl) (fun _ _ => (ev_fa (j := 0) rfl Tryz.runUnderlying110 rfl Tryz.sizeOf69 rfl rfl)) hS ?_
  refine ga_take 3 rfl (by kernel_rfl) (fun _ hs => (ev_ld rfl Tryz.isAgg69 (by first | exact hs | exact hs.1 | exact hs.2 | exact hs.2.1 | exact hs.2.2) (by rfl))) hS ?_
  refine ga_take 4 rfl (by kernel_rfl) (fun _ _ => (ev_mv rfl)) hS ?_
  refine ga_take 5 rfl (by kernel_rfl) (fun _ _ => (ev_nil rfl)) hS ?_
  refine ga_take 6 rfl (by kernel_rfl) (fun _ _ => (ev_fa (j := 5) rfl Tryz.runUnderlying110 rfl Tryz.sizeOf65 rfl rfl)) hS ?_
  refine ga_take 7 rfl (by kernel_rfl) (fun _ hs => (ev_ld rfl Tryz.isAgg65 (by first | exact hs | exact hs.1 | exact hs.2 | exact hs.2.1 | exact hs.2.2) (by rfl))) hS ?_
  refine ga_take 8 rfl (by kernel_rfl) (fun _ _ => (ev_slo (a' := g.junk.length - 8) rfl rfl Tryz.runUnderlying69 Tryz.sizeOf5 (by omega) (by omega) (by omega) (by omega))) hS ?_
  refine ga_take 9 rfl (by kernel_rfl) (fun _ _ => (ev_mv rfl)) hS ?_
  refine ga_call 10 rfl (by kernel_rfl) (ec_func Tryz.call306 rfl) (c306 n _ _ (g.junk.length - 8) _ _ _ hk1 (by omega) (by simp; omega)) ?_
  rintro _ w2 ⟨rfl, h2⟩
  refine ⟨sb_at h2 h.bk.symm hb1, fun _ => ?_⟩
  refine ga_nil (by kernel_rfl) ?_
  refine gk_end0 Tryz.results245 ?_
  exact ⟨_, rfl, rfl, h.place hc (by omega) hw1 h2⟩

theorem c252 (n : Int) : BOp 252 [.int .u64 n] (place (le8 n)) := by
  rintro F w bb S S' ⟨g, h⟩ hm
  unfold place at hm
  have hlen : (le8 n).length = 8 := rfl
  by_cases hc : (le8 n).length ≤ S.room
  case neg => rw [if_neg hc] at hm; exact absurd hm (by simp)
  rw [if_pos hc] at hm
  obtain rfl := Option.some.inj hm
  have hroom := h.room
  have hsm := h.small
  have e1 : g.len S = g.junk.length + S.buf.length := rfl
  have e2 : g.cap S = g.junk.length + S.buf.length + g.extra.length := rfl
  have hb := h.hb
  have hk := h.hk
  refine cr_enter Tryz.func252 rfl Tryz.ntmps252 ?_
  refine gk_seq ?_
  refine gk_region ?_
  refine gr_v (ev_mv rfl) ?_
  refine gr_v (ev_nil rfl) ?_
  refine gr_v (ev_fa (j := 5) rfl Tryz.runUnderlying110 rfl Tryz.sizeOf65 rfl rfl) ?_
  refine gr_v (ev_ld rfl Tryz.isAgg65 (by first | exact hb | exact hk) (by rfl)) ?_
  refine gr_v (ev_sub rfl rfl (w_u32 (by omega) (by omega))) ?_
  refine gr_v (ev_nil rfl) ?_
  refine gr_v (ev_fa (j := 5) rfl Tryz.runUnderlying110 rfl Tryz.sizeOf65 rfl rfl) ?_
  refine gr_st rfl rfl (by rfl) Tryz.sizeOf65 (by first | exact hb | exact hk) (by rfl) (by rfl) ?_
  intro w1 hw1 hbn
  have hb1 := hbn; clear hbn
  have hk1 := sb_at hw1 h.bk hk
  refine gr_nil ?_
  refine gk_draw (fun w' => w'.heap[bb]? = some (.cells ((g.cells S).setIfInBounds 5 (.int .u32 (↑g.junk.length - 8))) 110 (0, 0))) (by kernel_rfl) ?_
  have hS := hb1
  refine ga_take 0 rfl (by kernel_rfl) (fun _ _ => (ev_mv rfl)) hS ?_
  refine ga_take 1 rfl (by kernel_rfl) (fun _ _ => (ev_nil rfl)) hS ?_
  refine ga_take 2 rfl (by kernel_rfl) (fun _ _ => (ev_fa (j := 0) rfl Tryz.runUnderlying110 rfl Tryz.sizeOf69 rfl rfl)) hS ?_
  refine ga_take 3 rfl (by kernel_rfl) (fun _ hs => (ev_ld rfl Tryz.isAgg69 (by first | exact hs | exact hs.1 | exact hs.2 | exact hs.2.1 | exact hs.2.2) (by rfl))) hS ?_
  refine ga_take 4 rfl (by kernel_rfl) (fun _ _ => (ev_mv rfl)) hS ?_
  refine ga_take 5 rfl (by kernel_rfl) (fun _ _ => (ev_nil rfl)) hS ?_
  refine ga_take 6 rfl (by kernel_rfl) (fun _ _ => (ev_fa (j := 5) rfl Tryz.runUnderlying110 rfl Tryz.sizeOf65 rfl rfl)) hS ?_
  refine ga_take 7 rfl (by kernel_rfl) (fun _ hs => (ev_ld rfl Tryz.isAgg65 (by first | exact hs | exact hs.1 | exact hs.2 | exact hs.2.1 | exact hs.2.2) (by rfl))) hS ?_
  refine ga_take 8 rfl (by kernel_rfl) (fun _ _ => (ev_slo (a' := g.junk.length - 8) rfl rfl Tryz.runUnderlying69 Tryz.sizeOf5 (by omega) (by omega) (by omega) (by omega))) hS ?_
  refine ga_take 9 rfl (by kernel_rfl) (fun _ _ => (ev_mv rfl)) hS ?_
  refine ga_call 10 rfl (by kernel_rfl) (ec_func Tryz.call308 rfl) (c308 n _ _ (g.junk.length - 8) _ _ _ hk1 (by omega) (by simp; omega)) ?_
  rintro _ w2 ⟨rfl, h2⟩
  refine ⟨sb_at h2 h.bk.symm hb1, fun _ => ?_⟩
  refine ga_nil (by kernel_rfl) ?_
  refine gk_end0 Tryz.results252 ?_
  exact ⟨_, rfl, rfl, h.place hc (by omega) hw1 h2⟩

theorem c328 (n : Int) : BOp 328 [.int .i8 n] (place ([lb n])) := by
  rintro F w bb S S' ⟨g, h⟩ hm
  unfold place at hm
  have hlen : ([lb n]).length = 1 := rfl
  by_cases hc : ([lb n]).length ≤ S.room
  case neg => rw [if_neg hc] at hm; exact absurd hm (by simp)
  rw [if_pos hc] at hm
  obtain rfl := Option.some.inj hm
  have hroom := h.room
  have hsm := h.small
  have e1 : g.len S = g.junk.length + S.buf.length := rfl
  have e2 : g.cap S = g.junk.length + S.buf.length + g.extra.length := rfl
  have hb := h.hb
  have hk := h.hk
  refine cr_enter Tryz.func328 rfl Tryz.ntmps328 ?_
  refine gk_seq ?_
  refine gk_region ?_
  refine gr_v (ev_mv rfl) ?_
  refine gr_v (ev_nil rfl) ?_
  refine gr_v (ev_fa (j := 5) rfl Tryz.runUnderlying110 rfl Tryz.sizeOf65 rfl rfl) ?_
  refine gr_v (ev_ld rfl Tryz.isAgg65 (by first | exact hb | exact hk) (by rfl)) ?_
  refine gr_v (ev_sub rfl rfl (w_u32 (by omega) (by omega))) ?_
  refine gr_v (ev_nil rfl) ?_
  refine gr_v (ev_fa (j := 5) rfl Tryz.runUnderlying110 rfl Tryz.sizeOf65 rfl rfl) ?_
  refine gr_st rfl rfl (by rfl) Tryz.sizeOf65 (by first | exact hb | exact hk) (by rfl) (by rfl) ?_
  intro w1 hw1 hbn
  have hb1 := hbn; clear hbn
  have hk1 := sb_at hw1 h.bk hk
  refine gr_nil ?_
  refine gk_draw (fun w' => w'.heap[bb]? = some (.cells ((g.cells S).setIfInBounds 5 (.int .u32 (↑g.junk.length - 1))) 110 (0, 0))) (by kernel_rfl) ?_
  have hS := hb1
  refine ga_take 0 rfl (by kernel_rfl) (fun _ _ => (ev_mv rfl)) hS ?_
  refine ga_take 1 rfl (by kernel_rfl) (fun _ _ => (ev_nil rfl)) hS ?_
  refine ga_take 2 rfl (by kernel_rfl) (fun _ _ => (ev_fa (j := 0) rfl Tryz.runUnderlying110 rfl Tryz.sizeOf69 rfl rfl)) hS ?_
  refine ga_take 3 rfl (by kernel_rfl) (fun _ hs => (ev_ld rfl Tryz.isAgg69 (by first | exact hs | exact hs.1 | exact hs.2 | exact hs.2.1 | exact hs.2.2) (by rfl))) hS ?_
  refine ga_take 4 rfl (by kernel_rfl) (fun _ _ => (ev_mv rfl)) hS ?_
  refine ga_take 5 rfl (by kernel_rfl) (fun _ _ => (ev_nil rfl)) hS ?_
  refine ga_take 6 rfl (by kernel_rfl) (fun _ _ => (ev_fa (j := 5) rfl Tryz.runUnderlying110 rfl Tryz.sizeOf65 rfl rfl)) hS ?_
  refine ga_take 7 rfl (by kernel_rfl) (fun _ hs => (ev_ld rfl Tryz.isAgg65 (by first | exact hs | exact hs.1 | exact hs.2 | exact hs.2.1 | exact hs.2.2) (by rfl))) hS ?_
  refine ga_take 8 rfl (by kernel_rfl) (fun _ _ => (ev_slo (a' := g.junk.length - 1) rfl rfl Tryz.runUnderlying69 Tryz.sizeOf5 (by omega) (by omega) (by omega) (by omega))) hS ?_
  refine ga_take 9 rfl (by kernel_rfl) (fun _ _ => (ev_mv rfl)) hS ?_
  refine ga_call 10 rfl (by kernel_rfl) (ec_func Tryz.call341 rfl) (c341 n _ _ (g.junk.length - 1) _ _ _ hk1 (by omega) (by simp; omega)) ?_
  rintro _ w2 ⟨rfl, h2⟩
  refine ⟨sb_at h2 h.bk.symm hb1, fun _ => ?_⟩
  refine ga_nil (by kernel_rfl) ?_
  refine gk_end0 Tryz.results328 ?_
  exact ⟨_, rfl, rfl, h.place hc (by omega) hw1 h2⟩

theorem c329 (n : Int) : BOp 329 [.int .i16 n] (place (le2 n)) := by
  rintro F w bb S S' ⟨g, h⟩ hm
  unfold place at hm
  have hlen : (le2 n).length = 2 := rfl
  by_cases hc : (le2 n).length ≤ S.room
  case neg => rw [if_neg hc] at hm; exact absurd hm (by simp)
  rw [if_pos hc] at hm
  obtain rfl := Option.some.inj hm
  have hroom := h.room
  have hsm := h.small
  have e1 : g.len S = g.junk.length + S.buf.length := rfl
  have e2 : g.cap S = g.junk.length + S.buf.length + g.extra.length := rfl
  have hb := h.hb
  have hk := h.hk
  refine cr_enter Tryz.func329 rfl Tryz.ntmps329 ?_
  refine gk_seq ?_
  refine gk_region ?_
  refine gr_v (ev_mv rfl) ?_
  refine gr_v (ev_nil rfl) ?_
  refine gr_v (ev_fa (j := 5) rfl Tryz.runUnderlying110 rfl Tryz.sizeOf65 rfl rfl) ?_
  refine gr_v (ev_ld rfl Tryz.isAgg65 (by first | exact hb | exact hk) (by rfl)) ?_
  refine gr_v (ev_sub rfl rfl (w_u32 (by omega) (by omega))) ?_
  refine gr_v (ev_nil rfl) ?_
  refine gr_v (ev_fa (j := 5) rfl Tryz.runUnderlying110 rfl Tryz.sizeOf65 rfl rfl) ?_
  refine gr_st rfl rfl (by rfl) Tryz.sizeOf65 (by first | exact hb | exact hk) (by rfl) (by rfl) ?_
  intro w1 hw1 hbn
  have hb1 := hbn; clear hbn
  have hk1 := sb_at hw1 h.bk hk
  refine gr_nil ?_
  refine gk_draw (fun w' => w'.heap[bb]? = some (.cells ((g.cells S).setIfInBounds 5 (.int .u32 (↑g.junk.length - 2))) 110 (0, 0))) (by kernel_rfl) ?_
  have hS := hb1
  refine ga_take 0 rfl (by kernel_rfl) (fun _ _ => (ev_mv rfl)) hS ?_
  refine ga_take 1 rfl (by kernel_rfl) (fun _ _ => (ev_nil rfl)) hS ?_
  refine ga_take 2 rfl (by kernel_rfl) (fun _ _ => (ev_fa (j := 0) rfl Tryz.runUnderlying110 rfl Tryz.sizeOf69 rfl rfl)) hS ?_
  refine ga_take 3 rfl (by kernel_rfl) (fun _ hs => (ev_ld rfl Tryz.isAgg69 (by first | exact hs | exact hs.1 | exact hs.2 | exact hs.2.1 | exact hs.2.2) (by rfl))) hS ?_
  refine ga_take 4 rfl (by kernel_rfl) (fun _ _ => (ev_mv rfl)) hS ?_
  refine ga_take 5 rfl (by kernel_rfl) (fun _ _ => (ev_nil rfl)) hS ?_
  refine ga_take 6 rfl (by kernel_rfl) (fun _ _ => (ev_fa (j := 5) rfl Tryz.runUnderlying110 rfl Tryz.sizeOf65 rfl rfl)) hS ?_
  refine ga_take 7 rfl (by kernel_rfl) (fun _ hs => (ev_ld rfl Tryz.isAgg65 (by first | exact hs | exact hs.1 | exact hs.2 | exact hs.2.1 | exact hs.2.2) (by rfl))) hS ?_
  refine ga_take 8 rfl (by kernel_rfl) (fun _ _ => (ev_slo (a' := g.junk.length - 2) rfl rfl Tryz.runUnderlying69 Tryz.sizeOf5 (by omega) (by omega) (by omega) (by omega))) hS ?_
  refine ga_take 9 rfl (by kernel_rfl) (fun _ _ => (ev_mv rfl)) hS ?_
  refine ga_call 10 rfl (by kernel_rfl) (ec_func Tryz.call342 rfl) (c342 n _ _ (g.junk.length - 2) _ _ _ hk1 (by omega) (by simp; omega)) ?_
  rintro _ w2 ⟨rfl, h2⟩
  refine ⟨sb_at h2 h.bk.symm hb1, fun _ => ?_⟩
  refine ga_nil (by kernel_rfl) ?_
  refine gk_end0 Tryz.results329 ?_
  exact ⟨_, rfl, rfl, h.place hc (by omega) hw1 h2⟩

theorem c331 (n : Int) : BOp 331 [.int .u32 n] (place (le4 n)) := by
  rintro F w bb S S' ⟨g, h⟩ hm
  unfold place at hm
  have hlen : (le4 n).length = 4 := rfl
  by_cases hc : (le4 n).length ≤ S.room
  case neg => rw [if_neg hc] at hm; exact absurd hm (by simp)
  rw [if_pos hc] at hm
  obtain rfl := Option.some.inj hm
  have hroom := h.room
  have hsm := h.small
  have e1 : g.len S = g.junk.length + S.buf.length := rfl
  have e2 : g.cap S = g.junk.length + S.buf.length + g.extra.length := rfl
  have hb := h.hb
  have hk := h.hk
  refine cr_enter Tryz.func331 rfl Tryz.ntmps331 ?_
  refine gk_seq ?_
  refine gk_region ?_
  refine gr_v (ev_mv rfl) ?_
  refine gr_v (ev_nil rfl) ?_
  refine gr_v (ev_fa (j := 5) rfl Tryz.runUnderlying110 rfl Tryz.sizeOf65 rfl rfl) ?_
  refine gr_v (ev_ld rfl Tryz.isAgg65 (by first | exact hb | exact hk) (by rfl)) ?_
  refine gr_v (ev_sub rfl rfl (w_u32 (by omega) (by omega))) ?_
  refine gr_v (ev_nil rfl) ?_
  refine gr_v (ev_fa (j := 5) rfl Tryz.runUnderlying110 rfl Tryz.sizeOf65 rfl rfl) ?_
  refine gr_st rfl rfl (by rfl) Tryz.sizeOf65 (by first | exact hb | exact hk) (by rfl) (by rfl) ?_
  intro w1 hw1 hbn
  have hb1 := hbn; clear hbn
  have hk1 := sb_at hw1 h.bk hk
  refine gr_nil ?_
  refine gk_draw (fun w' => w'.heap[bb]? = some (.cells ((g.cells S).setIfInBounds 5 (.int .u32 (↑g.junk.length - 4))) 110 (0, 0))) (by kernel_rfl) ?_
  have hS := hb1
  refine ga_take 0 rfl (by kernel_rfl) (fun _ _ => (ev_mv rfl)) hS ?_
  refine ga_take 1 rfl (by kernel_rfl) (fun _ _ => (ev_nil rfl)) hS ?_
  refine ga_take 2 rfl (by kernel_rfl) (fun _ _ => (ev_fa (j := 0) rfl Tryz.runUnderlying110 rfl Tryz.sizeOf69 rfl rfl)) hS ?_
  refine ga_take 3 rfl (by kernel_rfl) (fun _ hs => (ev_ld rfl Tryz.isAgg69 (by first | exact hs | exact hs.1 | exact hs.2 | exact hs.2.1 | exact hs.2.2) (by rfl))) hS ?_
  refine ga_take 4 rfl (by kernel_rfl) (fun _ _ => (ev_mv rfl)) hS ?_
  refine ga_take 5 rfl (by kernel_rfl) (fun _ _ => (ev_nil rfl)) hS ?_
  refine ga_take 6 rfl (by kernel_rfl) (fun _ _ => (ev_fa (j := 5) rfl Tryz.runUnderlying110 rfl Tryz.sizeOf65 rfl rfl)) hS ?_
  refine ga_take 7 rfl (by kernel_rfl) (fun _ hs => (ev_ld rfl Tryz.isAgg65 (by first | exact hs | exact hs.1 | exact hs.2 | exact hs.2.1 | exact hs.2.2) (by rfl))) hS ?_
  refine ga_take 8 rfl (by kernel_rfl) (fun _ _ => (ev_slo (a' := g.junk.length - 4) rfl rfl Tryz.runUnderlying69 Tryz.sizeOf5 (by omega) (by omega) (by omega) (by omega))) hS ?_
  refine ga_take 9 rfl (by kernel_rfl) (fun _ _ => (ev_mv rfl)) hS ?_
  refine ga_call 10 rfl (by kernel_rfl) (ec_func Tryz.call326 rfl) (c326 n _ _ (g.junk.length - 4) _ _ _ hk1 (by omega) (by simp; omega)) ?_
  rintro _ w2 ⟨rfl, h2⟩
  refine ⟨sb_at h2 h.bk.symm hb1, fun _ => ?_⟩
  refine ga_nil (by kernel_rfl) ?_
  refine gk_end0 Tryz.results331 ?_
  exact ⟨_, rfl, rfl, h.place hc (by omega) hw1 h2⟩

theorem c333 (n : Int) : BOp 333 [.int .i32 n] (place (le4 n)) := by
  rintro F w bb S S' ⟨g, h⟩ hm
  unfold place at hm
  have hlen : (le4 n).length = 4 := rfl
  by_cases hc : (le4 n).length ≤ S.room
  case neg => rw [if_neg hc] at hm; exact absurd hm (by simp)
  rw [if_pos hc] at hm
  obtain rfl := Option.some.inj hm
  have hroom := h.room
  have hsm := h.small
  have e1 : g.len S = g.junk.length + S.buf.length := rfl
  have e2 : g.cap S = g.junk.length + S.buf.length + g.extra.length := rfl
  have hb := h.hb
  have hk := h.hk
  refine cr_enter Tryz.func333 rfl Tryz.ntmps333 ?_
  refine gk_seq ?_
  refine gk_region ?_
  refine gr_v (ev_mv rfl) ?_
  refine gr_v (ev_nil rfl) ?_
  refine gr_v (ev_fa (j := 5) rfl Tryz.runUnderlying110 rfl Tryz.sizeOf65 rfl rfl) ?_
  refine gr_v (ev_ld rfl Tryz.isAgg65 (by first | exact hb | exact hk) (by rfl)) ?_
  refine gr_v (ev_sub rfl rfl (w_u32 (by omega) (by omega))) ?_
  refine gr_v (ev_nil rfl) ?_
  refine gr_v (ev_fa (j := 5) rfl Tryz.runUnderlying110 rfl Tryz.sizeOf65 rfl rfl) ?_
  refine gr_st rfl rfl (by rfl) Tryz.sizeOf65 (by first | exact hb | exact hk) (by rfl) (by rfl) ?_
  intro w1 hw1 hbn
  have hb1 := hbn; clear hbn
  have hk1 := sb_at hw1 h.bk hk
  refine gr_nil ?_
  refine gk_draw (fun w' => w'.heap[bb]? = some (.cells ((g.cells S).setIfInBounds 5 (.int .u32 (↑g.junk.length - 4))) 110 (0, 0))) (by kernel_rfl) ?_
  have hS := hb1
  refine ga_take 0 rfl (by kernel_rfl) (fun _ _ => (ev_mv rfl)) hS ?_
  refine ga_take 1 rfl (by kernel_rfl) (fun _ _ => (ev_nil rfl)) hS ?_
  refine ga_take 2 rfl (by kernel_rfl) (fun _ _ => (ev_fa (j := 0) rfl Tryz.runUnderlying110 rfl Tryz.sizeOf69 rfl rfl)) hS ?_
  refine ga_take 3 rfl (by kernel_rfl) (fun _ hs => (ev_ld rfl Tryz.isAgg69 (by first | exact hs | exact hs.1 | exact hs.2 | exact hs.2.1 | exact hs.2.2) (by rfl))) hS ?_
  refine ga_take 4 rfl (by kernel_rfl) (fun _ _ => (ev_mv rfl)) hS ?_
  refine ga_take 5 rfl (by kernel_rfl) (fun _ _ => (ev_nil rfl)) hS ?_
  refine ga_take 6 rfl (by kernel_rfl) (fun _ _ => (ev_fa (j := 5) rfl Tryz.runUnderlying110 rfl Tryz.sizeOf65 rfl rfl)) hS ?_
  refine ga_take 7 rfl (by kernel_rfl) (fun _ hs => (ev_ld rfl Tryz.isAgg65 (by first | exact hs | exact hs.1 | exact hs.2 | exact hs.2.1 | exact hs.2.2) (by rfl))) hS ?_
  refine ga_take 8 rfl (by kernel_rfl) (fun _ _ => (ev_slo (a' := g.junk.length - 4) rfl rfl Tryz.runUnderlying69 Tryz.sizeOf5 (by omega) (by omega) (by omega) (by omega))) hS ?_
  refine ga_take 9 rfl (by kernel_rfl) (fun _ _ => (ev_mv rfl)) hS ?_
  refine ga_call 10 rfl (by kernel_rfl) (ec_func Tryz.call345 rfl) (c345 n _ _ (g.junk.length - 4) _ _ _ hk1 (by omega) (by simp; omega)) ?_
  rintro _ w2 ⟨rfl, h2⟩
  refine ⟨sb_at h2 h.bk.symm hb1, fun _ => ?_⟩
  refine ga_nil (by kernel_rfl) ?_
  refine gk_end0 Tryz.results333 ?_
  exact ⟨_, rfl, rfl, h.place hc (by omega) hw1 h2⟩

theorem c343 (n : Int) : BOp 343 [.int .u16 n] (place (le2 n)) := by
  rintro F w bb S S' ⟨g, h⟩ hm
  unfold place at hm
  have hlen : (le2 n).length = 2 := rfl
  by_cases hc : (le2 n).length ≤ S.room
  case neg => rw [if_neg hc] at hm; exact absurd hm (by simp)
  rw [if_pos hc] at hm
  obtain rfl := Option.some.inj hm
  have hroom := h.room
  have hsm := h.small
  have e1 : g.len S = g.junk.length + S.buf.length := rfl
  have e2 : g.cap S = g.junk.length + S.buf.length + g.extra.length := rfl
  have hb := h.hb
  have hk := h.hk
  refine cr_enter Tryz.func343 rfl Tryz.ntmps343 ?_
  refine gk_seq ?_
  refine gk_region ?_
  refine gr_v (ev_mv rfl) ?_
  refine gr_v (ev_nil rfl) ?_
  refine gr_v (ev_fa (j := 5) rfl Tryz.runUnderlying110 rfl Tryz.sizeOf65 rfl rfl) ?_
  refine gr_v (ev_ld rfl Tryz.isAgg65 (by first | exact hb | exact hk) (by rfl)) ?_
  refine gr_v (ev_sub rfl rfl (w_u32 (by omega) (by omega))) ?_
  refine gr_v (ev_nil rfl) ?_
  refine gr_v (ev_fa (j := 5) rfl Tryz.runUnderlying110 rfl Tryz.sizeOf65 rfl rfl) ?_
  refine gr_st rfl rfl (by rfl) Tryz.sizeOf65 (by first | exact hb | exact hk) (by rfl) (by rfl) ?_
  intro w1 hw1 hbn
  have hb1 := hbn; clear hbn
  have hk1 := sb_at hw1 h.bk hk
  refine gr_nil ?_
  refine gk_draw (fun w' => w'.heap[bb]? = some (.cells ((g.cells S).setIfInBounds 5 (.int .u32 (↑g.junk.length - 2))) 110 (0, 0))) (by kernel_rfl) ?_
  have hS := hb1
  refine ga_take 0 rfl (by kernel_rfl) (fun _ _ => (ev_mv rfl)) hS ?_
  refine ga_take 1 rfl (by kernel_rfl) (fun _ _ => (ev_nil rfl)) hS ?_
  refine ga_take 2 rfl (by kernel_rfl) (fun _ _ => (ev_fa (j := 0) rfl Tryz.runUnderlying110 rfl Tryz.sizeOf69 rfl rfl)) hS ?_
  refine ga_take 3 rfl (by kernel_rfl) (fun _ hs => (ev_ld rfl Tryz.isAgg69 (by first | exact hs | exact hs.1 | exact hs.2 | exact hs.2.1 | exact hs.2.2) (by rfl))) hS ?_
  refine ga_take 4 rfl (by kernel_rfl) (fun _ _ => (ev_mv rfl)) hS ?_
  refine ga_take 5 rfl (by kernel_rfl) (fun _ _ => (ev_nil rfl)) hS ?_
  refine ga_take 6 rfl (by kernel_rfl) (fun _ _ => (ev_fa (j := 5) rfl Tryz.runUnderlying110 rfl Tryz.sizeOf65 rfl rfl)) hS ?_
  refine ga_take 7 rfl (by kernel_rfl) (fun _ hs => (ev_ld rfl Tryz.isAgg65 (by first | exact hs | exact hs.1 | exact hs.2 | exact hs.2.1 | exact hs.2.2) (by rfl))) hS ?_
  refine ga_take 8 rfl (by kernel_rfl) (fun _ _ => (ev_slo (a' := g.junk.length - 2) rfl rfl Tryz.runUnderlying69 Tryz.sizeOf5 (by omega) (by omega) (by omega) (by omega))) hS ?_
  refine ga_take 9 rfl (by kernel_rfl) (fun _ _ => (ev_mv rfl)) hS ?_
  refine ga_call 10 rfl (by kernel_rfl) (ec_func Tryz.call348 rfl) (c348 n _ _ (g.junk.length - 2) _ _ _ hk1 (by omega) (by simp; omega)) ?_
  rintro _ w2 ⟨rfl, h2⟩
  refine ⟨sb_at h2 h.bk.symm hb1, fun _ => ?_⟩
  refine ga_nil (by kernel_rfl) ?_
  refine gk_end0 Tryz.results343 ?_
  exact ⟨_, rfl, rfl, h.place hc (by omega) hw1 h2⟩

theorem c346 (n : Int) : BOp 346 [.int .i32 n] (place (le4 n)) := by
  rintro F w bb S S' ⟨g, h⟩ hm
  unfold place at hm
  have hlen : (le4 n).length = 4 := rfl
  by_cases hc : (le4 n).length ≤ S.room
  case neg => rw [if_neg hc] at hm; exact absurd hm (by simp)
  rw [if_pos hc] at hm
  obtain rfl := Option.some.inj hm
  have hroom := h.room
  have hsm := h.small
  have e1 : g.len S = g.junk.length + S.buf.length := rfl
  have e2 : g.cap S = g.junk.length + S.buf.length + g.extra.length := rfl
  have hb := h.hb
  have hk := h.hk
  refine cr_enter Tryz.func346 rfl Tryz.ntmps346 ?_
  refine gk_seq ?_
  refine gk_region ?_
  refine gr_v (ev_mv rfl) ?_
  refine gr_v (ev_nil rfl) ?_
  refine gr_v (ev_fa (j := 5) rfl Tryz.runUnderlying110 rfl Tryz.sizeOf65 rfl rfl) ?_
  refine gr_v (ev_ld rfl Tryz.isAgg65 (by first | exact hb | exact hk) (by rfl)) ?_
  refine gr_v (ev_sub rfl rfl (w_u32 (by omega) (by omega))) ?_
  refine gr_v (ev_nil rfl) ?_
  refine gr_v (ev_fa (j := 5) rfl Tryz.runUnderlying110 rfl Tryz.sizeOf65 rfl rfl) ?_
  refine gr_st rfl rfl (by rfl) Tryz.sizeOf65 (by first | exact hb | exact hk) (by rfl) (by rfl) ?_
  intro w1 hw1 hbn
  have hb1 := hbn; clear hbn
  have hk1 := sb_at hw1 h.bk hk
  refine gr_nil ?_
  refine gk_draw (fun w' => w'.heap[bb]? = some (.cells ((g.cells S).setIfInBounds 5 (.int .u32 (↑g.junk.length - 4))) 110 (0, 0))) (by kernel_rfl) ?_
  have hS := hb1
  refine ga_take 0 rfl (by kernel_rfl) (fun _ _ => (ev_mv rfl)) hS ?_
  refine ga_take 1 rfl (by kernel_rfl) (fun _ _ => (ev_nil rfl)) hS ?_
  refine ga_take 2 rfl (by kernel_rfl) (fun _ _ => (ev_fa (j := 0) rfl Tryz.runUnderlying110 rfl Tryz.sizeOf69 rfl rfl)) hS ?_
  refine ga_take 3 rfl (by kernel_rfl) (fun _ hs => (ev_ld rfl Tryz.isAgg69 (by first | exact hs | exact hs.1 | exact hs.2 | exact hs.2.1 | exact hs.2.2) (by rfl))) hS ?_
  refine ga_take 4 rfl (by kernel_rfl) (fun _ _ => (ev_mv rfl)) hS ?_
  refine ga_take 5 rfl (by kernel_rfl) (fun _ _ => (ev_nil rfl)) hS ?_
  refine ga_take 6 rfl (by kernel_rfl) (fun _ _ => (ev_fa (j := 5) rfl Tryz.runUnderlying110 rfl Tryz.sizeOf65 rfl rfl)) hS ?_
  refine ga_take 7 rfl (by kernel_rfl) (fun _ hs => (ev_ld rfl Tryz.isAgg65 (by first | exact hs | exact hs.1 | exact hs.2 | exact hs.2.1 | exact hs.2.2) (by rfl))) hS ?_
  refine ga_take 8 rfl (by kernel_rfl) (fun _ _ => (ev_slo (a' := g.junk.length - 4) rfl rfl Tryz.runUnderlying69 Tryz.sizeOf5 (by omega) (by omega) (by omega) (by omega))) hS ?_
  refine ga_take 9 rfl (by kernel_rfl) (fun _ _ => (ev_mv rfl)) hS ?_
  refine ga_call 10 rfl (by kernel_rfl) (ec_func Tryz.call338 rfl) (c338 n _ _ (g.junk.length - 4) _ _ _ hk1 (by omega) (by simp; omega)) ?_
  rintro _ w2 ⟨rfl, h2⟩
  refine ⟨sb_at h2 h.bk.symm hb1, fun _ => ?_⟩
  refine ga_nil (by kernel_rfl) ?_
  refine gk_end0 Tryz.results346 ?_
  exact ⟨_, rfl, rfl, h.place hc (by omega) hw1 h2⟩

theorem c347 (n : Int) : BOp 347 [.int .u16 n] (place (le2 n)) := by
  rintro F w bb S S' ⟨g, h⟩ hm
  unfold place at hm
  have hlen : (le2 n).length = 2 := rfl
  by_cases hc : (le2 n).length ≤ S.room
  case neg => rw [if_neg hc] at hm; exact absurd hm (by simp)
  rw [if_pos hc] at hm
  obtain rfl := Option.some.inj hm
  have hroom := h.room
  have hsm := h.small
  have e1 : g.len S = g.junk.length + S.buf.length := rfl
  have e2 : g.cap S = g.junk.length + S.buf.length + g.extra.length := rfl
  have hb := h.hb
  have hk := h.hk
  refine cr_enter Tryz.func347 rfl Tryz.ntmps347 ?_
  refine gk_seq ?_
  refine gk_region ?_
  refine gr_v (ev_mv rfl) ?_
  refine gr_v (ev_nil rfl) ?_
  refine gr_v (ev_fa (j := 5) rfl Tryz.runUnderlying110 rfl Tryz.sizeOf65 rfl rfl) ?_
  refine gr_v (ev_ld rfl Tryz.isAgg65 (by first | exact hb | exact hk) (by rfl)) ?_
  refine gr_v (ev_sub rfl rfl (w_u32 (by omega) (by omega))) ?_
  refine gr_v (ev_nil rfl) ?_
  refine gr_v (ev_fa (j := 5) rfl Tryz.runUnderlying110 rfl Tryz.sizeOf65 rfl rfl) ?_
  refine gr_st rfl rfl (by rfl) Tryz.sizeOf65 (by first | exact hb | exact hk) (by rfl) (by rfl) ?_
  intro w1 hw1 hbn
  have hb1 := hbn; clear hbn
  have hk1 := sb_at hw1 h.bk hk
  refine gr_nil ?_
  refine gk_draw (fun w' => w'.heap[bb]? = some (.cells ((g.cells S).setIfInBounds 5 (.int .u32 (↑g.junk.length - 2))) 110 (0, 0))) (by kernel_rfl) ?_
  have hS := hb1
  refine ga_take 0 rfl (by kernel_rfl) (fun _ _ => (ev_mv rfl)) hS ?_
  refine ga_take 1 rfl (by kernel_rfl) (fun _ _ => (ev_nil rfl)) hS ?_
  refine ga_take 2 rfl (by kernel_rfl) (fun _ _ => (ev_fa (j := 0) rfl Tryz.runUnderlying110 rfl Tryz.sizeOf69 rfl rfl)) hS ?_
  refine ga_take 3 rfl (by kernel_rfl) (fun _ hs => (ev_ld rfl Tryz.isAgg69 (by first | exact hs | exact hs.1 | exact hs.2 | exact hs.2.1 | exact hs.2.2) (by rfl))) hS ?_
  refine ga_take 4 rfl (by kernel_rfl) (fun _ _ => (ev_mv rfl)) hS ?_
  refine ga_take 5 rfl (by kernel_rfl) (fun _ _ => (ev_nil rfl)) hS ?_
  refine ga_take 6 rfl (by kernel_rfl) (fun _ _ => (ev_fa (j := 5) rfl Tryz.runUnderlying110 rfl Tryz.sizeOf65 rfl rfl)) hS ?_
  refine ga_take 7 rfl (by kernel_rfl) (fun _ hs => (ev_ld rfl Tryz.isAgg65 (by first | exact hs | exact hs.1 | exact hs.2 | exact hs.2.1 | exact hs.2.2) (by rfl))) hS ?_
  refine ga_take 8 rfl (by kernel_rfl) (fun _ _ => (ev_slo (a' := g.junk.length - 2) rfl rfl Tryz.runUnderlying69 Tryz.sizeOf5 (by omega) (by omega) (by omega) (by omega))) hS ?_
  refine ga_take 9 rfl (by kernel_rfl) (fun _ _ => (ev_mv rfl)) hS ?_
  refine ga_call 10 rfl (by kernel_rfl) (ec_func Tryz.call349 rfl) (c349 n _ _ (g.junk.length - 2) _ _ _ hk1 (by omega) (by simp; omega)) ?_
  rintro _ w2 ⟨rfl, h2⟩
  refine ⟨sb_at h2 h.bk.symm hb1, fun _ => ?_⟩
  refine ga_nil (by kernel_rfl) ?_
  refine gk_end0 Tryz.results347 ?_
  exact ⟨_, rfl, rfl, h.place hc (by omega) hw1 h2⟩

end Go.Proofs.YtjaplgfgkigmiaaGreat