/-
  Floats, bools, the asserts, Head, Offset, Pad.
-/
import Derived.Test.YtjaplgfgkigmiaaGreatBd
import Derived.Laws.Externs
namespace Go.Proofs.YtjaplgfgkigmiaaGreat
open Go Go.Proofs

theorem x156 (b : Nat) (w : World) : (callFunc 156 #[.float .f32 b]).run Tryz.prog w = .ok (.value (.int .u32 b)) w := by
  rw [run_callFunc_extern (e := Extern.MathFloatBits.float32bits) Tryz.func156 (by kernel_rfl) (by kernel_rfl) (by kernel_rfl) (by kernel_rfl)]; rfl
theorem x170 (b : Nat) (w : World) : (callFunc 170 #[.float .f64 b]).run Tryz.prog w = .ok (.value (.int .u64 b)) w := by
  rw [run_callFunc_extern (e := Extern.MathFloatBits.float64bits) Tryz.func170 (by kernel_rfl) (by kernel_rfl) (by kernel_rfl) (by kernel_rfl)]; rfl
theorem x51 (b : Int) (w : World) : (callFunc 51 #[.int .u32 b]).run Tryz.prog w = .ok (.value (.float .f32 b.toNat)) w := by
  rw [run_callFunc_extern (e := Extern.MathFloatBits.float32frombits) Tryz.func51 (by kernel_rfl) (by kernel_rfl) (by kernel_rfl) (by kernel_rfl)]; rfl
theorem x55 (b : Int) (w : World) : (callFunc 55 #[.int .u64 b]).run Tryz.prog w = .ok (.value (.float .f64 b.toNat)) w := by
  rw [run_callFunc_extern (e := Extern.MathFloatBits.float64frombits) Tryz.func55 (by kernel_rfl) (by kernel_rfl) (by kernel_rfl) (by kernel_rfl)]; rfl

theorem BldG.upd {F : Nat → Prop} {w w1 : World} {bb : Nat} {S : St} {g : Gh} (h : BldG F w bb S g) (S' : St) (e1 : S'.buf = S.buf) (e2 : S'.vt = S.vt) (e3 : S'.vts = S.vts) (e4 : S'.room = S.room) (e5 : S'.started = S.started)
    (hw : w1 = w.setB bb (.cells (g.cells S') 110 (0, 0))) : BldG F w1 bb S' g ∧ Keep F w w1 := by
  have hsz : w1.heap.size = w.heap.size := by rw [hw]; exact sb_size
  refine ⟨{ hb := sb_new hw h.hb, hk := by rw [e1]; exact sb_at hw h.bk h.hk, hv := fun b hb => by rw [e2]; exact sb_at hw (h.bv b hb).1 (h.hv b hb), hv0 := fun hb => by rw [e2]; exact h.hv0 hb, hst := fun e => h.hst (by rw [← e5]; exact e),
            ht := by rw [e3]; exact sb_at hw h.bt h.ht, bk := h.bk, bv := h.bv, bt := h.bt, kt := h.kt, fb := h.fb, fk := h.fk, fv := h.fv, ft := h.ft, fs := fun b hb => by rw [hsz]; exact h.fs b hb,
            room := by rw [e4]; exact h.room, small := by have := h.small; simp only [Gh.len, e1] at this ⊢; exact this, vone := h.vone, tone := h.tone }, ?_⟩
  rw [hw]; exact Keep.setB h.fb

theorem BldG.same {F : Nat → Prop} {w w1 : World} {bb : Nat} {S : St} {g : Gh} (h : BldG F w bb S g) (hh : w1.heap = w.heap) : BldG F w1 bb S g :=
  { hb := hp hh h.hb, hk := hp hh h.hk, hv := fun b hb => hp hh (h.hv b hb), hv0 := h.hv0, hst := h.hst, ht := hp hh h.ht, bk := h.bk, bv := h.bv, bt := h.bt, kt := h.kt, fb := h.fb, fk := h.fk, fv := h.fv, ft := h.ft,
    fs := fun b hb => by rw [hh]; exact h.fs b hb, room := h.room, small := h.small, vone := h.vone, tone := h.tone }
theorem Keep.same {F : Nat → Prop} {w w1 : World} (hh : w1.heap = w.heap) : Keep F w w1 := ⟨fun b _ => by rw [hh], by rw [hh]; exact Nat.le_refl _⟩

theorem c344 (b : Nat) : WrOK 344 (.float .f32 b) (le4 b) := by
  intro w bl o len cap ls hk hl ho
  refine cr_enter Tryz.func344 rfl Tryz.ntmps344 ?_
  refine gk_region ?_
  refine gr_v (ev_mv rfl) ?_
  refine gr_v (ev_mv rfl) ?_
  refine gr_v (ev_ext rfl (x156 b _)) ?_
  refine gr_call (ec_func Tryz.call326 rfl) (c326 b _ _ _ _ _ _ hk hl ho) ?_
  rintro _ w1 ⟨rfl, h1⟩
  refine gr_nil ?_
  refine gk_end0 Tryz.results344 ?_
  exact ⟨_, rfl, rfl, h1⟩

theorem c307 (b : Nat) : WrOK 307 (.float .f64 b) (le8 b) := by
  intro w bl o len cap ls hk hl ho
  refine cr_enter Tryz.func307 rfl Tryz.ntmps307 ?_
  refine gk_region ?_
  refine gr_v (ev_mv rfl) ?_
  refine gr_v (ev_mv rfl) ?_
  refine gr_v (ev_ext rfl (x170 b _)) ?_
  refine gr_call (ec_func Tryz.call308 rfl) (c308 b _ _ _ _ _ _ hk hl ho) ?_
  rintro _ w1 ⟨rfl, h1⟩
  refine gr_nil ?_
  refine gk_end0 Tryz.results307 ?_
  exact ⟨_, rfl, rfl, h1⟩

def bb1 (b : Bool) : UInt8 := if b then 1 else 0
theorem c304 (t : Bool) : WrOK 304 (.bool t) [bb1 t] := by
  intro w b o len cap ls hk hl ho
  simp only [List.length_cons, List.length_nil, Nat.zero_add] at hl ho
  cases t
  ·
    refine cr_enter Tryz.func304 rfl Tryz.ntmps304 ?_
    refine gk_seq ?_
    refine gk_region ?_
    refine gr_v (ev_mv rfl) ?_
    refine gr_v (ev_ix (a' := o) rfl rfl Tryz.runUnderlying69 Tryz.sizeOf5 (by omega) (by omega) rfl) ?_
    refine gr_st rfl rfl (by rfl) Tryz.sizeOf5 (by first | exact hk) (row_blt (by (try simp only [List.length_set]); omega)) (row_set (u := 0)) ?_
    intro w1 hw1 hkn
    have hk1 := hkn; clear hkn
    refine gr_nil ?_
    refine gk_seq ?_
    refine gk_region ?_
    refine gr_v (ev_mv rfl) ?_
    refine gr_nil ?_
    refine gk_false rfl (rfl) ?_
    refine gk_skip ?_
    refine gk_end0 Tryz.results304 ?_
    exact ⟨_, rfl, rfl, by rw [hw1]; rfl⟩
  ·
    refine cr_enter Tryz.func304 rfl Tryz.ntmps304 ?_
    refine gk_seq ?_
    refine gk_region ?_
    refine gr_v (ev_mv rfl) ?_
    refine gr_v (ev_ix (a' := o) rfl rfl Tryz.runUnderlying69 Tryz.sizeOf5 (by omega) (by omega) rfl) ?_
    refine gr_st rfl rfl (by rfl) Tryz.sizeOf5 (by first | exact hk) (row_blt (by (try simp only [List.length_set]); omega)) (row_set (u := 0)) ?_
    intro w1 hw1 hkn
    have hk1 := hkn; clear hkn
    refine gr_nil ?_
    refine gk_seq ?_
    refine gk_region ?_
    refine gr_v (ev_mv rfl) ?_
    refine gr_nil ?_
    refine gk_true rfl (rfl) ?_
    refine gk_region ?_
    refine gr_v (ev_mv rfl) ?_
    refine gr_v (ev_ix (a' := o) rfl rfl Tryz.runUnderlying69 Tryz.sizeOf5 (by omega) (by omega) rfl) ?_
    refine gr_st rfl rfl (by rfl) Tryz.sizeOf5 (by first | exact hk1) (row_blt (by (try simp only [List.length_set]); omega)) (row_set (u := 1)) ?_
    intro w2 hw2 hk1n
    have hk12 := hk1n; clear hk1n
    refine gr_nil ?_
    refine gk_end0 Tryz.results304 ?_
    exact ⟨_, rfl, rfl, by rw [hw2, hw1, sb_sb]; simp [bb1, sets, List.set_set]⟩
theorem c332 (b : Nat) : BOp 332 [.float .f32 b] (place (le4 b)) := by
  rintro F w bb S S' ⟨g, h⟩ hm
  unfold place at hm
  have hlen : (le4 b).length = 4 := rfl
  by_cases hc : (le4 b).length ≤ S.room
  case neg => rw [if_neg hc] at hm; exact absurd hm (by simp)
  rw [if_pos hc] at hm
  obtain rfl := Option.some.inj hm
  have hroom := h.room
  have hsm := h.small
  have e1 : g.len S = g.junk.length + S.buf.length := rfl
  have e2 : g.cap S = g.junk.length + S.buf.length + g.extra.length := rfl
  have hb := h.hb
  have hk := h.hk
  refine cr_enter Tryz.func332 rfl Tryz.ntmps332 ?_
  refine gk_seq ?_
  refine gk_region ?_
  refine gr_v (ev_mv rfl) ?_
  refine gr_v (ev_nil rfl) ?_
  refine gr_v (ev_fa (j := 5) rfl Tryz.runUnderlying110 rfl Tryz.sizeOf65 rfl rfl) ?_
  refine gr_v (ev_ld rfl Tryz.isAgg65 (by first | exact hb | exact hk) (by rfl)) ?_
  refine gr_v (ev_sub rfl rfl (w_u32 (by omega) (by omega))) ?_
  refine gr_v (ev_nil rfl) ?_
  refine gr_v (ev_fa (j := 5) rfl Tryz.runUnderlying110 rfl Tryz.sizeOf65 rfl rfl) ?_
  refine gr_st rfl rfl (by rfl) Tryz.sizeOf65 (by first | exact hb | exact hk) (by rfl) (by rfl) ?_
  intro w1 hw1 hbn
  have hb1 := hbn; clear hbn
  have hk1 := sb_at hw1 h.bk hk
  refine gr_nil ?_
  refine gk_draw (fun w' => w'.heap[bb]? = some (.cells ((g.cells S).setIfInBounds 5 (.int .u32 (↑g.junk.length - 4))) 110 (0, 0))) (by kernel_rfl) ?_
  have hS := hb1
  refine ga_take 0 rfl (by kernel_rfl) (fun _ _ => (ev_mv rfl)) hS ?_
  refine ga_take 1 rfl (by kernel_rfl) (fun _ _ => (ev_nil rfl)) hS ?_
  refine ga_take 2 rfl (by kernel_rfl) (fun _ _ => (ev_fa (j := 0) rfl Tryz.runUnderlying110 rfl Tryz.sizeOf69 rfl rfl)) hS ?_
  refine ga_take 3 rfl (by kernel_rfl) (fun _ hs => (ev_ld rfl Tryz.isAgg69 (by first | exact hs | exact hs.1 | exact hs.2 | exact hs.2.1 | exact hs.2.2) (by rfl))) hS ?_
  refine ga_take 4 rfl (by kernel_rfl) (fun _ _ => (ev_mv rfl)) hS ?_
  refine ga_take 5 rfl (by kernel_rfl) (fun _ _ => (ev_nil rfl)) hS ?_
  refine ga_take 6 rfl (by kernel_rfl) (fun _ _ => (ev_fa (j := 5) rfl Tryz.runUnderlying110 rfl Tryz.sizeOf65 rfl rfl)) hS ?_
  refine ga_take 7 rfl (by kernel_rfl) (fun _ hs => (ev_ld rfl Tryz.isAgg65 (by first | exact hs | exact hs.1 | exact hs.2 | exact hs.2.1 | exact hs.2.2) (by rfl))) hS ?_
  refine ga_take 8 rfl (by kernel_rfl) (fun _ _ => (ev_slo (a' := g.junk.length - 4) rfl rfl Tryz.runUnderlying69 Tryz.sizeOf5 (by omega) (by omega) (by omega) (by omega))) hS ?_
  refine ga_take 9 rfl (by kernel_rfl) (fun _ _ => (ev_mv rfl)) hS ?_
  refine ga_call 10 rfl (by kernel_rfl) (ec_func Tryz.call344 rfl) (c344 b _ _ (g.junk.length - 4) _ _ _ hk1 (by omega) (by simp; omega)) ?_
  rintro _ w2 ⟨rfl, h2⟩
  refine ⟨sb_at h2 h.bk.symm hb1, fun _ => ?_⟩
  refine ga_nil (by kernel_rfl) ?_
  refine gk_end0 Tryz.results332 ?_
  exact ⟨_, rfl, rfl, h.place hc (by omega) hw1 h2⟩

theorem c246 (b : Nat) : BOp 246 [.float .f64 b] (place (le8 b)) := by
  rintro F w bb S S' ⟨g, h⟩ hm
  unfold place at hm
  have hlen : (le8 b).length = 8 := rfl
  by_cases hc : (le8 b).length ≤ S.room
  case neg => rw [if_neg hc] at hm; exact absurd hm (by simp)
  rw [if_pos hc] at hm
  obtain rfl := Option.some.inj hm
  have hroom := h.room
  have hsm := h.small
  have e1 : g.len S = g.junk.length + S.buf.length := rfl
  have e2 : g.cap S = g.junk.length + S.buf.length + g.extra.length := rfl
  have hb := h.hb
  have hk := h.hk
  refine cr_enter Tryz.func246 rfl Tryz.ntmps246 ?_
  refine gk_seq ?_
  refine gk_region ?_
  refine gr_v (ev_mv rfl) ?_
  refine gr_v (ev_nil rfl) ?_
  refine gr_v (ev_fa (j := 5) rfl Tryz.runUnderlying110 rfl Tryz.sizeOf65 rfl rfl) ?_
  refine gr_v (ev_ld rfl Tryz.isAgg65 (by first | exact hb | exact hk) (by rfl)) ?_
  refine gr_v (ev_sub rfl rfl (w_u32 (by omega) (by omega))) ?_
  refine gr_v (ev_nil rfl) ?_
  refine gr_v (ev_fa (j := 5) rfl Tryz.runUnderlying110 rfl Tryz.sizeOf65 rfl rfl) ?_
  refine gr_st rfl rfl (by rfl) Tryz.sizeOf65 (by first | exact hb | exact hk) (by rfl) (by rfl) ?_
  intro w1 hw1 hbn
  have hb1 := hbn; clear hbn
  have hk1 := sb_at hw1 h.bk hk
  refine gr_nil ?_
  refine gk_draw (fun w' => w'.heap[bb]? = some (.cells ((g.cells S).setIfInBounds 5 (.int .u32 (↑g.junk.length - 8))) 110 (0, 0))) (by kernel_rfl) ?_
  have hS := hb1
  refine ga_take 0 rfl (by kernel_rfl) (fun _ _ => (ev_mv rfl)) hS ?_
  refine ga_take 1 rfl (by kernel_rfl) (fun _ _ => (ev_nil rfl)) hS ?_
  refine ga_take 2 rfl (by kernel_rfl) (fun _ _ => (ev_fa (j := 0) rfl Tryz.runUnderlying110 rfl Tryz.sizeOf69 rfl rfl)) hS ?_
  refine ga_take 3 rfl (by kernel_rfl) (fun _ hs => (ev_ld rfl Tryz.isAgg69 (by first | exact hs | exact hs.1 | exact hs.2 | exact hs.2.1 | exact hs.2.2) (by rfl))) hS ?_
  refine ga_take 4 rfl (by kernel_rfl) (fun _ _ => (ev_mv rfl)) hS ?_
  refine ga_take 5 rfl (by kernel_rfl) (fun _ _ => (ev_nil rfl)) hS ?_
  refine ga_take 6 rfl (by kernel_rfl) (fun _ _ => (ev_fa (j := 5) rfl Tryz.runUnderlying110 rfl Tryz.sizeOf65 rfl rfl)) hS ?_
  refine ga_take 7 rfl (by kernel_rfl) (fun _ hs => (ev_ld rfl Tryz.isAgg65 (by first | exact hs | exact hs.1 | exact hs.2 | exact hs.2.1 | exact hs.2.2) (by rfl))) hS ?_
  refine ga_take 8 rfl (by kernel_rfl) (fun _ _ => (ev_slo (a' := g.junk.length - 8) rfl rfl Tryz.runUnderlying69 Tryz.sizeOf5 (by omega) (by omega) (by omega) (by omega))) hS ?_
  refine ga_take 9 rfl (by kernel_rfl) (fun _ _ => (ev_mv rfl)) hS ?_
  refine ga_call 10 rfl (by kernel_rfl) (ec_func Tryz.call307 rfl) (c307 b _ _ (g.junk.length - 8) _ _ _ hk1 (by omega) (by simp; omega)) ?_
  rintro _ w2 ⟨rfl, h2⟩
  refine ⟨sb_at h2 h.bk.symm hb1, fun _ => ?_⟩
  refine ga_nil (by kernel_rfl) ?_
  refine gk_end0 Tryz.results246 ?_
  exact ⟨_, rfl, rfl, h.place hc (by omega) hw1 h2⟩

theorem c243 (t : Bool) : BOp 243 [.bool t] (place ([bb1 t])) := by
  rintro F w bb S S' ⟨g, h⟩ hm
  unfold place at hm
  have hlen : ([bb1 t]).length = 1 := rfl
  by_cases hc : ([bb1 t]).length ≤ S.room
  case neg => rw [if_neg hc] at hm; exact absurd hm (by simp)
  rw [if_pos hc] at hm
  obtain rfl := Option.some.inj hm
  have hroom := h.room
  have hsm := h.small
  have e1 : g.len S = g.junk.length + S.buf.length := rfl
  have e2 : g.cap S = g.junk.length + S.buf.length + g.extra.length := rfl
  have hb := h.hb
  have hk := h.hk
  refine cr_enter Tryz.func243 rfl Tryz.ntmps243 ?_
  refine gk_seq ?_
  refine gk_region ?_
  refine gr_v (ev_mv rfl) ?_
  refine gr_v (ev_nil rfl) ?_
  refine gr_v (ev_fa (j := 5) rfl Tryz.runUnderlying110 rfl Tryz.sizeOf65 rfl rfl) ?_
  refine gr_v (ev_ld rfl Tryz.isAgg65 (by first | exact hb | exact hk) (by rfl)) ?_
  refine gr_v (ev_sub rfl rfl (w_u32 (by omega) (by omega))) ?_
  refine gr_v (ev_nil rfl) ?_
  refine gr_v (ev_fa (j := 5) rfl Tryz.runUnderlying110 rfl Tryz.sizeOf65 rfl rfl) ?_
  refine gr_st rfl rfl (by rfl) Tryz.sizeOf65 (by first | exact hb | exact hk) (by rfl) (by rfl) ?_
  intro w1 hw1 hbn
  have hb1 := hbn; clear hbn
  have hk1 := sb_at hw1 h.bk hk
  refine gr_nil ?_
  refine gk_draw (fun w' => w'.heap[bb]? = some (.cells ((g.cells S).setIfInBounds 5 (.int .u32 (↑g.junk.length - 1))) 110 (0, 0))) (by kernel_rfl) ?_
  have hS := hb1
  refine ga_take 0 rfl (by kernel_rfl) (fun _ _ => (ev_mv rfl)) hS ?_
  refine ga_take 1 rfl (by kernel_rfl) (fun _ _ => (ev_nil rfl)) hS ?_
  refine ga_take 2 rfl (by kernel_rfl) (fun _ _ => (ev_fa (j := 0) rfl Tryz.runUnderlying110 rfl Tryz.sizeOf69 rfl rfl)) hS ?_
  refine ga_take 3 rfl (by kernel_rfl) (fun _ hs => (ev_ld rfl Tryz.isAgg69 (by first | exact hs | exact hs.1 | exact hs.2 | exact hs.2.1 | exact hs.2.2) (by rfl))) hS ?_
  refine ga_take 4 rfl (by kernel_rfl) (fun _ _ => (ev_mv rfl)) hS ?_
  refine ga_take 5 rfl (by kernel_rfl) (fun _ _ => (ev_nil rfl)) hS ?_
  refine ga_take 6 rfl (by kernel_rfl) (fun _ _ => (ev_fa (j := 5) rfl Tryz.runUnderlying110 rfl Tryz.sizeOf65 rfl rfl)) hS ?_
  refine ga_take 7 rfl (by kernel_rfl) (fun _ hs => (ev_ld rfl Tryz.isAgg65 (by first | exact hs | exact hs.1 | exact hs.2 | exact hs.2.1 | exact hs.2.2) (by rfl))) hS ?_
  refine ga_take 8 rfl (by kernel_rfl) (fun _ _ => (ev_slo (a' := g.junk.length - 1) rfl rfl Tryz.runUnderlying69 Tryz.sizeOf5 (by omega) (by omega) (by omega) (by omega))) hS ?_
  refine ga_take 9 rfl (by kernel_rfl) (fun _ _ => (ev_mv rfl)) hS ?_
  refine ga_call 10 rfl (by kernel_rfl) (ec_func Tryz.call304 rfl) (c304 t _ _ (g.junk.length - 1) _ _ _ hk1 (by omega) (by simp; omega)) ?_
  rintro _ w2 ⟨rfl, h2⟩
  refine ⟨sb_at h2 h.bk.symm hb1, fun _ => ?_⟩
  refine ga_nil (by kernel_rfl) ?_
  refine gk_end0 Tryz.results243 ?_
  exact ⟨_, rfl, rfl, h.place hc (by omega) hw1 h2⟩

theorem c44 {F : Nat → Prop} {w : World} {bb : Nat} {S : St} {g : Gh} (h : BldG F w bb S g) (hn : S.nested = false) : CR Tryz.prog 44 #[ptr bb] w (fun v w' => v = .tuple #[] ∧ w = w') := by
  have hb := h.hb
  refine cr_enter Tryz.func44 rfl Tryz.ntmps44 ?_
  refine gk_seq ?_
  refine gk_region ?_
  refine gr_v (ev_mv rfl) ?_
  refine gr_v (ev_nil rfl) ?_
  refine gr_v (ev_fa (j := 6) rfl Tryz.runUnderlying110 rfl Tryz.sizeOf4 rfl rfl) ?_
  refine gr_v (ev_ld rfl Tryz.isAgg4 (by first | exact hb) (by rfl)) ?_
  refine gr_nil ?_
  refine gk_false rfl (hn) ?_
  refine gk_skip ?_
  refine gk_end0 Tryz.results44 ?_
  exact ⟨_, rfl, rfl, rfl⟩

theorem c237 {F : Nat → Prop} {w : World} {bb : Nat} {S : St} {g : Gh} (h : BldG F w bb S g) (hn : S.nested = true) : CR Tryz.prog 237 #[ptr bb] w (fun v w' => v = .tuple #[] ∧ w = w') := by
  have hb := h.hb
  refine cr_enter Tryz.func237 rfl Tryz.ntmps237 ?_
  refine gk_seq ?_
  refine gk_region ?_
  refine gr_v (ev_mv rfl) ?_
  refine gr_v (ev_nil rfl) ?_
  refine gr_v (ev_fa (j := 6) rfl Tryz.runUnderlying110 rfl Tryz.sizeOf4 rfl rfl) ?_
  refine gr_v (ev_ld rfl Tryz.isAgg4 (by first | exact hb) (by rfl)) ?_
  refine gr_v (ev_not rfl) ?_
  refine gr_nil ?_
  refine gk_false rfl (by rw [hn]; rfl) ?_
  refine gk_skip ?_
  refine gk_end0 Tryz.results237 ?_
  exact ⟨_, rfl, rfl, rfl⟩

theorem c140 {F : Nat → Prop} {w : World} {bb : Nat} {S : St} {g : Gh} (h : BldG F w bb S g) (hn : S.fin = true) : CR Tryz.prog 140 #[ptr bb] w (fun v w' => v = .tuple #[] ∧ w = w') := by
  have hb := h.hb
  refine cr_enter Tryz.func140 rfl Tryz.ntmps140 ?_
  refine gk_seq ?_
  refine gk_region ?_
  refine gr_v (ev_mv rfl) ?_
  refine gr_v (ev_nil rfl) ?_
  refine gr_v (ev_fa (j := 7) rfl Tryz.runUnderlying110 rfl Tryz.sizeOf4 rfl rfl) ?_
  refine gr_v (ev_ld rfl Tryz.isAgg4 (by first | exact hb) (by rfl)) ?_
  refine gr_v (ev_not rfl) ?_
  refine gr_nil ?_
  refine gk_false rfl (by rw [hn]; rfl) ?_
  refine gk_skip ?_
  refine gk_end0 Tryz.results140 ?_
  exact ⟨_, rfl, rfl, rfl⟩

theorem c141 {F : Nat → Prop} {w : World} {bb : Nat} {S : St} {g : Gh} (h : BldG F w bb S g) : CR Tryz.prog 141 #[ptr bb] w (fun v w' => v = .int .u32 g.junk.length ∧ w = w') := by
  have hb := h.hb
  refine cr_enter Tryz.func141 rfl Tryz.ntmps141 ?_
  refine gk_seq ?_
  refine gk_region ?_
  refine gr_v (ev_as rfl) ?_
  refine gr_nil ?_
  refine gk_seq ?_
  refine gk_region ?_
  refine gr_v (ev_mv rfl) ?_
  refine gr_v (ev_nil rfl) ?_
  refine gr_v (ev_fa (j := 5) rfl Tryz.runUnderlying110 rfl Tryz.sizeOf65 rfl rfl) ?_
  refine gr_v (ev_ld rfl Tryz.isAgg65 (by first | exact hb) (by rfl)) ?_
  refine gr_v (ev_as rfl) ?_
  refine gr_nil ?_
  refine gk_ret1 Tryz.results141 rfl ?_
  exact ⟨_, rfl, rfl, rfl⟩

theorem c230 {F : Nat → Prop} {w : World} {bb : Nat} {S : St} {g : Gh} (h : BldG F w bb S g) : CR Tryz.prog 230 #[ptr bb] w (fun v w' => v = U S.buf.length ∧ w'.heap = w.heap) := by
  have hb := h.hb
  have hsm := h.small
  have e1 : g.len S = g.junk.length + S.buf.length := rfl
  refine cr_enter Tryz.func230 rfl Tryz.ntmps230 ?_
  refine gk_seq ?_
  refine gk_region ?_
  refine gr_v (ev_as rfl) ?_
  refine gr_nil ?_
  refine gk_seq ?_
  refine gk_draw (fun w' => w'.heap[bb]? = some (.cells (g.cells S) 110 (0, 0))) (by kernel_rfl) ?_
  have hS := hb
  refine ga_take 0 rfl (by kernel_rfl) (fun _ _ => (ev_mv rfl)) hS ?_
  refine ga_take 1 rfl (by kernel_rfl) (fun _ _ => (ev_nil rfl)) hS ?_
  refine ga_take 2 rfl (by kernel_rfl) (fun _ _ => (ev_fa (j := 0) rfl Tryz.runUnderlying110 rfl Tryz.sizeOf69 rfl rfl)) hS ?_
  refine ga_take 3 rfl (by kernel_rfl) (fun _ hs => (ev_ld rfl Tryz.isAgg69 (by first | exact hs | exact hs.1 | exact hs.2 | exact hs.2.1 | exact hs.2.2) (by rfl))) hS ?_
  refine ga_take 4 rfl (by kernel_rfl) (fun _ _ => (ev_len rfl ⟨_, rfl, _, Tryz.runUnderlying69⟩)) hS ?_
  refine ga_take 5 rfl (by kernel_rfl) (fun _ _ => (ev_cv rfl ⟨_, Tryz.runUnderlying3⟩ Tryz.runUnderlying65 (w_u32 (by omega) (by omega)))) hS ?_
  refine ga_take 6 rfl (by kernel_rfl) (fun _ _ => (ev_mv rfl)) hS ?_
  refine ga_take 7 rfl (by kernel_rfl) (fun _ _ => (ev_nil rfl)) hS ?_
  refine ga_take 8 rfl (by kernel_rfl) (fun _ _ => (ev_fa (j := 5) rfl Tryz.runUnderlying110 rfl Tryz.sizeOf65 rfl rfl)) hS ?_
  refine ga_take 9 rfl (by kernel_rfl) (fun _ hs => (ev_ld rfl Tryz.isAgg65 (by first | exact hs | exact hs.1 | exact hs.2 | exact hs.2.1 | exact hs.2.2) (by rfl))) hS ?_
  refine ga_take 10 rfl (by kernel_rfl) (fun _ _ => (ev_sub rfl rfl (w_u32 (by omega) (by omega)))) hS ?_
  refine ga_take 11 rfl (by kernel_rfl) (fun _ _ => (ev_as rfl)) hS ?_
  refine ga_nil (by kernel_rfl) ?_
  refine gk_ret1 Tryz.results230 rfl ?_
  exact ⟨_, rfl, by show Value.int .u32 _ = _; rw [show ((g.len S : Nat) : Int) - (g.junk.length : Int) = (S.buf.length : Int) by omega]; rfl, rfl⟩

theorem Bld.offset {F : Nat → Prop} {w : World} {bb : Nat} {S : St} (h : Bld F w bb S) : CR Tryz.prog 230 #[ptr bb] w (fun v w' => v = U S.buf.length ∧ Bld F w' bb S ∧ Keep F w w') := by
  obtain ⟨g, h⟩ := h
  refine (c230 h).mono ?_
  rintro e w' ⟨v, rfl, ⟨rfl, hh⟩, hs⟩
  exact ⟨_, rfl, ⟨rfl, ⟨g, h.same hh⟩, Keep.same hh⟩, hs⟩

theorem place_zero (i : Nat) (S : St) (h : i < S.room) : place [0] { S with buf := List.replicate i 0 ++ S.buf, room := S.room - i } = some { S with buf := List.replicate (i + 1) 0 ++ S.buf, room := S.room - (i + 1) } := by
  unfold place
  rw [if_pos (by simp; omega)]
  congr 2
theorem c229 (n : Nat) : BOp 229 [.int .i64 n] (place (List.replicate n 0)) := by
  rintro F w bb S S' h hm
  have hn : n ≤ S.room := by
    unfold place at hm
    by_cases hc : (List.replicate n (0 : UInt8)).length ≤ S.room
    · simpa using hc
    · rw [if_neg hc] at hm; exact absurd hm (by simp)
  have hs : S' = { S with buf := List.replicate n 0 ++ S.buf, room := S.room - n } := by
    unfold place at hm
    rw [if_pos (by simpa using hn)] at hm
    simpa using (Option.some.inj hm).symm
  subst hs
  have hn2 : n ≤ 600000000 := by obtain ⟨g, hg⟩ := h; have := hg.small; have := hg.room; simp only [Gh.len] at *; omega
  refine cr_enter Tryz.func229 rfl Tryz.ntmps229 ?_
  refine gk_seq ?_
  refine gk_region ?_
  refine gr_v (ev_as rfl) ?_
  refine gr_nil ?_
  refine gk_block ?_
  refine gk_loop (fun i : Nat => [(0, ptr bb), (1, .int .i64 n), (4, .int .i64 i)]) (fun i w' => i ≤ n ∧ Bld F w' bb { S with buf := List.replicate i 0 ++ S.buf, room := S.room - i } ∧ Keep F w w') (fun i => n - i) 0 ⟨rfl, rfl, rfl, trivial⟩ ⟨Nat.zero_le _, h, Keep.refl⟩ ?_
  rintro i w1 ⟨hi, hB, hK⟩
  by_cases hc : i < n
  · skip
    refine gk_seq ?_
    refine gk_seq ?_
    refine gk_region ?_
    refine gr_v (ev_mv rfl) ?_
    refine gr_v (ev_mv rfl) ?_
    refine gr_v (ev_lss rfl rfl) ?_
    refine gr_nil ?_
    refine gk_true rfl (decide_eq_true (by omega)) ?_
    refine gk_skip ?_
    refine gk_seq ?_
    refine gk_block ?_
    refine gk_region ?_
    refine gr_v (ev_mv rfl) ?_
    refine gr_call (ec_func Tryz.call232 rfl) (c232 0 F w1 bb _ _ hB (place_zero i S (by omega))) ?_
    rintro _ w2 ⟨rfl, hB2, hK2⟩
    refine gr_nil ?_
    refine gk_endblk ?_
    refine gk_region ?_
    refine gr_v (ev_mv rfl) ?_
    refine gr_v (ev_add rfl rfl (w_i64 (by omega) (by omega))) ?_
    refine gr_v (ev_as rfl) ?_
    refine gr_nil ?_
    refine gk_fin fun a ha => ?_
    exact ⟨i + 1, ha.keep ⟨rfl, rfl, rfl, trivial⟩, ⟨by omega, hB2, hK.trans hK2⟩, by omega⟩
  · obtain rfl : i = n := by omega
    refine gk_seq ?_
    refine gk_seq ?_
    refine gk_region ?_
    refine gr_v (ev_mv rfl) ?_
    refine gr_v (ev_mv rfl) ?_
    refine gr_v (ev_lss rfl rfl) ?_
    refine gr_nil ?_
    refine gk_false rfl (decide_eq_false (by omega)) ?_
    refine gk_exit rfl ?_
    refine gk_end0 Tryz.results229 ?_
    exact ⟨_, rfl, rfl, hB, hK⟩

end Go.Proofs.YtjaplgfgkigmiaaGreat