/-
  What is put in front, slots, vectors.
-/
import Derived.Test.YtjaplgfgkigmiaaGreatPr
namespace Go.Proofs.YtjaplgfgkigmiaaGreat
open Go Go.Proofs

theorem bind_some {α β : Type} {x : Option α} {f : α → Option β} {b : β} (h : x.bind f = some b) : ∃ a, x = some a ∧ f a = some b := Option.bind_eq_some_iff.1 h
theorem prep_len {s a : Nat} {S S1 : St} (h1 : prep s a S = some S1) : S1.buf.length ≤ 268435456 := by
  unfold prep at h1
  by_cases hc : (okSize s && decide (S.buf.length + padOf s (S.buf.length + a) + s + a ≤ 268435456)) = true
  · simp only [hc, if_true] at h1
    simp only [Bool.and_eq_true, decide_eq_true_eq] at hc
    have := Option.some.inj h1
    subst this
    simp
    omega
  · simp only [hc] at h1; exact absurd h1 (by simp)

theorem c68 (t : Bool) : BOp 68 [.bool t] (prepend 1 ([bb1 t])) := by
  rintro F w bb S S' h hm
  obtain ⟨S1, h1, h2⟩ := bind_some hm
  refine cr_enter Tryz.func68 rfl Tryz.ntmps68 ?_
  refine gk_seq ?_
  refine gk_region ?_
  refine gr_v (ev_mv rfl) ?_
  refine gr_call (ec_func Tryz.call45 rfl) (c45 1 0 F w bb _ _ h h1) ?_
  rintro _ w1 ⟨rfl, hB1, hK1⟩
  refine gr_nil ?_
  refine gk_region ?_
  refine gr_v (ev_mv rfl) ?_
  refine gr_v (ev_mv rfl) ?_
  refine gr_call (ec_func Tryz.call243 rfl) (c243 t F w1 bb _ _ hB1 h2) ?_
  rintro _ w2 ⟨rfl, hB2, hK2⟩
  refine gr_nil ?_
  refine gk_end0 Tryz.results68 ?_
  exact ⟨_, rfl, rfl, hB2, hK1.trans hK2⟩

theorem c74 (n : Int) : BOp 74 [.int .i64 n] (prepend 8 (le8 n)) := by
  rintro F w bb S S' h hm
  obtain ⟨S1, h1, h2⟩ := bind_some hm
  refine cr_enter Tryz.func74 rfl Tryz.ntmps74 ?_
  refine gk_seq ?_
  refine gk_region ?_
  refine gr_v (ev_mv rfl) ?_
  refine gr_call (ec_func Tryz.call45 rfl) (c45 8 0 F w bb _ _ h h1) ?_
  rintro _ w1 ⟨rfl, hB1, hK1⟩
  refine gr_nil ?_
  refine gk_region ?_
  refine gr_v (ev_mv rfl) ?_
  refine gr_v (ev_mv rfl) ?_
  refine gr_call (ec_func Tryz.call245 rfl) (c245 n F w1 bb _ _ hB1 h2) ?_
  rintro _ w2 ⟨rfl, hB2, hK2⟩
  refine gr_nil ?_
  refine gk_end0 Tryz.results74 ?_
  exact ⟨_, rfl, rfl, hB2, hK1.trans hK2⟩

theorem c76 (n : Nat) : BOp 76 [.float .f64 n] (prepend 8 (le8 n)) := by
  rintro F w bb S S' h hm
  obtain ⟨S1, h1, h2⟩ := bind_some hm
  refine cr_enter Tryz.func76 rfl Tryz.ntmps76 ?_
  refine gk_seq ?_
  refine gk_region ?_
  refine gr_v (ev_mv rfl) ?_
  refine gr_call (ec_func Tryz.call45 rfl) (c45 8 0 F w bb _ _ h h1) ?_
  rintro _ w1 ⟨rfl, hB1, hK1⟩
  refine gr_nil ?_
  refine gk_region ?_
  refine gr_v (ev_mv rfl) ?_
  refine gr_v (ev_mv rfl) ?_
  refine gr_call (ec_func Tryz.call246 rfl) (c246 n F w1 bb _ _ hB1 h2) ?_
  rintro _ w2 ⟨rfl, hB2, hK2⟩
  refine gr_nil ?_
  refine gk_end0 Tryz.results76 ?_
  exact ⟨_, rfl, rfl, hB2, hK1.trans hK2⟩

theorem c81 (n : Int) : BOp 81 [.int .u64 n] (prepend 8 (le8 n)) := by
  rintro F w bb S S' h hm
  obtain ⟨S1, h1, h2⟩ := bind_some hm
  refine cr_enter Tryz.func81 rfl Tryz.ntmps81 ?_
  refine gk_seq ?_
  refine gk_region ?_
  refine gr_v (ev_mv rfl) ?_
  refine gr_call (ec_func Tryz.call45 rfl) (c45 8 0 F w bb _ _ h h1) ?_
  rintro _ w1 ⟨rfl, hB1, hK1⟩
  refine gr_nil ?_
  refine gk_region ?_
  refine gr_v (ev_mv rfl) ?_
  refine gr_v (ev_mv rfl) ?_
  refine gr_call (ec_func Tryz.call252 rfl) (c252 n F w1 bb _ _ hB1 h2) ?_
  rintro _ w2 ⟨rfl, hB2, hK2⟩
  refine gr_nil ?_
  refine gk_end0 Tryz.results81 ?_
  exact ⟨_, rfl, rfl, hB2, hK1.trans hK2⟩

theorem c88 (n : UInt8) : BOp 88 [B n] (prepend 1 ([n])) := by
  rintro F w bb S S' h hm
  obtain ⟨S1, h1, h2⟩ := bind_some hm
  refine cr_enter Tryz.func88 rfl Tryz.ntmps88 ?_
  refine gk_seq ?_
  refine gk_region ?_
  refine gr_v (ev_mv rfl) ?_
  refine gr_call (ec_func Tryz.call45 rfl) (c45 1 0 F w bb _ _ h h1) ?_
  rintro _ w1 ⟨rfl, hB1, hK1⟩
  refine gr_nil ?_
  refine gk_region ?_
  refine gr_v (ev_mv rfl) ?_
  refine gr_v (ev_mv rfl) ?_
  refine gr_call (ec_func Tryz.call232 rfl) (c232 n F w1 bb _ _ hB1 h2) ?_
  rintro _ w2 ⟨rfl, hB2, hK2⟩
  refine gr_nil ?_
  refine gk_end0 Tryz.results88 ?_
  exact ⟨_, rfl, rfl, hB2, hK1.trans hK2⟩

theorem c301 (n : Int) : BOp 301 [.int .i8 n] (prepend 1 ([lb n])) := by
  rintro F w bb S S' h hm
  obtain ⟨S1, h1, h2⟩ := bind_some hm
  refine cr_enter Tryz.func301 rfl Tryz.ntmps301 ?_
  refine gk_seq ?_
  refine gk_region ?_
  refine gr_v (ev_mv rfl) ?_
  refine gr_call (ec_func Tryz.call45 rfl) (c45 1 0 F w bb _ _ h h1) ?_
  rintro _ w1 ⟨rfl, hB1, hK1⟩
  refine gr_nil ?_
  refine gk_region ?_
  refine gr_v (ev_mv rfl) ?_
  refine gr_v (ev_mv rfl) ?_
  refine gr_call (ec_func Tryz.call328 rfl) (c328 n F w1 bb _ _ hB1 h2) ?_
  rintro _ w2 ⟨rfl, hB2, hK2⟩
  refine gr_nil ?_
  refine gk_end0 Tryz.results301 ?_
  exact ⟨_, rfl, rfl, hB2, hK1.trans hK2⟩

theorem c302 (n : Int) : BOp 302 [.int .i16 n] (prepend 2 (le2 n)) := by
  rintro F w bb S S' h hm
  obtain ⟨S1, h1, h2⟩ := bind_some hm
  refine cr_enter Tryz.func302 rfl Tryz.ntmps302 ?_
  refine gk_seq ?_
  refine gk_region ?_
  refine gr_v (ev_mv rfl) ?_
  refine gr_call (ec_func Tryz.call45 rfl) (c45 2 0 F w bb _ _ h h1) ?_
  rintro _ w1 ⟨rfl, hB1, hK1⟩
  refine gr_nil ?_
  refine gk_region ?_
  refine gr_v (ev_mv rfl) ?_
  refine gr_v (ev_mv rfl) ?_
  refine gr_call (ec_func Tryz.call329 rfl) (c329 n F w1 bb _ _ hB1 h2) ?_
  rintro _ w2 ⟨rfl, hB2, hK2⟩
  refine gr_nil ?_
  refine gk_end0 Tryz.results302 ?_
  exact ⟨_, rfl, rfl, hB2, hK1.trans hK2⟩

theorem c305 (n : Int) : BOp 305 [.int .u32 n] (prepend 4 (le4 n)) := by
  rintro F w bb S S' h hm
  obtain ⟨S1, h1, h2⟩ := bind_some hm
  refine cr_enter Tryz.func305 rfl Tryz.ntmps305 ?_
  refine gk_seq ?_
  refine gk_region ?_
  refine gr_v (ev_mv rfl) ?_
  refine gr_call (ec_func Tryz.call45 rfl) (c45 4 0 F w bb _ _ h h1) ?_
  rintro _ w1 ⟨rfl, hB1, hK1⟩
  refine gr_nil ?_
  refine gk_region ?_
  refine gr_v (ev_mv rfl) ?_
  refine gr_v (ev_mv rfl) ?_
  refine gr_call (ec_func Tryz.call331 rfl) (c331 n F w1 bb _ _ hB1 h2) ?_
  rintro _ w2 ⟨rfl, hB2, hK2⟩
  refine gr_nil ?_
  refine gk_end0 Tryz.results305 ?_
  exact ⟨_, rfl, rfl, hB2, hK1.trans hK2⟩

theorem c309 (n : Nat) : BOp 309 [.float .f32 n] (prepend 4 (le4 n)) := by
  rintro F w bb S S' h hm
  obtain ⟨S1, h1, h2⟩ := bind_some hm
  refine cr_enter Tryz.func309 rfl Tryz.ntmps309 ?_
  refine gk_seq ?_
  refine gk_region ?_
  refine gr_v (ev_mv rfl) ?_
  refine gr_call (ec_func Tryz.call45 rfl) (c45 4 0 F w bb _ _ h h1) ?_
  rintro _ w1 ⟨rfl, hB1, hK1⟩
  refine gr_nil ?_
  refine gk_region ?_
  refine gr_v (ev_mv rfl) ?_
  refine gr_v (ev_mv rfl) ?_
  refine gr_call (ec_func Tryz.call332 rfl) (c332 n F w1 bb _ _ hB1 h2) ?_
  rintro _ w2 ⟨rfl, hB2, hK2⟩
  refine gr_nil ?_
  refine gk_end0 Tryz.results309 ?_
  exact ⟨_, rfl, rfl, hB2, hK1.trans hK2⟩

theorem c311 (n : Int) : BOp 311 [.int .i32 n] (prepend 4 (le4 n)) := by
  rintro F w bb S S' h hm
  obtain ⟨S1, h1, h2⟩ := bind_some hm
  refine cr_enter Tryz.func311 rfl Tryz.ntmps311 ?_
  refine gk_seq ?_
  refine gk_region ?_
  refine gr_v (ev_mv rfl) ?_
  refine gr_call (ec_func Tryz.call45 rfl) (c45 4 0 F w bb _ _ h h1) ?_
  rintro _ w1 ⟨rfl, hB1, hK1⟩
  refine gr_nil ?_
  refine gk_region ?_
  refine gr_v (ev_mv rfl) ?_
  refine gr_v (ev_mv rfl) ?_
  refine gr_call (ec_func Tryz.call333 rfl) (c333 n F w1 bb _ _ hB1 h2) ?_
  rintro _ w2 ⟨rfl, hB2, hK2⟩
  refine gr_nil ?_
  refine gk_end0 Tryz.results311 ?_
  exact ⟨_, rfl, rfl, hB2, hK1.trans hK2⟩

theorem c330 (n : Int) : BOp 330 [.int .u16 n] (prepend 2 (le2 n)) := by
  rintro F w bb S S' h hm
  obtain ⟨S1, h1, h2⟩ := bind_some hm
  refine cr_enter Tryz.func330 rfl Tryz.ntmps330 ?_
  refine gk_seq ?_
  refine gk_region ?_
  refine gr_v (ev_mv rfl) ?_
  refine gr_call (ec_func Tryz.call45 rfl) (c45 2 0 F w bb _ _ h h1) ?_
  rintro _ w1 ⟨rfl, hB1, hK1⟩
  refine gr_nil ?_
  refine gk_region ?_
  refine gr_v (ev_mv rfl) ?_
  refine gr_v (ev_mv rfl) ?_
  refine gr_call (ec_func Tryz.call343 rfl) (c343 n F w1 bb _ _ hB1 h2) ?_
  rintro _ w2 ⟨rfl, hB2, hK2⟩
  refine gr_nil ?_
  refine gk_end0 Tryz.results330 ?_
  exact ⟨_, rfl, rfl, hB2, hK1.trans hK2⟩

theorem c337 (n : Int) : BOp 337 [.int .u16 n] (prepend 2 (le2 n)) := by
  rintro F w bb S S' h hm
  obtain ⟨S1, h1, h2⟩ := bind_some hm
  refine cr_enter Tryz.func337 rfl Tryz.ntmps337 ?_
  refine gk_seq ?_
  refine gk_region ?_
  refine gr_v (ev_mv rfl) ?_
  refine gr_call (ec_func Tryz.call45 rfl) (c45 2 0 F w bb _ _ h h1) ?_
  rintro _ w1 ⟨rfl, hB1, hK1⟩
  refine gr_nil ?_
  refine gk_region ?_
  refine gr_v (ev_mv rfl) ?_
  refine gr_v (ev_mv rfl) ?_
  refine gr_call (ec_func Tryz.call347 rfl) (c347 n F w1 bb _ _ hB1 h2) ?_
  rintro _ w2 ⟨rfl, hB2, hK2⟩
  refine gr_nil ?_
  refine gk_end0 Tryz.results337 ?_
  exact ⟨_, rfl, rfl, hB2, hK1.trans hK2⟩

theorem c46 (off : Nat) : BOp 46 [U off] (prependU off) := by
  rintro F w bb S S' h hm
  obtain ⟨S1, h1, h2⟩ := bind_some hm
  by_cases hc : off ≤ S1.buf.length
  case neg => rw [if_neg hc] at h2; exact absurd h2 (by simp)
  rw [if_pos hc] at h2
  have hsm := prep_len h1
  refine cr_enter Tryz.func46 rfl Tryz.ntmps46 ?_
  refine gk_seq ?_
  refine gk_region ?_
  refine gr_v (ev_mv rfl) ?_
  refine gr_call (ec_func Tryz.call45 rfl) (c45 4 0 F w bb _ _ h h1) ?_
  rintro _ w1 ⟨rfl, hB1, hK1⟩
  refine gr_nil ?_
  refine gk_seq ?_
  refine gk_seq ?_
  refine gk_region ?_
  refine gr_v (ev_mv rfl) ?_
  refine gr_v (ev_mv rfl) ?_
  refine gr_call (ec_func Tryz.call230 rfl) (hB1.offset) ?_
  rintro _ w2 ⟨rfl, hB2, hK2⟩
  refine gr_v (ev_leq rfl rfl) ?_
  refine gr_v (ev_not rfl) ?_
  refine gr_nil ?_
  refine gk_false rfl (by rw [decide_eq_true (by omega)]; rfl) ?_
  refine gk_skip ?_
  refine gk_seq ?_
  refine gk_region ?_
  refine gr_v (ev_mv rfl) ?_
  refine gr_call (ec_func Tryz.call230 rfl) (hB2.offset) ?_
  rintro _ w3 ⟨rfl, hB3, hK3⟩
  refine gr_v (ev_mv rfl) ?_
  refine gr_v (ev_sub rfl rfl (w_u32 (by omega) (by omega))) ?_
  refine gr_v (ev_add rfl rfl (w_u32 (by omega) (by omega))) ?_
  refine gr_v (ev_as rfl) ?_
  refine gr_nil ?_
  refine gk_region ?_
  refine gr_v (ev_mv rfl) ?_
  refine gr_v (ev_mv rfl) ?_
  refine gr_call (ec_func Tryz.call231 rfl) (c231 _ F w3 bb _ _ hB3 h2) ?_
  rintro _ w4 ⟨rfl, hB4, hK4⟩
  refine gr_nil ?_
  refine gk_end0 Tryz.results46 ?_
  exact ⟨_, rfl, rfl, hB4, ((hK1.trans hK2).trans hK3).trans hK4⟩

def prependS (S : St) : Option St := (prep 4 0 S).bind fun S => place (le4 (S.buf.length + 4)) S
theorem c334 : BOp 334 [.int .i32 0] prependS := by
  rintro F w bb S S' h hm
  obtain ⟨S1, h1, h2⟩ := bind_some hm
  have hsm := prep_len h1
  refine cr_enter Tryz.func334 rfl Tryz.ntmps334 ?_
  refine gk_seq ?_
  refine gk_region ?_
  refine gr_v (ev_mv rfl) ?_
  refine gr_call (ec_func Tryz.call45 rfl) (c45 4 0 F w bb _ _ h h1) ?_
  rintro _ w1 ⟨rfl, hB1, hK1⟩
  refine gr_nil ?_
  refine gk_seq ?_
  refine gk_seq ?_
  refine gk_region ?_
  refine gr_v (ev_mv rfl) ?_
  refine gr_v (ev_cv rfl ⟨_, Tryz.runUnderlying289⟩ Tryz.runUnderlying65 (w_u32 (by omega) (by omega))) ?_
  refine gr_v (ev_mv rfl) ?_
  refine gr_call (ec_func Tryz.call230 rfl) (hB1.offset) ?_
  rintro _ w2 ⟨rfl, hB2, hK2⟩
  refine gr_v (ev_leq rfl rfl) ?_
  refine gr_v (ev_not rfl) ?_
  refine gr_nil ?_
  refine gk_false rfl (by rw [decide_eq_true (by omega)]; rfl) ?_
  refine gk_skip ?_
  refine gk_seq ?_
  refine gk_region ?_
  refine gr_v (ev_mv rfl) ?_
  refine gr_call (ec_func Tryz.call230 rfl) (hB2.offset) ?_
  rintro _ w3 ⟨rfl, hB3, hK3⟩
  refine gr_v (ev_cv rfl ⟨_, Tryz.runUnderlying65⟩ Tryz.runUnderlying289 (w_i32 (by omega) (by omega))) ?_
  refine gr_v (ev_mv rfl) ?_
  refine gr_v (ev_sub rfl rfl (w_i32 (by omega) (by omega))) ?_
  refine gr_v (ev_add rfl rfl (w_i32 (by omega) (by omega))) ?_
  refine gr_v (ev_as rfl) ?_
  refine gr_nil ?_
  refine gk_region ?_
  refine gr_v (ev_mv rfl) ?_
  refine gr_v (ev_mv rfl) ?_
  refine gr_call (ec_func Tryz.call346 rfl) (c346 _ F w3 bb _ _ hB3 (by rw [← h2]; congr 2)) ?_
  rintro _ w4 ⟨rfl, hB4, hK4⟩
  refine gr_nil ?_
  refine gk_end0 Tryz.results334 ?_
  exact ⟨_, rfl, rfl, hB4, ((hK1.trans hK2).trans hK3).trans hK4⟩

theorem rowU_set {l : List Nat} {x : List Value} {i n : Nat} (h : i < l.length) : (rowU l x).setIfInBounds i (U n) = rowU (l.set i n) x := by
  apply Array.ext'
  simp only [rowU, Array.toList_setIfInBounds, List.map_set]
  rw [List.set_append_left _ _ (by simpa using h)]
theorem rowU_size {l : List Nat} {x : List Value} : (rowU l x).size = l.length + x.length := by simp [rowU]
theorem rowU_at {l : List Nat} {x : List Value} {i : Nat} (h : i < l.length) : (rowU l x)[i]? = some (U l[i]) := by
  simp [rowU, List.getElem?_append_left, h]
theorem c310 (i : Nat) : BOp 310 [.int .i64 i] (slot i) := by
  rintro F w bb S S' ⟨g, h⟩ hm
  unfold slot at hm
  by_cases hi : i < S.vt.length
  case neg => rw [if_neg hi] at hm; exact absurd hm (by simp)
  rw [if_pos hi] at hm
  obtain rfl := Option.some.inj hm
  obtain ⟨kb, junk, extra, vb, vx, tb, tx⟩ := g
  cases vb with
  | none => have := h.hv0 rfl; rw [this] at hi; exact absurd hi (by simp)
  | some vb =>
  have hb := h.hb
  have hv := h.hv vb rfl
  have hbv := h.bv vb rfl
  skip
  refine cr_enter Tryz.func310 rfl Tryz.ntmps310 ?_
  refine gk_draw (fun w' => w'.heap[bb]? = w.heap[bb]?) (by kernel_rfl) ?_
  have hS := (rfl : w.heap[bb]? = w.heap[bb]?)
  refine ga_take 0 rfl (by kernel_rfl) (fun _ _ => (ev_mv rfl)) hS ?_
  refine ga_take 1 rfl (by kernel_rfl) (fun _ _ => (ev_nil rfl)) hS ?_
  refine ga_take 2 rfl (by kernel_rfl) (fun _ _ => (ev_fa (j := 2) rfl Tryz.runUnderlying110 rfl Tryz.sizeOf107 rfl rfl)) hS ?_
  refine ga_take 3 rfl (by kernel_rfl) (fun _ hs => (ev_ld rfl Tryz.isAgg107 (by rw [hs]; exact hb) (by rfl))) hS ?_
  refine ga_take 4 rfl (by kernel_rfl) (fun _ _ => (ev_mv rfl)) hS ?_
  refine ga_take 5 rfl (by kernel_rfl) (fun _ _ => (ev_mv rfl)) hS ?_
  refine ga_call 6 rfl (by kernel_rfl) (ec_func Tryz.call230 rfl) (c230 (h.same rfl)) ?_
  rintro _ w1 ⟨rfl, hh1⟩
  refine ⟨by rw [hh1]; rfl, fun hS => ?_⟩
  refine ga_take 7 rfl (by kernel_rfl) (fun _ _ => (ev_ix (a' := i) rfl rfl Tryz.runUnderlying107 Tryz.sizeOf65 (by omega) (by omega) (by omega))) hS ?_
  refine ga_s 8 rfl (by kernel_rfl) (es_st (cs' := rowU (S.vt.set i S.buf.length) vx) rfl rfl (by rfl) Tryz.sizeOf65 (hp hh1 hv) (by rw [rowU_size]; simp [Nat.blt_eq]; omega) (rowU_set hi)) (by rw [hb]; exact sb_ne hbv.1.symm (hp hh1 hb)) ?_
  refine ga_nil (by kernel_rfl) ?_
  refine gk_end0 Tryz.results310 ?_
  have hsz : (w1.setB vb (.cells (rowU (S.vt.set i S.buf.length) vx) 65 (0, 0))).heap.size = w.heap.size := by rw [sb_size, hh1]; rfl
  have hb2 := sb_ne (o := .cells (rowU (S.vt.set i S.buf.length) vx) 65 (0, 0)) hbv.1.symm (hp hh1 hb)
  have ec : Gh.cells ⟨kb, junk, extra, some vb, vx, tb, tx⟩ S = Gh.cells ⟨kb, junk, extra, some vb, vx, tb, tx⟩ { S with vt := S.vt.set i S.buf.length } := by
    simp [Gh.cells, Gh.vtv, Gh.len, Gh.cap]
  rw [ec] at hb2
  exact ⟨_, rfl, rfl, ⟨⟨kb, junk, extra, some vb, vx, tb, tx⟩,
    { hb := hb2,
      hk := sb_ne hbv.2.1.symm (hp hh1 h.hk), hv := fun b e => (by cases e; exact sb_same (hp hh1 hv)), hv0 := fun e => (by cases e), hst := fun _ => ⟨_, rfl⟩,
      ht := sb_ne hbv.2.2.symm (hp hh1 h.ht), bk := h.bk, bv := h.bv, bt := h.bt, kt := h.kt, fb := h.fb, fk := h.fk, fv := h.fv, ft := h.ft,
      fs := fun b hb => by rw [hsz]; exact h.fs b hb, room := h.room, small := h.small, vone := h.vone, tone := h.tone }⟩,
    (Keep.same (w1 := w1) hh1).trans (Keep.setB (h.fv vb rfl))⟩

def slotOp (ne : Bool) (p : St → Option St) (i : Nat) (S : St) : Option St := if ne then (p S).bind (slot i) else some S
def fne (k : FloatKind) (x y : Nat) : Bool := k.format.order x y != some .eq
theorem ev_fneq {P : Program} {l : Slots} {w : World} {T t u : TypeId} {x y : Operand} {k : FloatKind} {m n : Nat} (hx : ev l x = some (.float k m)) (hy : ev l y = some (.float k n)) : EV P l (.binOp .neq t x y u) T w (.bool (fne k m n)) w := ev_of <| fun ρ o ho _ hρ => by
  simp [execOp, ho, hρ _ _ hx, hρ _ _ hy, eqGuard, binOp, Op.floatCmp, fne]

theorem c256 (i : Nat) (n d : Int) : BOp 256 [.int .i64 i, .int .i16 n, .int .i16 d] (slotOp (n != d) (prepend 2 (le2 n)) i) := by
  rintro F w bb S S' h hm
  unfold slotOp at hm
  cases hne : (n != d)
  case false =>
    rw [hne] at hm
    simp only [Bool.false_eq_true, if_false] at hm
    obtain rfl := Option.some.inj hm
    refine cr_enter Tryz.func256 rfl Tryz.ntmps256 ?_
    refine gk_seq ?_
    refine gk_region ?_
    refine gr_v (ev_mv rfl) ?_
    refine gr_v (ev_mv rfl) ?_
    refine gr_v (ev_neq rfl rfl) ?_
    refine gr_nil ?_
    refine gk_false rfl (hne) ?_
    refine gk_skip ?_
    refine gk_end0 Tryz.results256 ?_
    exact ⟨_, rfl, rfl, h, Keep.refl⟩
  case true =>
    rw [hne] at hm
    simp only [if_true] at hm
    obtain ⟨S1, h1, h2⟩ := bind_some hm
    refine cr_enter Tryz.func256 rfl Tryz.ntmps256 ?_
    refine gk_seq ?_
    refine gk_region ?_
    refine gr_v (ev_mv rfl) ?_
    refine gr_v (ev_mv rfl) ?_
    refine gr_v (ev_neq rfl rfl) ?_
    refine gr_nil ?_
    refine gk_true rfl (hne) ?_
    refine gk_seq ?_
    refine gk_region ?_
    refine gr_v (ev_mv rfl) ?_
    refine gr_v (ev_mv rfl) ?_
    refine gr_call (ec_func Tryz.call302 rfl) (c302 n F w bb _ _ h h1) ?_
    rintro _ w1 ⟨rfl, hB1, hK1⟩
    refine gr_nil ?_
    refine gk_region ?_
    refine gr_v (ev_mv rfl) ?_
    refine gr_v (ev_mv rfl) ?_
    refine gr_call (ec_func Tryz.call310 rfl) (c310 i F w1 bb _ _ hB1 h2) ?_
    rintro _ w2 ⟨rfl, hB2, hK2⟩
    refine gr_nil ?_
    refine gk_end0 Tryz.results256 ?_
    exact ⟨_, rfl, rfl, hB2, hK1.trans hK2⟩

theorem c257 (i : Nat) (n d : Nat) : BOp 257 [.int .i64 i, U n, U d] (slotOp ((n : Int) != (d : Int)) (prependU n) i) := by
  rintro F w bb S S' h hm
  unfold slotOp at hm
  cases hne : ((n : Int) != (d : Int))
  case false =>
    rw [hne] at hm
    simp only [Bool.false_eq_true, if_false] at hm
    obtain rfl := Option.some.inj hm
    refine cr_enter Tryz.func257 rfl Tryz.ntmps257 ?_
    refine gk_seq ?_
    refine gk_region ?_
    refine gr_v (ev_mv rfl) ?_
    refine gr_v (ev_mv rfl) ?_
    refine gr_v (ev_neq rfl rfl) ?_
    refine gr_nil ?_
    refine gk_false rfl (hne) ?_
    refine gk_skip ?_
    refine gk_end0 Tryz.results257 ?_
    exact ⟨_, rfl, rfl, h, Keep.refl⟩
  case true =>
    rw [hne] at hm
    simp only [if_true] at hm
    obtain ⟨S1, h1, h2⟩ := bind_some hm
    refine cr_enter Tryz.func257 rfl Tryz.ntmps257 ?_
    refine gk_seq ?_
    refine gk_region ?_
    refine gr_v (ev_mv rfl) ?_
    refine gr_v (ev_mv rfl) ?_
    refine gr_v (ev_neq rfl rfl) ?_
    refine gr_nil ?_
    refine gk_true rfl (hne) ?_
    refine gk_seq ?_
    refine gk_region ?_
    refine gr_v (ev_mv rfl) ?_
    refine gr_v (ev_mv rfl) ?_
    refine gr_call (ec_func Tryz.call46 rfl) (c46 n F w bb _ _ h h1) ?_
    rintro _ w1 ⟨rfl, hB1, hK1⟩
    refine gr_nil ?_
    refine gk_region ?_
    refine gr_v (ev_mv rfl) ?_
    refine gr_v (ev_mv rfl) ?_
    refine gr_call (ec_func Tryz.call310 rfl) (c310 i F w1 bb _ _ hB1 h2) ?_
    rintro _ w2 ⟨rfl, hB2, hK2⟩
    refine gr_nil ?_
    refine gk_end0 Tryz.results257 ?_
    exact ⟨_, rfl, rfl, hB2, hK1.trans hK2⟩

theorem c258 (i : Nat) (n d : UInt8) : BOp 258 [.int .i64 i, B n, B d] (slotOp ((n.toNat : Int) != (d.toNat : Int)) (prepend 1 [n]) i) := by
  rintro F w bb S S' h hm
  unfold slotOp at hm
  cases hne : ((n.toNat : Int) != (d.toNat : Int))
  case false =>
    rw [hne] at hm
    simp only [Bool.false_eq_true, if_false] at hm
    obtain rfl := Option.some.inj hm
    refine cr_enter Tryz.func258 rfl Tryz.ntmps258 ?_
    refine gk_seq ?_
    refine gk_region ?_
    refine gr_v (ev_mv rfl) ?_
    refine gr_v (ev_mv rfl) ?_
    refine gr_v (ev_neq rfl rfl) ?_
    refine gr_nil ?_
    refine gk_false rfl (hne) ?_
    refine gk_skip ?_
    refine gk_end0 Tryz.results258 ?_
    exact ⟨_, rfl, rfl, h, Keep.refl⟩
  case true =>
    rw [hne] at hm
    simp only [if_true] at hm
    obtain ⟨S1, h1, h2⟩ := bind_some hm
    refine cr_enter Tryz.func258 rfl Tryz.ntmps258 ?_
    refine gk_seq ?_
    refine gk_region ?_
    refine gr_v (ev_mv rfl) ?_
    refine gr_v (ev_mv rfl) ?_
    refine gr_v (ev_neq rfl rfl) ?_
    refine gr_nil ?_
    refine gk_true rfl (hne) ?_
    refine gk_seq ?_
    refine gk_region ?_
    refine gr_v (ev_mv rfl) ?_
    refine gr_v (ev_mv rfl) ?_
    refine gr_call (ec_func Tryz.call88 rfl) (c88 n F w bb _ _ h h1) ?_
    rintro _ w1 ⟨rfl, hB1, hK1⟩
    refine gr_nil ?_
    refine gk_region ?_
    refine gr_v (ev_mv rfl) ?_
    refine gr_v (ev_mv rfl) ?_
    refine gr_call (ec_func Tryz.call310 rfl) (c310 i F w1 bb _ _ hB1 h2) ?_
    rintro _ w2 ⟨rfl, hB2, hK2⟩
    refine gr_nil ?_
    refine gk_end0 Tryz.results258 ?_
    exact ⟨_, rfl, rfl, hB2, hK1.trans hK2⟩

theorem c260 (i : Nat) (n d : Int) : BOp 260 [.int .i64 i, .int .i32 n, .int .i32 d] (slotOp (n != d) (prepend 4 (le4 n)) i) := by
  rintro F w bb S S' h hm
  unfold slotOp at hm
  cases hne : (n != d)
  case false =>
    rw [hne] at hm
    simp only [Bool.false_eq_true, if_false] at hm
    obtain rfl := Option.some.inj hm
    refine cr_enter Tryz.func260 rfl Tryz.ntmps260 ?_
    refine gk_seq ?_
    refine gk_region ?_
    refine gr_v (ev_mv rfl) ?_
    refine gr_v (ev_mv rfl) ?_
    refine gr_v (ev_neq rfl rfl) ?_
    refine gr_nil ?_
    refine gk_false rfl (hne) ?_
    refine gk_skip ?_
    refine gk_end0 Tryz.results260 ?_
    exact ⟨_, rfl, rfl, h, Keep.refl⟩
  case true =>
    rw [hne] at hm
    simp only [if_true] at hm
    obtain ⟨S1, h1, h2⟩ := bind_some hm
    refine cr_enter Tryz.func260 rfl Tryz.ntmps260 ?_
    refine gk_seq ?_
    refine gk_region ?_
    refine gr_v (ev_mv rfl) ?_
    refine gr_v (ev_mv rfl) ?_
    refine gr_v (ev_neq rfl rfl) ?_
    refine gr_nil ?_
    refine gk_true rfl (hne) ?_
    refine gk_seq ?_
    refine gk_region ?_
    refine gr_v (ev_mv rfl) ?_
    refine gr_v (ev_mv rfl) ?_
    refine gr_call (ec_func Tryz.call311 rfl) (c311 n F w bb _ _ h h1) ?_
    rintro _ w1 ⟨rfl, hB1, hK1⟩
    refine gr_nil ?_
    refine gk_region ?_
    refine gr_v (ev_mv rfl) ?_
    refine gr_v (ev_mv rfl) ?_
    refine gr_call (ec_func Tryz.call310 rfl) (c310 i F w1 bb _ _ hB1 h2) ?_
    rintro _ w2 ⟨rfl, hB2, hK2⟩
    refine gr_nil ?_
    refine gk_end0 Tryz.results260 ?_
    exact ⟨_, rfl, rfl, hB2, hK1.trans hK2⟩

theorem c261 (i : Nat) (n d : Int) : BOp 261 [.int .i64 i, .int .u32 n, .int .u32 d] (slotOp (n != d) (prepend 4 (le4 n)) i) := by
  rintro F w bb S S' h hm
  unfold slotOp at hm
  cases hne : (n != d)
  case false =>
    rw [hne] at hm
    simp only [Bool.false_eq_true, if_false] at hm
    obtain rfl := Option.some.inj hm
    refine cr_enter Tryz.func261 rfl Tryz.ntmps261 ?_
    refine gk_seq ?_
    refine gk_region ?_
    refine gr_v (ev_mv rfl) ?_
    refine gr_v (ev_mv rfl) ?_
    refine gr_v (ev_neq rfl rfl) ?_
    refine gr_nil ?_
    refine gk_false rfl (hne) ?_
    refine gk_skip ?_
    refine gk_end0 Tryz.results261 ?_
    exact ⟨_, rfl, rfl, h, Keep.refl⟩
  case true =>
    rw [hne] at hm
    simp only [if_true] at hm
    obtain ⟨S1, h1, h2⟩ := bind_some hm
    refine cr_enter Tryz.func261 rfl Tryz.ntmps261 ?_
    refine gk_seq ?_
    refine gk_region ?_
    refine gr_v (ev_mv rfl) ?_
    refine gr_v (ev_mv rfl) ?_
    refine gr_v (ev_neq rfl rfl) ?_
    refine gr_nil ?_
    refine gk_true rfl (hne) ?_
    refine gk_seq ?_
    refine gk_region ?_
    refine gr_v (ev_mv rfl) ?_
    refine gr_v (ev_mv rfl) ?_
    refine gr_call (ec_func Tryz.call305 rfl) (c305 n F w bb _ _ h h1) ?_
    rintro _ w1 ⟨rfl, hB1, hK1⟩
    refine gr_nil ?_
    refine gk_region ?_
    refine gr_v (ev_mv rfl) ?_
    refine gr_v (ev_mv rfl) ?_
    refine gr_call (ec_func Tryz.call310 rfl) (c310 i F w1 bb _ _ hB1 h2) ?_
    rintro _ w2 ⟨rfl, hB2, hK2⟩
    refine gr_nil ?_
    refine gk_end0 Tryz.results261 ?_
    exact ⟨_, rfl, rfl, hB2, hK1.trans hK2⟩

theorem c262 (i : Nat) (n d : Int) : BOp 262 [.int .i64 i, .int .i64 n, .int .i64 d] (slotOp (n != d) (prepend 8 (le8 n)) i) := by
  rintro F w bb S S' h hm
  unfold slotOp at hm
  cases hne : (n != d)
  case false =>
    rw [hne] at hm
    simp only [Bool.false_eq_true, if_false] at hm
    obtain rfl := Option.some.inj hm
    refine cr_enter Tryz.func262 rfl Tryz.ntmps262 ?_
    refine gk_seq ?_
    refine gk_region ?_
    refine gr_v (ev_mv rfl) ?_
    refine gr_v (ev_mv rfl) ?_
    refine gr_v (ev_neq rfl rfl) ?_
    refine gr_nil ?_
    refine gk_false rfl (hne) ?_
    refine gk_skip ?_
    refine gk_end0 Tryz.results262 ?_
    exact ⟨_, rfl, rfl, h, Keep.refl⟩
  case true =>
    rw [hne] at hm
    simp only [if_true] at hm
    obtain ⟨S1, h1, h2⟩ := bind_some hm
    refine cr_enter Tryz.func262 rfl Tryz.ntmps262 ?_
    refine gk_seq ?_
    refine gk_region ?_
    refine gr_v (ev_mv rfl) ?_
    refine gr_v (ev_mv rfl) ?_
    refine gr_v (ev_neq rfl rfl) ?_
    refine gr_nil ?_
    refine gk_true rfl (hne) ?_
    refine gk_seq ?_
    refine gk_region ?_
    refine gr_v (ev_mv rfl) ?_
    refine gr_v (ev_mv rfl) ?_
    refine gr_call (ec_func Tryz.call74 rfl) (c74 n F w bb _ _ h h1) ?_
    rintro _ w1 ⟨rfl, hB1, hK1⟩
    refine gr_nil ?_
    refine gk_region ?_
    refine gr_v (ev_mv rfl) ?_
    refine gr_v (ev_mv rfl) ?_
    refine gr_call (ec_func Tryz.call310 rfl) (c310 i F w1 bb _ _ hB1 h2) ?_
    rintro _ w2 ⟨rfl, hB2, hK2⟩
    refine gr_nil ?_
    refine gk_end0 Tryz.results262 ?_
    exact ⟨_, rfl, rfl, hB2, hK1.trans hK2⟩

theorem c263 (i : Nat) (n d : Int) : BOp 263 [.int .i64 i, .int .u64 n, .int .u64 d] (slotOp (n != d) (prepend 8 (le8 n)) i) := by
  rintro F w bb S S' h hm
  unfold slotOp at hm
  cases hne : (n != d)
  case false =>
    rw [hne] at hm
    simp only [Bool.false_eq_true, if_false] at hm
    obtain rfl := Option.some.inj hm
    refine cr_enter Tryz.func263 rfl Tryz.ntmps263 ?_
    refine gk_seq ?_
    refine gk_region ?_
    refine gr_v (ev_mv rfl) ?_
    refine gr_v (ev_mv rfl) ?_
    refine gr_v (ev_neq rfl rfl) ?_
    refine gr_nil ?_
    refine gk_false rfl (hne) ?_
    refine gk_skip ?_
    refine gk_end0 Tryz.results263 ?_
    exact ⟨_, rfl, rfl, h, Keep.refl⟩
  case true =>
    rw [hne] at hm
    simp only [if_true] at hm
    obtain ⟨S1, h1, h2⟩ := bind_some hm
    refine cr_enter Tryz.func263 rfl Tryz.ntmps263 ?_
    refine gk_seq ?_
    refine gk_region ?_
    refine gr_v (ev_mv rfl) ?_
    refine gr_v (ev_mv rfl) ?_
    refine gr_v (ev_neq rfl rfl) ?_
    refine gr_nil ?_
    refine gk_true rfl (hne) ?_
    refine gk_seq ?_
    refine gk_region ?_
    refine gr_v (ev_mv rfl) ?_
    refine gr_v (ev_mv rfl) ?_
    refine gr_call (ec_func Tryz.call81 rfl) (c81 n F w bb _ _ h h1) ?_
    rintro _ w1 ⟨rfl, hB1, hK1⟩
    refine gr_nil ?_
    refine gk_region ?_
    refine gr_v (ev_mv rfl) ?_
    refine gr_v (ev_mv rfl) ?_
    refine gr_call (ec_func Tryz.call310 rfl) (c310 i F w1 bb _ _ hB1 h2) ?_
    rintro _ w2 ⟨rfl, hB2, hK2⟩
    refine gr_nil ?_
    refine gk_end0 Tryz.results263 ?_
    exact ⟨_, rfl, rfl, hB2, hK1.trans hK2⟩

theorem c264 (i : Nat) (n d : Nat) : BOp 264 [.int .i64 i, .float .f32 n, .float .f32 d] (slotOp (fne .f32 n d) (prepend 4 (le4 n)) i) := by
  rintro F w bb S S' h hm
  unfold slotOp at hm
  cases hne : (fne .f32 n d)
  case false =>
    rw [hne] at hm
    simp only [Bool.false_eq_true, if_false] at hm
    obtain rfl := Option.some.inj hm
    refine cr_enter Tryz.func264 rfl Tryz.ntmps264 ?_
    refine gk_seq ?_
    refine gk_region ?_
    refine gr_v (ev_mv rfl) ?_
    refine gr_v (ev_mv rfl) ?_
    refine gr_v (ev_fneq rfl rfl) ?_
    refine gr_nil ?_
    refine gk_false rfl (hne) ?_
    refine gk_skip ?_
    refine gk_end0 Tryz.results264 ?_
    exact ⟨_, rfl, rfl, h, Keep.refl⟩
  case true =>
    rw [hne] at hm
    simp only [if_true] at hm
    obtain ⟨S1, h1, h2⟩ := bind_some hm
    refine cr_enter Tryz.func264 rfl Tryz.ntmps264 ?_
    refine gk_seq ?_
    refine gk_region ?_
    refine gr_v (ev_mv rfl) ?_
    refine gr_v (ev_mv rfl) ?_
    refine gr_v (ev_fneq rfl rfl) ?_
    refine gr_nil ?_
    refine gk_true rfl (hne) ?_
    refine gk_seq ?_
    refine gk_region ?_
    refine gr_v (ev_mv rfl) ?_
    refine gr_v (ev_mv rfl) ?_
    refine gr_call (ec_func Tryz.call309 rfl) (c309 n F w bb _ _ h h1) ?_
    rintro _ w1 ⟨rfl, hB1, hK1⟩
    refine gr_nil ?_
    refine gk_region ?_
    refine gr_v (ev_mv rfl) ?_
    refine gr_v (ev_mv rfl) ?_
    refine gr_call (ec_func Tryz.call310 rfl) (c310 i F w1 bb _ _ hB1 h2) ?_
    rintro _ w2 ⟨rfl, hB2, hK2⟩
    refine gr_nil ?_
    refine gk_end0 Tryz.results264 ?_
    exact ⟨_, rfl, rfl, hB2, hK1.trans hK2⟩

theorem c265 (i : Nat) (n d : Int) : BOp 265 [.int .i64 i, .int .i8 n, .int .i8 d] (slotOp (n != d) (prepend 1 [lb n]) i) := by
  rintro F w bb S S' h hm
  unfold slotOp at hm
  cases hne : (n != d)
  case false =>
    rw [hne] at hm
    simp only [Bool.false_eq_true, if_false] at hm
    obtain rfl := Option.some.inj hm
    refine cr_enter Tryz.func265 rfl Tryz.ntmps265 ?_
    refine gk_seq ?_
    refine gk_region ?_
    refine gr_v (ev_mv rfl) ?_
    refine gr_v (ev_mv rfl) ?_
    refine gr_v (ev_neq rfl rfl) ?_
    refine gr_nil ?_
    refine gk_false rfl (hne) ?_
    refine gk_skip ?_
    refine gk_end0 Tryz.results265 ?_
    exact ⟨_, rfl, rfl, h, Keep.refl⟩
  case true =>
    rw [hne] at hm
    simp only [if_true] at hm
    obtain ⟨S1, h1, h2⟩ := bind_some hm
    refine cr_enter Tryz.func265 rfl Tryz.ntmps265 ?_
    refine gk_seq ?_
    refine gk_region ?_
    refine gr_v (ev_mv rfl) ?_
    refine gr_v (ev_mv rfl) ?_
    refine gr_v (ev_neq rfl rfl) ?_
    refine gr_nil ?_
    refine gk_true rfl (hne) ?_
    refine gk_seq ?_
    refine gk_region ?_
    refine gr_v (ev_mv rfl) ?_
    refine gr_v (ev_mv rfl) ?_
    refine gr_call (ec_func Tryz.call301 rfl) (c301 n F w bb _ _ h h1) ?_
    rintro _ w1 ⟨rfl, hB1, hK1⟩
    refine gr_nil ?_
    refine gk_region ?_
    refine gr_v (ev_mv rfl) ?_
    refine gr_v (ev_mv rfl) ?_
    refine gr_call (ec_func Tryz.call310 rfl) (c310 i F w1 bb _ _ hB1 h2) ?_
    rintro _ w2 ⟨rfl, hB2, hK2⟩
    refine gr_nil ?_
    refine gk_end0 Tryz.results265 ?_
    exact ⟨_, rfl, rfl, hB2, hK1.trans hK2⟩

theorem c303 (i : Nat) (n d : Int) : BOp 303 [.int .i64 i, .int .u16 n, .int .u16 d] (slotOp (n != d) (prepend 2 (le2 n)) i) := by
  rintro F w bb S S' h hm
  unfold slotOp at hm
  cases hne : (n != d)
  case false =>
    rw [hne] at hm
    simp only [Bool.false_eq_true, if_false] at hm
    obtain rfl := Option.some.inj hm
    refine cr_enter Tryz.func303 rfl Tryz.ntmps303 ?_
    refine gk_seq ?_
    refine gk_region ?_
    refine gr_v (ev_mv rfl) ?_
    refine gr_v (ev_mv rfl) ?_
    refine gr_v (ev_neq rfl rfl) ?_
    refine gr_nil ?_
    refine gk_false rfl (hne) ?_
    refine gk_skip ?_
    refine gk_end0 Tryz.results303 ?_
    exact ⟨_, rfl, rfl, h, Keep.refl⟩
  case true =>
    rw [hne] at hm
    simp only [if_true] at hm
    obtain ⟨S1, h1, h2⟩ := bind_some hm
    refine cr_enter Tryz.func303 rfl Tryz.ntmps303 ?_
    refine gk_seq ?_
    refine gk_region ?_
    refine gr_v (ev_mv rfl) ?_
    refine gr_v (ev_mv rfl) ?_
    refine gr_v (ev_neq rfl rfl) ?_
    refine gr_nil ?_
    refine gk_true rfl (hne) ?_
    refine gk_seq ?_
    refine gk_region ?_
    refine gr_v (ev_mv rfl) ?_
    refine gr_v (ev_mv rfl) ?_
    refine gr_call (ec_func Tryz.call330 rfl) (c330 n F w bb _ _ h h1) ?_
    rintro _ w1 ⟨rfl, hB1, hK1⟩
    refine gr_nil ?_
    refine gk_region ?_
    refine gr_v (ev_mv rfl) ?_
    refine gr_v (ev_mv rfl) ?_
    refine gr_call (ec_func Tryz.call310 rfl) (c310 i F w1 bb _ _ hB1 h2) ?_
    rintro _ w2 ⟨rfl, hB2, hK2⟩
    refine gr_nil ?_
    refine gk_end0 Tryz.results303 ?_
    exact ⟨_, rfl, rfl, hB2, hK1.trans hK2⟩

end Go.Proofs.YtjaplgfgkigmiaaGreat