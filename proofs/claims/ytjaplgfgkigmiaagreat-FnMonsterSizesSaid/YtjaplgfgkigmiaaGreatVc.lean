/-
  Vectors and strings.
-/
import Derived.Test.YtjaplgfgkigmiaaGreatMd
import Derived.Test.YtjaplgfgkigmiaaGreatOpt
namespace Go.Proofs.YtjaplgfgkigmiaaGreat
open Go Go.Proofs

theorem map_some' {α β : Type} {x : Option α} {f : α → β} {b : β} (h : x.map f = some b) : ∃ a, x = some a ∧ f a = b := Option.map_eq_some_iff.1 h
theorem prep_bd {s a : Nat} {S S1 : St} (h1 : prep s a S = some S1) : s + a ≤ 268435456 := by
  unfold prep at h1
  by_cases hc : (okSize s && decide (S.buf.length + padOf s (S.buf.length + a) + s + a ≤ 268435456)) = true
  · simp only [Bool.and_eq_true, decide_eq_true_eq] at hc; omega
  · simp only [hc] at h1; exact absurd h1 (by simp)
theorem place_some {bs : List UInt8} {S S1 : St} (h : place bs S = some S1) : bs.length ≤ S.room ∧ S1 = { S with buf := bs ++ S.buf, room := S.room - bs.length } := by
  unfold place at h
  by_cases hc : bs.length ≤ S.room
  · rw [if_pos hc] at h; exact ⟨hc, (Option.some.inj h).symm⟩
  · rw [if_neg hc] at h; exact absurd h (by simp)
def startVectorV (es n al : Nat) (S : St) : Option (Nat × St) := (startVector es n al S).map fun S => (S.buf.length, S)

theorem c235 (es n al : Nat) : BVal 235 [.int .i64 es, .int .i64 n, .int .i64 al] (startVectorV es n al) := by
  rintro F w bb S r S' ⟨g, h⟩ hm
  obtain ⟨S2, hm2, hr⟩ := map_some' hm
  clear hm
  obtain ⟨rfl, rfl⟩ := Prod.mk.injEq .. ▸ hr
  unfold startVector at hm2
  cases hn : S.nested
  case true => rw [hn] at hm2; exact absurd hm2 (by simp)
  rw [hn] at hm2
  simp only [Bool.false_eq_true, if_false] at hm2
  obtain ⟨S1, h1, h2⟩ := bind_some hm2
  have hbd := prep_bd h1
  have hb := h.hb
  refine cr_enter Tryz.func235 rfl Tryz.ntmps235 ?_
  refine gk_seq ?_
  refine gk_region ?_
  refine gr_v (ev_as rfl) ?_
  refine gr_nil ?_
  refine gk_seq ?_
  refine gk_region ?_
  refine gr_v (ev_mv rfl) ?_
  refine gr_call (ec_func Tryz.call44 rfl) (c44 h hn) ?_
  rintro _ _ ⟨rfl, rfl⟩
  refine gr_nil ?_
  refine gk_seq ?_
  refine gk_region ?_
  refine gr_v (ev_mv rfl) ?_
  refine gr_v (ev_nil rfl) ?_
  refine gr_v (ev_fa (j := 6) rfl Tryz.runUnderlying110 rfl Tryz.sizeOf4 rfl rfl) ?_
  refine gr_st rfl rfl (by rfl) Tryz.sizeOf4 (by first | exact hb) (by rfl) (by rfl) ?_
  intro w1 hw1 hbn
  have hb1 := hbn; clear hbn
  have hN := h.upd { S with nested := true } rfl rfl rfl rfl rfl hw1
  refine gr_nil ?_
  refine gk_seq ?_
  refine gk_region ?_
  refine gr_v (ev_mv rfl) ?_
  refine gr_v (ev_mv rfl) ?_
  refine gr_v (ev_mv rfl) ?_
  refine gr_v (ev_mul (r := ((es * n : Nat) : Int)) rfl rfl (by rw [← Int.natCast_mul]; exact w_i64 (by omega) (by omega))) ?_
  refine gr_call (ec_func Tryz.call45 rfl) (c45 4 (es * n) F w1 bb _ _ ⟨g, hN.1⟩ h1) ?_
  rintro _ w2 ⟨rfl, hB2, hK2⟩
  refine gr_nil ?_
  refine gk_seq ?_
  refine gk_region ?_
  refine gr_v (ev_mv rfl) ?_
  refine gr_v (ev_mv rfl) ?_
  refine gr_v (ev_mv rfl) ?_
  refine gr_v (ev_mv rfl) ?_
  refine gr_v (ev_mul (r := ((es * n : Nat) : Int)) rfl rfl (by rw [← Int.natCast_mul]; exact w_i64 (by omega) (by omega))) ?_
  refine gr_call (ec_func Tryz.call45 rfl) (c45 al (es * n) F w2 bb _ _ hB2 h2) ?_
  rintro _ w3 ⟨rfl, hB3, hK3⟩
  refine gr_nil ?_
  refine gk_seq ?_
  refine gk_region ?_
  refine gr_v (ev_mv rfl) ?_
  refine gr_call (ec_func Tryz.call230 rfl) (hB3.offset) ?_
  rintro _ w4 ⟨rfl, hB4, hK4⟩
  refine gr_v (ev_as rfl) ?_
  refine gr_nil ?_
  refine gk_ret1 Tryz.results235 rfl ?_
  exact ⟨_, rfl, rfl, hB4, ((hN.2.trans hK2).trans hK3).trans hK4⟩

theorem c63 (n : Nat) : BVal 63 [.int .i64 n] (endVector n) := by
  rintro F w bb S r S' ⟨g, h⟩ hm
  unfold endVector at hm
  by_cases hc : (S.nested && decide (n ≤ 268435456)) = true
  case neg => simp only [hc] at hm; exact absurd hm (by simp)
  simp only [hc, if_true] at hm
  simp only [Bool.and_eq_true, decide_eq_true_eq] at hc
  obtain ⟨S1, h1, hr⟩ := map_some' hm
  obtain ⟨rfl, rfl⟩ := Prod.mk.injEq .. ▸ hr
  refine cr_enter Tryz.func63 rfl Tryz.ntmps63 ?_
  refine gk_seq ?_
  refine gk_region ?_
  refine gr_v (ev_as rfl) ?_
  refine gr_nil ?_
  refine gk_seq ?_
  refine gk_region ?_
  refine gr_v (ev_mv rfl) ?_
  refine gr_call (ec_func Tryz.call237 rfl) (c237 h hc.1) ?_
  rintro _ _ ⟨rfl, rfl⟩
  refine gr_nil ?_
  refine gk_seq ?_
  refine gk_region ?_
  refine gr_v (ev_mv rfl) ?_
  refine gr_v (ev_mv rfl) ?_
  refine gr_v (ev_cv rfl ⟨_, Tryz.runUnderlying3⟩ Tryz.runUnderlying65 (w_u32 (by omega) (by omega))) ?_
  refine gr_call (ec_func Tryz.call231 rfl) (c231 n F w bb _ _ ⟨g, h⟩ h1) ?_
  rintro _ w0 ⟨rfl, ⟨g1, hB1⟩, hK1⟩
  have hb := hB1.hb
  refine gr_nil ?_
  refine gk_seq ?_
  refine gk_region ?_
  refine gr_v (ev_mv rfl) ?_
  refine gr_v (ev_nil rfl) ?_
  refine gr_v (ev_fa (j := 6) rfl Tryz.runUnderlying110 rfl Tryz.sizeOf4 rfl rfl) ?_
  refine gr_st rfl rfl (by rfl) Tryz.sizeOf4 (by first | exact hb) (by rfl) (by rfl) ?_
  intro w1 hw1 hbn
  have hb1 := hbn; clear hbn
  have hN := hB1.upd { S1 with nested := false } rfl rfl rfl rfl rfl hw1
  refine gr_nil ?_
  refine gk_seq ?_
  refine gk_region ?_
  refine gr_v (ev_mv rfl) ?_
  refine gr_call (ec_func Tryz.call230 rfl) (Bld.offset ⟨g1, hN.1⟩) ?_
  rintro _ w4 ⟨rfl, hB4, hK4⟩
  refine gr_v (ev_as rfl) ?_
  refine gr_nil ?_
  refine gk_ret1 Tryz.results63 rfl ?_
  exact ⟨_, rfl, rfl, hB4, (hK1.trans hN.2).trans hK4⟩

theorem c58 (s : ByteArray) : BVal 58 [.string s] (createString s.data.toList) := by
  rintro F w bb S r S' ⟨g, h⟩ hm
  have hsl : s.data.toList.length = s.size := rfl
  generalize hbs : s.data.toList = bs at *
  unfold createString at hm
  cases hn : S.nested
  case true => rw [hn] at hm; exact absurd hm (by simp)
  rw [hn] at hm
  simp only [Bool.false_eq_true, if_false] at hm
  obtain ⟨S1, h1, hm⟩ := bind_some hm
  obtain ⟨S2, h2, hm⟩ := bind_some hm
  obtain ⟨S3, h3, h4⟩ := bind_some hm
  have hbd := prep_bd h1
  have hp2 := (place_some h2).2
  have hp3 := place_some h3
  have hb := h.hb
  rw [hsl] at h1 hbd
  refine cr_enter Tryz.func58 rfl Tryz.ntmps58 ?_
  refine gk_seq ?_
  refine gk_region ?_
  refine gr_v (ev_as rfl) ?_
  refine gr_nil ?_
  refine gk_seq ?_
  refine gk_region ?_
  refine gr_v (ev_mv rfl) ?_
  refine gr_call (ec_func Tryz.call44 rfl) (c44 h hn) ?_
  rintro _ _ ⟨rfl, rfl⟩
  refine gr_nil ?_
  refine gk_seq ?_
  refine gk_region ?_
  refine gr_v (ev_mv rfl) ?_
  refine gr_v (ev_nil rfl) ?_
  refine gr_v (ev_fa (j := 6) rfl Tryz.runUnderlying110 rfl Tryz.sizeOf4 rfl rfl) ?_
  refine gr_st rfl rfl (by rfl) Tryz.sizeOf4 (by first | exact hb) (by rfl) (by rfl) ?_
  intro w1 hw1 hb1n
  have hb1 := hb1n; clear hb1n
  have hN := h.upd { S with nested := true } rfl rfl rfl rfl rfl hw1
  refine gr_nil ?_
  refine gk_seq ?_
  refine gk_region ?_
  refine gr_v (ev_mv rfl) ?_
  refine gr_v (ev_mv rfl) ?_
  refine gr_v (ev_lens rfl ⟨_, rfl, Tryz.runUnderlying9⟩) ?_
  refine gr_v (ev_add rfl rfl (w_i64 (by omega) (by omega))) ?_
  refine gr_v (ev_mul (r := ((s.size + 1 : Nat) : Int)) rfl rfl (by rw [show (((s.size : Nat) : Int) + 1) * 1 = ((s.size + 1 : Nat) : Int) by omega]; exact w_i64 (by omega) (by omega))) ?_
  refine gr_call (ec_func Tryz.call45 rfl) (c45 4 (s.size + 1) F w1 bb _ _ ⟨g, hN.1⟩ h1) ?_
  rintro _ w2 ⟨rfl, hB2, hK2⟩
  refine gr_nil ?_
  refine gk_seq ?_
  refine gk_region ?_
  refine gr_v (ev_mv rfl) ?_
  refine gr_call (ec_func Tryz.call232 rfl) (c232 0 F w2 bb _ _ hB2 h2) ?_
  rintro _ w3 ⟨rfl, ⟨g4, hB4⟩, hK3⟩
  have hb3 := hB4.hb
  have hk3 := hB4.hk
  have hsm := hB4.small
  have e1 : g4.len S2 = g4.junk.length + S2.buf.length := rfl
  have e2 : g4.cap S2 = g4.junk.length + S2.buf.length + g4.extra.length := rfl
  have hbl : S2.buf.length = S1.buf.length + 1 := by rw [hp2]; simp
  have hrm := hB4.room
  have hrm2 := hp3.1
  clear hb1
  refine gr_nil ?_
  refine gk_seq ?_
  refine gk_region ?_
  refine gr_v (ev_mv rfl) ?_
  refine gr_v (ev_lens rfl ⟨_, rfl, Tryz.runUnderlying9⟩) ?_
  refine gr_v (ev_cv rfl ⟨_, Tryz.runUnderlying3⟩ Tryz.runUnderlying65 (w_u32 (by omega) (by omega))) ?_
  refine gr_v (ev_as rfl) ?_
  refine gr_nil ?_
  refine gk_seq ?_
  refine gk_region ?_
  refine gr_v (ev_mv rfl) ?_
  refine gr_v (ev_nil rfl) ?_
  refine gr_v (ev_fa (j := 5) rfl Tryz.runUnderlying110 rfl Tryz.sizeOf65 rfl rfl) ?_
  refine gr_v (ev_ld rfl Tryz.isAgg65 (by first | exact hb3) (by rfl)) ?_
  refine gr_v (ev_mv rfl) ?_
  refine gr_v (ev_sub rfl rfl (w_u32 (by omega) (by omega))) ?_
  refine gr_v (ev_nil rfl) ?_
  refine gr_v (ev_fa (j := 5) rfl Tryz.runUnderlying110 rfl Tryz.sizeOf65 rfl rfl) ?_
  refine gr_st rfl rfl (by rfl) Tryz.sizeOf65 (by first | exact hb3) (by rfl) (by rfl) ?_
  intro w4 hw2 hb3n
  have hk4 := sb_at hw2 hB4.bk hk3
  refine gr_nil ?_
  refine gk_seq ?_
  refine gk_draw (fun w' => w'.heap[bb]? = some (.cells ((g4.cells S2).setIfInBounds 5 (.int .u32 (↑g4.junk.length - ↑s.size))) 110 (0, 0))) (by kernel_rfl) ?_
  have hS := hb3n
  refine ga_take 0 rfl (by kernel_rfl) (fun _ _ => (ev_mv rfl)) hS ?_
  refine ga_take 1 rfl (by kernel_rfl) (fun _ _ => (ev_nil rfl)) hS ?_
  refine ga_take 2 rfl (by kernel_rfl) (fun _ _ => (ev_fa (j := 0) rfl Tryz.runUnderlying110 rfl Tryz.sizeOf69 rfl rfl)) hS ?_
  refine ga_take 3 rfl (by kernel_rfl) (fun _ hs => (ev_ld rfl Tryz.isAgg69 (by first | exact hs | exact hs.1 | exact hs.2 | exact hs.2.1 | exact hs.2.2) (by rfl))) hS ?_
  refine ga_take 4 rfl (by kernel_rfl) (fun _ _ => (ev_mv rfl)) hS ?_
  refine ga_take 5 rfl (by kernel_rfl) (fun _ _ => (ev_nil rfl)) hS ?_
  refine ga_take 6 rfl (by kernel_rfl) (fun _ _ => (ev_fa (j := 5) rfl Tryz.runUnderlying110 rfl Tryz.sizeOf65 rfl rfl)) hS ?_
  refine ga_take 7 rfl (by kernel_rfl) (fun _ hs => (ev_ld rfl Tryz.isAgg65 (by first | exact hs | exact hs.1 | exact hs.2 | exact hs.2.1 | exact hs.2.2) (by rfl))) hS ?_
  refine ga_take 8 rfl (by kernel_rfl) (fun _ _ => (ev_mv rfl)) hS ?_
  refine ga_take 9 rfl (by kernel_rfl) (fun _ _ => (ev_nil rfl)) hS ?_
  refine ga_take 10 rfl (by kernel_rfl) (fun _ _ => (ev_fa (j := 5) rfl Tryz.runUnderlying110 rfl Tryz.sizeOf65 rfl rfl)) hS ?_
  refine ga_take 11 rfl (by kernel_rfl) (fun _ hs => (ev_ld rfl Tryz.isAgg65 (by first | exact hs | exact hs.1 | exact hs.2 | exact hs.2.1 | exact hs.2.2) (by rfl))) hS ?_
  refine ga_take 12 rfl (by kernel_rfl) (fun _ _ => (ev_mv rfl)) hS ?_
  refine ga_take 13 rfl (by kernel_rfl) (fun _ _ => (ev_add rfl rfl (w_u32 (by omega) (by omega)))) hS ?_
  refine ga_take 14 rfl (by kernel_rfl) (fun _ _ => (ev_slh (a' := g4.junk.length - s.size) rfl rfl rfl Tryz.runUnderlying69 Tryz.sizeOf5 (by omega) (by omega) (by omega) (by omega) (by omega))) hS ?_
  refine ga_take 15 rfl (by kernel_rfl) (fun _ _ => (ev_mv rfl)) hS ?_
  refine ga_v 16 rfl (by kernel_rfl) (ev_copys (k := s.size) (cs' := row (sets (g4.junk ++ S2.buf ++ g4.extra) (g4.junk.length - s.size) bs)) rfl rfl rfl Tryz.runUnderlying69 Tryz.sizeOf5 (dr_heap hk4) rfl (by omega) (by rw [row_size]; simp; omega) (by rw [← hbs]; exact setMany_row _ _ _)) (sb_ne hB4.bk.symm hS) ?_
  refine ga_nil (by kernel_rfl) ?_
  have hPl := hB4.place (bs := bs) (m := ↑g4.junk.length - ↑s.size) hp3.1 (by omega) (w1 := w4) (w2 := _) (by rw [hw2]) rfl
  rw [← hp3.2] at hPl
  have h4b := h4; rw [hsl] at h4b hPl
  generalize hw5 : (w4.drew.setB g4.kb _) = w5 at *
  refine gk_seq ?_
  refine gk_region ?_
  refine gr_v (ev_mv rfl) ?_
  refine gr_v (ev_mv rfl) ?_
  refine gr_v (ev_lens rfl ⟨_, rfl, Tryz.runUnderlying9⟩) ?_
  refine gr_call (ec_func Tryz.call63 rfl) (c63 s.size F w5 bb _ _ _ hPl.1 h4b) ?_
  rintro _ w6 ⟨rfl, hB6, hK6⟩
  refine gr_v (ev_as rfl) ?_
  refine gr_nil ?_
  refine gk_ret1 Tryz.results58 rfl ?_
  exact ⟨_, rfl, rfl, hB6, (((hN.2.trans hK2).trans hK3).trans hPl.2).trans hK6⟩

theorem c59 {F : Nat → Prop} {w : World} {bb : Nat} {S S' : St} {r ib io c : Nat} {cs : Array Value} {e : TypeId} {fz : Nat × Nat} (bs : List UInt8) (h0 : Bld F w bb S) (hF : F ib) (hib : w.heap[ib]? = some (.cells cs e fz))
    (hx : (cs.extract io (io + bs.length)).toList = bs.map B) (hl : io + bs.length ≤ cs.size) (hm : createString bs S = some (r, S')) :
    CR Tryz.prog 59 #[ptr bb, .slice (some ⟨ib, io, none⟩) bs.length c] w (fun v w' => v = U r ∧ Bld F w' bb S' ∧ Keep F w w') := by
  obtain ⟨g, h⟩ := h0
  unfold createString at hm
  cases hn : S.nested
  case true => rw [hn] at hm; exact absurd hm (by simp)
  rw [hn] at hm
  simp only [Bool.false_eq_true, if_false] at hm
  obtain ⟨S1, h1, hm⟩ := bind_some hm
  obtain ⟨S2, h2, hm⟩ := bind_some hm
  obtain ⟨S3, h3, h4⟩ := bind_some hm
  have hbd := prep_bd h1
  have hp2 := (place_some h2).2
  have hp3 := place_some h3
  have hb := h.hb
  refine cr_enter Tryz.func59 rfl Tryz.ntmps59 ?_
  refine gk_seq ?_
  refine gk_region ?_
  refine gr_v (ev_as rfl) ?_
  refine gr_nil ?_
  refine gk_seq ?_
  refine gk_region ?_
  refine gr_v (ev_mv rfl) ?_
  refine gr_call (ec_func Tryz.call44 rfl) (c44 h hn) ?_
  rintro _ _ ⟨rfl, rfl⟩
  refine gr_nil ?_
  refine gk_seq ?_
  refine gk_region ?_
  refine gr_v (ev_mv rfl) ?_
  refine gr_v (ev_nil rfl) ?_
  refine gr_v (ev_fa (j := 6) rfl Tryz.runUnderlying110 rfl Tryz.sizeOf4 rfl rfl) ?_
  refine gr_st rfl rfl (by rfl) Tryz.sizeOf4 (by first | exact hb) (by rfl) (by rfl) ?_
  intro w1 hw1 hb1n
  have hb1 := hb1n; clear hb1n
  have hN := h.upd { S with nested := true } rfl rfl rfl rfl rfl hw1
  refine gr_nil ?_
  refine gk_seq ?_
  refine gk_region ?_
  refine gr_v (ev_mv rfl) ?_
  refine gr_v (ev_mv rfl) ?_
  refine gr_v (ev_len rfl ⟨_, rfl, _, Tryz.runUnderlying69⟩) ?_
  refine gr_v (ev_add rfl rfl (w_i64 (by omega) (by omega))) ?_
  refine gr_v (ev_mul (r := ((bs.length + 1 : Nat) : Int)) rfl rfl (by rw [show (((bs.length : Nat) : Int) + 1) * 1 = ((bs.length + 1 : Nat) : Int) by omega]; exact w_i64 (by omega) (by omega))) ?_
  refine gr_call (ec_func Tryz.call45 rfl) (c45 4 (bs.length + 1) F w1 bb _ _ ⟨g, hN.1⟩ h1) ?_
  rintro _ w2 ⟨rfl, hB2, hK2⟩
  refine gr_nil ?_
  refine gk_seq ?_
  refine gk_region ?_
  refine gr_v (ev_mv rfl) ?_
  refine gr_call (ec_func Tryz.call232 rfl) (c232 0 F w2 bb _ _ hB2 h2) ?_
  rintro _ w3 ⟨rfl, ⟨g4, hB4⟩, hK3⟩
  have hb3 := hB4.hb
  have hk3 := hB4.hk
  have hsm := hB4.small
  have e1 : g4.len S2 = g4.junk.length + S2.buf.length := rfl
  have e2 : g4.cap S2 = g4.junk.length + S2.buf.length + g4.extra.length := rfl
  have hbl : S2.buf.length = S1.buf.length + 1 := by rw [hp2]; simp
  have hrm := hB4.room
  have hrm2 := hp3.1
  clear hb1
  refine gr_nil ?_
  refine gk_seq ?_
  refine gk_region ?_
  refine gr_v (ev_mv rfl) ?_
  refine gr_v (ev_len rfl ⟨_, rfl, _, Tryz.runUnderlying69⟩) ?_
  refine gr_v (ev_cv rfl ⟨_, Tryz.runUnderlying3⟩ Tryz.runUnderlying65 (w_u32 (by omega) (by omega))) ?_
  refine gr_v (ev_as rfl) ?_
  refine gr_nil ?_
  refine gk_seq ?_
  refine gk_region ?_
  refine gr_v (ev_mv rfl) ?_
  refine gr_v (ev_nil rfl) ?_
  refine gr_v (ev_fa (j := 5) rfl Tryz.runUnderlying110 rfl Tryz.sizeOf65 rfl rfl) ?_
  refine gr_v (ev_ld rfl Tryz.isAgg65 (by first | exact hb3) (by rfl)) ?_
  refine gr_v (ev_mv rfl) ?_
  refine gr_v (ev_sub rfl rfl (w_u32 (by omega) (by omega))) ?_
  refine gr_v (ev_nil rfl) ?_
  refine gr_v (ev_fa (j := 5) rfl Tryz.runUnderlying110 rfl Tryz.sizeOf65 rfl rfl) ?_
  refine gr_st rfl rfl (by rfl) Tryz.sizeOf65 (by first | exact hb3) (by rfl) (by rfl) ?_
  intro w4 hw2 hb3n
  have hk4 := sb_at hw2 hB4.bk hk3
  refine gr_nil ?_
  refine gk_seq ?_
  refine gk_draw (fun w' => w'.heap[bb]? = some (.cells ((g4.cells S2).setIfInBounds 5 (.int .u32 (↑g4.junk.length - ↑bs.length))) 110 (0, 0))) (by kernel_rfl) ?_
  have hS := hb3n
  refine ga_take 0 rfl (by kernel_rfl) (fun _ _ => (ev_mv rfl)) hS ?_
  refine ga_take 1 rfl (by kernel_rfl) (fun _ _ => (ev_nil rfl)) hS ?_
  refine ga_take 2 rfl (by kernel_rfl) (fun _ _ => (ev_fa (j := 0) rfl Tryz.runUnderlying110 rfl Tryz.sizeOf69 rfl rfl)) hS ?_
  refine ga_take 3 rfl (by kernel_rfl) (fun _ hs => (ev_ld rfl Tryz.isAgg69 (by first | exact hs | exact hs.1 | exact hs.2 | exact hs.2.1 | exact hs.2.2) (by rfl))) hS ?_
  refine ga_take 4 rfl (by kernel_rfl) (fun _ _ => (ev_mv rfl)) hS ?_
  refine ga_take 5 rfl (by kernel_rfl) (fun _ _ => (ev_nil rfl)) hS ?_
  refine ga_take 6 rfl (by kernel_rfl) (fun _ _ => (ev_fa (j := 5) rfl Tryz.runUnderlying110 rfl Tryz.sizeOf65 rfl rfl)) hS ?_
  refine ga_take 7 rfl (by kernel_rfl) (fun _ hs => (ev_ld rfl Tryz.isAgg65 (by first | exact hs | exact hs.1 | exact hs.2 | exact hs.2.1 | exact hs.2.2) (by rfl))) hS ?_
  refine ga_take 8 rfl (by kernel_rfl) (fun _ _ => (ev_mv rfl)) hS ?_
  refine ga_take 9 rfl (by kernel_rfl) (fun _ _ => (ev_nil rfl)) hS ?_
  refine ga_take 10 rfl (by kernel_rfl) (fun _ _ => (ev_fa (j := 5) rfl Tryz.runUnderlying110 rfl Tryz.sizeOf65 rfl rfl)) hS ?_
  refine ga_take 11 rfl (by kernel_rfl) (fun _ hs => (ev_ld rfl Tryz.isAgg65 (by first | exact hs | exact hs.1 | exact hs.2 | exact hs.2.1 | exact hs.2.2) (by rfl))) hS ?_
  refine ga_take 12 rfl (by kernel_rfl) (fun _ _ => (ev_mv rfl)) hS ?_
  refine ga_take 13 rfl (by kernel_rfl) (fun _ _ => (ev_add rfl rfl (w_u32 (by omega) (by omega)))) hS ?_
  refine ga_take 14 rfl (by kernel_rfl) (fun _ _ => (ev_slh (a' := g4.junk.length - bs.length) rfl rfl rfl Tryz.runUnderlying69 Tryz.sizeOf5 (by omega) (by omega) (by omega) (by omega) (by omega))) hS ?_
  refine ga_take 15 rfl (by kernel_rfl) (fun _ _ => (ev_mv rfl)) hS ?_
  have hib4 := ((((hN.2.trans hK2).trans hK3).trans (Keep.of_eq hw2 hB4.fb)).1 ib hF).trans hib
  refine ga_v 16 rfl (by kernel_rfl) (ev_copy (k := bs.length) (cs' := row (sets (g4.junk ++ S2.buf ++ g4.extra) (g4.junk.length - bs.length) bs)) rfl rfl rfl Tryz.runUnderlying69 Tryz.sizeOf5 (dr_heap hk4) (dr_heap hib4) (Nat.min_eq_left (by omega)) (by rw [row_size]; simp; omega) hl (by rw [hx]; intro v hv; obtain ⟨u, _, rfl⟩ := List.mem_map.1 hv; rfl) (by rw [hx]; exact setMany_row _ _ _)) (sb_ne hB4.bk.symm hS) ?_
  refine ga_nil (by kernel_rfl) ?_
  have hPl := hB4.place (bs := bs) (m := ↑g4.junk.length - ↑bs.length) hp3.1 (by omega) (w1 := w4) (w2 := _) (by rw [hw2]) rfl
  rw [← hp3.2] at hPl
  have h4b := h4
  generalize hw5 : (w4.drew.setB g4.kb _) = w5 at *
  refine gk_seq ?_
  refine gk_region ?_
  refine gr_v (ev_mv rfl) ?_
  refine gr_v (ev_mv rfl) ?_
  refine gr_v (ev_len rfl ⟨_, rfl, _, Tryz.runUnderlying69⟩) ?_
  refine gr_call (ec_func Tryz.call63 rfl) (c63 bs.length F w5 bb _ _ _ hPl.1 h4b) ?_
  rintro _ w6 ⟨rfl, hB6, hK6⟩
  refine gr_v (ev_as rfl) ?_
  refine gr_nil ?_
  refine gk_ret1 Tryz.results59 rfl ?_
  exact ⟨_, rfl, rfl, hB6, (((hN.2.trans hK2).trans hK3).trans hPl.2).trans hK6⟩

end Go.Proofs.YtjaplgfgkigmiaaGreat