/-
  Reading: numbers out of bytes, a table's methods, at the bytes of one packed monster.
-/
import Derived.Test.YtjaplgfgkigmiaaGreatMc
namespace Go.Proofs.YtjaplgfgkigmiaaGreat
open Go Go.Proofs

theorem row_getD {l : List UInt8} {i : Nat} (h : i < l.length) : (row l)[i]? = some (B (l[i]?.getD 0)) := by
  rw [row_at h, List.getElem?_eq_getElem h]; rfl
def orI (kd : IntKind) (m n : Int) : Int := kd.wrap ((BitVec.ofInt kd.bits m ||| BitVec.ofInt kd.bits n).toNat : Int)
def shI (kd : IntKind) (m c : Int) : Int := kd.wrap (m * 2 ^ c.toNat)
def cvI (kd : IntKind) (b : UInt8) : Int := kd.wrap (b.toNat : Int)
def byt (l : List UInt8) (o : Nat) : UInt8 := l[o]?.getD 0
def num2 (kd : IntKind) (l : List UInt8) (o : Nat) : Int := orI kd (orI kd 0 (cvI kd (byt l (o + 0)))) (shI kd (cvI kd (byt l (o + 1))) 8)
def num4 (kd : IntKind) (l : List UInt8) (o : Nat) : Int := orI kd (orI kd (orI kd (orI kd 0 (cvI kd (byt l (o + 0)))) (shI kd (cvI kd (byt l (o + 1))) 8)) (shI kd (cvI kd (byt l (o + 2))) 16)) (shI kd (cvI kd (byt l (o + 3))) 24)

theorem n293 {w : World} {b o len cap : Nat} {ls : List UInt8} (hk : w.heap[b]? = some (.cells (row ls) 5 (0, 0))) (hl : 4 ≤ len) (ho : o + 4 ≤ ls.length) : CR Tryz.prog 293 #[.slice (some ⟨b, o, none⟩) len cap] w (fun v w' => v = .int .i32 (num4 .i32 ls o) ∧ w = w') := by
  refine cr_enter Tryz.func293 rfl Tryz.ntmps293 ?_
  refine gk_seq ?_
  refine gk_region ?_
  refine gr_v (ev_as rfl) ?_
  refine gr_nil ?_
  refine gk_seq ?_
  refine gk_region ?_
  refine gr_v (ev_mv rfl) ?_
  refine gr_v (ev_ix (a' := o + 3) rfl rfl Tryz.runUnderlying69 Tryz.sizeOf5 (by omega) (by omega) (by omega)) ?_
  refine gr_v (ev_ld rfl Tryz.isAgg5 hk (row_getD (by omega))) ?_
  refine gr_nil ?_
  refine gk_seq ?_
  refine gk_region ?_
  refine gr_v (ev_mv rfl) ?_
  refine gr_v (ev_mv rfl) ?_
  refine gr_v (ev_ix (a' := o + 0) rfl rfl Tryz.runUnderlying69 Tryz.sizeOf5 (by omega) (by omega) (by omega)) ?_
  refine gr_v (ev_ld rfl Tryz.isAgg5 hk (row_getD (by omega))) ?_
  refine gr_v (ev_cv rfl ⟨_, Tryz.runUnderlying5⟩ Tryz.runUnderlying21 rfl) ?_
  refine gr_v (ev_or rfl rfl rfl) ?_
  refine gr_v (ev_as rfl) ?_
  refine gr_nil ?_
  refine gk_seq ?_
  refine gk_region ?_
  refine gr_v (ev_mv rfl) ?_
  refine gr_v (ev_mv rfl) ?_
  refine gr_v (ev_ix (a' := o + 1) rfl rfl Tryz.runUnderlying69 Tryz.sizeOf5 (by omega) (by omega) (by omega)) ?_
  refine gr_v (ev_ld rfl Tryz.isAgg5 hk (row_getD (by omega))) ?_
  refine gr_v (ev_cv rfl ⟨_, Tryz.runUnderlying5⟩ Tryz.runUnderlying21 rfl) ?_
  refine gr_v (ev_shl8 rfl rfl rfl rfl rfl) ?_
  refine gr_v (ev_or rfl rfl rfl) ?_
  refine gr_v (ev_as rfl) ?_
  refine gr_nil ?_
  refine gk_seq ?_
  refine gk_region ?_
  refine gr_v (ev_mv rfl) ?_
  refine gr_v (ev_mv rfl) ?_
  refine gr_v (ev_ix (a' := o + 2) rfl rfl Tryz.runUnderlying69 Tryz.sizeOf5 (by omega) (by omega) (by omega)) ?_
  refine gr_v (ev_ld rfl Tryz.isAgg5 hk (row_getD (by omega))) ?_
  refine gr_v (ev_cv rfl ⟨_, Tryz.runUnderlying5⟩ Tryz.runUnderlying21 rfl) ?_
  refine gr_v (ev_shl8 rfl rfl rfl rfl rfl) ?_
  refine gr_v (ev_or rfl rfl rfl) ?_
  refine gr_v (ev_as rfl) ?_
  refine gr_nil ?_
  refine gk_seq ?_
  refine gk_region ?_
  refine gr_v (ev_mv rfl) ?_
  refine gr_v (ev_mv rfl) ?_
  refine gr_v (ev_ix (a' := o + 3) rfl rfl Tryz.runUnderlying69 Tryz.sizeOf5 (by omega) (by omega) (by omega)) ?_
  refine gr_v (ev_ld rfl Tryz.isAgg5 hk (row_getD (by omega))) ?_
  refine gr_v (ev_cv rfl ⟨_, Tryz.runUnderlying5⟩ Tryz.runUnderlying21 rfl) ?_
  refine gr_v (ev_shl8 rfl rfl rfl rfl rfl) ?_
  refine gr_v (ev_or rfl rfl rfl) ?_
  refine gr_v (ev_as rfl) ?_
  refine gr_nil ?_
  refine gk_ret1 Tryz.results293 rfl ?_
  exact ⟨_, rfl, rfl, rfl⟩

theorem n318 {w : World} {b o len cap : Nat} {ls : List UInt8} (hk : w.heap[b]? = some (.cells (row ls) 5 (0, 0))) (hl : 4 ≤ len) (ho : o + 4 ≤ ls.length) : CR Tryz.prog 318 #[.slice (some ⟨b, o, none⟩) len cap] w (fun v w' => v = .int .u32 (num4 .u32 ls o) ∧ w = w') := by
  refine cr_enter Tryz.func318 rfl Tryz.ntmps318 ?_
  refine gk_seq ?_
  refine gk_region ?_
  refine gr_v (ev_as rfl) ?_
  refine gr_nil ?_
  refine gk_seq ?_
  refine gk_region ?_
  refine gr_v (ev_mv rfl) ?_
  refine gr_v (ev_ix (a' := o + 3) rfl rfl Tryz.runUnderlying69 Tryz.sizeOf5 (by omega) (by omega) (by omega)) ?_
  refine gr_v (ev_ld rfl Tryz.isAgg5 hk (row_getD (by omega))) ?_
  refine gr_nil ?_
  refine gk_seq ?_
  refine gk_region ?_
  refine gr_v (ev_mv rfl) ?_
  refine gr_v (ev_mv rfl) ?_
  refine gr_v (ev_ix (a' := o + 0) rfl rfl Tryz.runUnderlying69 Tryz.sizeOf5 (by omega) (by omega) (by omega)) ?_
  refine gr_v (ev_ld rfl Tryz.isAgg5 hk (row_getD (by omega))) ?_
  refine gr_v (ev_cv rfl ⟨_, Tryz.runUnderlying5⟩ Tryz.runUnderlying30 rfl) ?_
  refine gr_v (ev_or rfl rfl rfl) ?_
  refine gr_v (ev_as rfl) ?_
  refine gr_nil ?_
  refine gk_seq ?_
  refine gk_region ?_
  refine gr_v (ev_mv rfl) ?_
  refine gr_v (ev_mv rfl) ?_
  refine gr_v (ev_ix (a' := o + 1) rfl rfl Tryz.runUnderlying69 Tryz.sizeOf5 (by omega) (by omega) (by omega)) ?_
  refine gr_v (ev_ld rfl Tryz.isAgg5 hk (row_getD (by omega))) ?_
  refine gr_v (ev_cv rfl ⟨_, Tryz.runUnderlying5⟩ Tryz.runUnderlying30 rfl) ?_
  refine gr_v (ev_shl8 rfl rfl rfl rfl rfl) ?_
  refine gr_v (ev_or rfl rfl rfl) ?_
  refine gr_v (ev_as rfl) ?_
  refine gr_nil ?_
  refine gk_seq ?_
  refine gk_region ?_
  refine gr_v (ev_mv rfl) ?_
  refine gr_v (ev_mv rfl) ?_
  refine gr_v (ev_ix (a' := o + 2) rfl rfl Tryz.runUnderlying69 Tryz.sizeOf5 (by omega) (by omega) (by omega)) ?_
  refine gr_v (ev_ld rfl Tryz.isAgg5 hk (row_getD (by omega))) ?_
  refine gr_v (ev_cv rfl ⟨_, Tryz.runUnderlying5⟩ Tryz.runUnderlying30 rfl) ?_
  refine gr_v (ev_shl8 rfl rfl rfl rfl rfl) ?_
  refine gr_v (ev_or rfl rfl rfl) ?_
  refine gr_v (ev_as rfl) ?_
  refine gr_nil ?_
  refine gk_seq ?_
  refine gk_region ?_
  refine gr_v (ev_mv rfl) ?_
  refine gr_v (ev_mv rfl) ?_
  refine gr_v (ev_ix (a' := o + 3) rfl rfl Tryz.runUnderlying69 Tryz.sizeOf5 (by omega) (by omega) (by omega)) ?_
  refine gr_v (ev_ld rfl Tryz.isAgg5 hk (row_getD (by omega))) ?_
  refine gr_v (ev_cv rfl ⟨_, Tryz.runUnderlying5⟩ Tryz.runUnderlying30 rfl) ?_
  refine gr_v (ev_shl8 rfl rfl rfl rfl rfl) ?_
  refine gr_v (ev_or rfl rfl rfl) ?_
  refine gr_v (ev_as rfl) ?_
  refine gr_nil ?_
  refine gk_ret1 Tryz.results318 rfl ?_
  exact ⟨_, rfl, rfl, rfl⟩

theorem n315 {w : World} {b o len cap : Nat} {ls : List UInt8} (hk : w.heap[b]? = some (.cells (row ls) 5 (0, 0))) (hl : 2 ≤ len) (ho : o + 2 ≤ ls.length) : CR Tryz.prog 315 #[.slice (some ⟨b, o, none⟩) len cap] w (fun v w' => v = .int .i16 (num2 .i16 ls o) ∧ w = w') := by
  refine cr_enter Tryz.func315 rfl Tryz.ntmps315 ?_
  refine gk_seq ?_
  refine gk_region ?_
  refine gr_v (ev_as rfl) ?_
  refine gr_nil ?_
  refine gk_seq ?_
  refine gk_region ?_
  refine gr_v (ev_mv rfl) ?_
  refine gr_v (ev_ix (a' := o + 1) rfl rfl Tryz.runUnderlying69 Tryz.sizeOf5 (by omega) (by omega) (by omega)) ?_
  refine gr_v (ev_ld rfl Tryz.isAgg5 hk (row_getD (by omega))) ?_
  refine gr_nil ?_
  refine gk_seq ?_
  refine gk_region ?_
  refine gr_v (ev_mv rfl) ?_
  refine gr_v (ev_mv rfl) ?_
  refine gr_v (ev_ix (a' := o + 0) rfl rfl Tryz.runUnderlying69 Tryz.sizeOf5 (by omega) (by omega) (by omega)) ?_
  refine gr_v (ev_ld rfl Tryz.isAgg5 hk (row_getD (by omega))) ?_
  refine gr_v (ev_cv rfl ⟨_, Tryz.runUnderlying5⟩ Tryz.runUnderlying23 rfl) ?_
  refine gr_v (ev_or rfl rfl rfl) ?_
  refine gr_v (ev_as rfl) ?_
  refine gr_nil ?_
  refine gk_seq ?_
  refine gk_region ?_
  refine gr_v (ev_mv rfl) ?_
  refine gr_v (ev_mv rfl) ?_
  refine gr_v (ev_ix (a' := o + 1) rfl rfl Tryz.runUnderlying69 Tryz.sizeOf5 (by omega) (by omega) (by omega)) ?_
  refine gr_v (ev_ld rfl Tryz.isAgg5 hk (row_getD (by omega))) ?_
  refine gr_v (ev_cv rfl ⟨_, Tryz.runUnderlying5⟩ Tryz.runUnderlying23 rfl) ?_
  refine gr_v (ev_shl8 rfl rfl rfl rfl rfl) ?_
  refine gr_v (ev_or rfl rfl rfl) ?_
  refine gr_v (ev_as rfl) ?_
  refine gr_nil ?_
  refine gk_ret1 Tryz.results315 rfl ?_
  exact ⟨_, rfl, rfl, rfl⟩

theorem n340 {w : World} {b o len cap : Nat} {ls : List UInt8} (hk : w.heap[b]? = some (.cells (row ls) 5 (0, 0))) (hl : 1 ≤ len) (ho : o + 1 ≤ ls.length) : CR Tryz.prog 340 #[.slice (some ⟨b, o, none⟩) len cap] w (fun v w' => v = B (byt ls (o + 0)) ∧ w = w') := by
  refine cr_enter Tryz.func340 rfl Tryz.ntmps340 ?_
  refine gk_seq ?_
  refine gk_region ?_
  refine gr_v (ev_as rfl) ?_
  refine gr_nil ?_
  refine gk_seq ?_
  refine gk_region ?_
  refine gr_v (ev_mv rfl) ?_
  refine gr_v (ev_ix (a' := o + 0) rfl rfl Tryz.runUnderlying69 Tryz.sizeOf5 (by omega) (by omega) (by omega)) ?_
  refine gr_v (ev_ld rfl Tryz.isAgg5 hk (row_getD (by omega))) ?_
  refine gr_v (ev_as rfl) ?_
  refine gr_nil ?_
  refine gk_ret1 Tryz.results340 rfl ?_
  exact ⟨_, rfl, rfl, rfl⟩

theorem n322 {w : World} {b o len cap : Nat} {ls : List UInt8} (hk : w.heap[b]? = some (.cells (row ls) 5 (0, 0))) (hl : 1 ≤ len) (ho : o + 1 ≤ ls.length) : CR Tryz.prog 322 #[.slice (some ⟨b, o, none⟩) len cap] w (fun v w' => v = .int .i8 (cvI .i8 (byt ls (o + 0))) ∧ w = w') := by
  refine cr_enter Tryz.func322 rfl Tryz.ntmps322 ?_
  refine gk_seq ?_
  refine gk_region ?_
  refine gr_v (ev_as rfl) ?_
  refine gr_nil ?_
  refine gk_seq ?_
  refine gk_region ?_
  refine gr_v (ev_mv rfl) ?_
  refine gr_v (ev_ix (a' := o + 0) rfl rfl Tryz.runUnderlying69 Tryz.sizeOf5 (by omega) (by omega) (by omega)) ?_
  refine gr_v (ev_ld rfl Tryz.isAgg5 hk (row_getD (by omega))) ?_
  refine gr_v (ev_cv rfl ⟨_, Tryz.runUnderlying5⟩ Tryz.runUnderlying36 rfl) ?_
  refine gr_v (ev_as rfl) ?_
  refine gr_nil ?_
  refine gk_ret1 Tryz.results322 rfl ?_
  exact ⟨_, rfl, rfl, rfl⟩

theorem n227 {w : World} {b o len cap : Nat} {ls : List UInt8} (hk : w.heap[b]? = some (.cells (row ls) 5 (0, 0))) (hl : 4 ≤ len) (ho : o + 4 ≤ ls.length) : CR Tryz.prog 227 #[.slice (some ⟨b, o, none⟩) len cap] w (fun v w' => v = .int .u32 (IntKind.wrap .u32 (num4 .i32 ls o)) ∧ w = w') := by
  refine cr_enter Tryz.func227 rfl Tryz.ntmps227 ?_
  refine gk_seq ?_
  refine gk_region ?_
  refine gr_v (ev_as rfl) ?_
  refine gr_nil ?_
  refine gk_seq ?_
  refine gk_region ?_
  refine gr_v (ev_mv rfl) ?_
  refine gr_call (ec_func Tryz.call293 rfl) (n293 hk hl ho) ?_
  rintro _ _ ⟨rfl, rfl⟩
  refine gr_v (ev_cv rfl ⟨_, Tryz.runUnderlying21⟩ Tryz.runUnderlying65 rfl) ?_
  refine gr_v (ev_as rfl) ?_
  refine gr_nil ?_
  refine gk_ret1 Tryz.results227 rfl ?_
  exact ⟨_, rfl, rfl, rfl⟩

theorem n339 {w : World} {b o len cap : Nat} {ls : List UInt8} (hk : w.heap[b]? = some (.cells (row ls) 5 (0, 0))) (hl : 4 ≤ len) (ho : o + 4 ≤ ls.length) : CR Tryz.prog 339 #[.slice (some ⟨b, o, none⟩) len cap] w (fun v w' => v = .int .i32 (num4 .i32 ls o) ∧ w = w') := by
  refine cr_enter Tryz.func339 rfl Tryz.ntmps339 ?_
  refine gk_seq ?_
  refine gk_region ?_
  refine gr_v (ev_as rfl) ?_
  refine gr_nil ?_
  refine gk_seq ?_
  refine gk_region ?_
  refine gr_v (ev_mv rfl) ?_
  refine gr_call (ec_func Tryz.call293 rfl) (n293 hk hl ho) ?_
  rintro _ _ ⟨rfl, rfl⟩
  refine gr_v (ev_as rfl) ?_
  refine gr_nil ?_
  refine gk_ret1 Tryz.results339 rfl ?_
  exact ⟨_, rfl, rfl, rfl⟩

theorem n316 {w : World} {b o len cap : Nat} {ls : List UInt8} (hk : w.heap[b]? = some (.cells (row ls) 5 (0, 0))) (hl : 1 ≤ len) (ho : o + 1 ≤ ls.length) : CR Tryz.prog 316 #[.slice (some ⟨b, o, none⟩) len cap] w (fun v w' => v = B (byt ls (o + 0)) ∧ w = w') := by
  refine cr_enter Tryz.func316 rfl Tryz.ntmps316 ?_
  refine gk_seq ?_
  refine gk_region ?_
  refine gr_v (ev_as rfl) ?_
  refine gr_nil ?_
  refine gk_seq ?_
  refine gk_region ?_
  refine gr_v (ev_mv rfl) ?_
  refine gr_call (ec_func Tryz.call340 rfl) (n340 hk hl ho) ?_
  rintro _ _ ⟨rfl, rfl⟩
  refine gr_v (ev_as rfl) ?_
  refine gr_nil ?_
  refine gk_ret1 Tryz.results316 rfl ?_
  exact ⟨_, rfl, rfl, rfl⟩

theorem n321 {w : World} {b o len cap : Nat} {ls : List UInt8} (hk : w.heap[b]? = some (.cells (row ls) 5 (0, 0))) (hl : 4 ≤ len) (ho : o + 4 ≤ ls.length) : CR Tryz.prog 321 #[.slice (some ⟨b, o, none⟩) len cap] w (fun v w' => v = .float .f32 (num4 .u32 ls o).toNat ∧ w = w') := by
  refine cr_enter Tryz.func321 rfl Tryz.ntmps321 ?_
  refine gk_seq ?_
  refine gk_region ?_
  refine gr_v (ev_as rfl) ?_
  refine gr_nil ?_
  refine gk_seq ?_
  refine gk_region ?_
  refine gr_v (ev_mv rfl) ?_
  refine gr_call (ec_func Tryz.call318 rfl) (n318 hk hl ho) ?_
  rintro _ _ ⟨rfl, rfl⟩
  refine gr_v (ev_as rfl) ?_
  refine gr_nil ?_
  refine gk_seq ?_
  refine gk_region ?_
  refine gr_v (ev_mv rfl) ?_
  refine gr_v (ev_ext rfl (x51 _ _)) ?_
  refine gr_v (ev_as rfl) ?_
  refine gr_nil ?_
  refine gk_ret1 Tryz.results321 rfl ?_
  exact ⟨_, rfl, rfl, rfl⟩

def orcB : List UInt8 := [108, 0, 0, 0, 0, 0, 102, 0, 28, 0, 0, 0, 0, 0, 26, 0, 20, 0, 0, 0, 0, 0, 19, 0, 0, 0, 0, 0, 0, 0, 0, 0, 0, 0, 0, 0, 0, 0, 0, 0, 0, 0, 0, 0, 0, 0, 0, 0, 0, 0, 0, 0, 0, 0, 0, 0, 0, 0, 0, 0, 12, 0, 8, 0, 0, 0, 0, 0, 0, 0, 0, 0, 0, 0, 0, 0, 0, 0, 0, 0, 0, 0, 0, 0, 0, 0, 0, 0, 0, 0, 0, 0, 0, 0, 0, 0, 0, 0, 0, 0, 0, 0, 0, 0, 0, 0, 7, 0, 102, 0, 0, 0, 0, 0, 0, 0, 0, 0, 0, 0, 0, 0, 0, 0, 0, 0, 0, 0, 8, 0, 0, 0, 0, 0, 80, 0, 3, 0, 0, 0, 111, 114, 99, 0]
theorem orcB_len : orcB.length = 144 := by kernel_rfl
/-- A reader of these bytes. -/
structure Orc (rb kb : Nat) (w : World) : Prop where
  r : w.heap[rb]? = some (.cells #[.slice (some ⟨kb, 0, none⟩) 144 144, .int .u32 108] 208 (0, 0))
  k : w.heap[kb]? = some (.cells (row orcB) 5 (0, 0))
theorem Orc.same {rb kb : Nat} {w w' : World} (h : Orc rb kb w) (hh : w'.heap = w.heap) : Orc rb kb w' := ⟨hp hh h.r, hp hh h.k⟩
theorem Orc.old {rb kb : Nat} {w w' : World} (h : Orc rb kb w) (ho : Old w w') : Orc rb kb w' := ⟨ho _ _ h.r, ho _ _ h.k⟩

theorem t313 {rb kb o : Nat} {w : World} (h : Orc rb kb w) (ho : o + 4 ≤ 144) : CR Tryz.prog 313 #[ptr rb, .int .u32 (o : Nat)] w (fun v w' => v = .int .i32 (num4 .i32 orcB o) ∧ w = w') := by
  have hl := orcB_len
  refine cr_enter Tryz.func313 rfl Tryz.ntmps313 ?_
  refine gk_seq ?_
  refine gk_region ?_
  refine gr_v (ev_as rfl) ?_
  refine gr_nil ?_
  refine gk_seq ?_
  refine gk_region ?_
  refine gr_v (ev_mv rfl) ?_
  refine gr_v (ev_nil rfl) ?_
  refine gr_v (ev_fa (j := 0) rfl Tryz.runUnderlying200 rfl Tryz.sizeOf69 rfl rfl) ?_
  refine gr_v (ev_ld rfl Tryz.isAgg69 (by first | exact h.r) (by rfl)) ?_
  refine gr_v (ev_mv rfl) ?_
  refine gr_v (ev_slo (a' := o) rfl rfl Tryz.runUnderlying69 Tryz.sizeOf5 (by omega) (by omega) (by omega) (by omega)) ?_
  refine gr_call (ec_func Tryz.call339 rfl) (n339 h.k (by omega) (by omega)) ?_
  rintro _ _ ⟨rfl, rfl⟩
  refine gr_v (ev_as rfl) ?_
  refine gr_nil ?_
  refine gk_ret1 Tryz.results313 rfl ?_
  exact ⟨_, rfl, rfl, rfl⟩

theorem t314 {rb kb o : Nat} {w : World} (h : Orc rb kb w) (ho : o + 2 ≤ 144) : CR Tryz.prog 314 #[ptr rb, .int .u32 (o : Nat)] w (fun v w' => v = .int .u16 (u16 orcB o : Nat) ∧ w = w') := by
  have hl := orcB_len
  refine cr_enter Tryz.func314 rfl Tryz.ntmps314 ?_
  refine gk_seq ?_
  refine gk_region ?_
  refine gr_v (ev_as rfl) ?_
  refine gr_nil ?_
  refine gk_seq ?_
  refine gk_region ?_
  refine gr_v (ev_mv rfl) ?_
  refine gr_v (ev_nil rfl) ?_
  refine gr_v (ev_fa (j := 0) rfl Tryz.runUnderlying200 rfl Tryz.sizeOf69 rfl rfl) ?_
  refine gr_v (ev_ld rfl Tryz.isAgg69 (by first | exact h.r) (by rfl)) ?_
  refine gr_v (ev_mv rfl) ?_
  refine gr_v (ev_slo (a' := o) rfl rfl Tryz.runUnderlying69 Tryz.sizeOf5 (by omega) (by omega) (by omega) (by omega)) ?_
  refine gr_call (ec_func Tryz.call335 rfl) (c335 h.k (by omega) (by omega)) ?_
  rintro _ _ ⟨rfl, rfl⟩
  refine gr_v (ev_as rfl) ?_
  refine gr_nil ?_
  refine gk_ret1 Tryz.results314 rfl ?_
  exact ⟨_, rfl, rfl, rfl⟩

theorem t269 {rb kb o : Nat} {w : World} (h : Orc rb kb w) (ho : o + 2 ≤ 144) : CR Tryz.prog 269 #[ptr rb, .int .u32 (o : Nat)] w (fun v w' => v = .int .i16 (num2 .i16 orcB o) ∧ w = w') := by
  have hl := orcB_len
  refine cr_enter Tryz.func269 rfl Tryz.ntmps269 ?_
  refine gk_seq ?_
  refine gk_region ?_
  refine gr_v (ev_as rfl) ?_
  refine gr_nil ?_
  refine gk_seq ?_
  refine gk_region ?_
  refine gr_v (ev_mv rfl) ?_
  refine gr_v (ev_nil rfl) ?_
  refine gr_v (ev_fa (j := 0) rfl Tryz.runUnderlying200 rfl Tryz.sizeOf69 rfl rfl) ?_
  refine gr_v (ev_ld rfl Tryz.isAgg69 (by first | exact h.r) (by rfl)) ?_
  refine gr_v (ev_mv rfl) ?_
  refine gr_v (ev_slo (a' := o) rfl rfl Tryz.runUnderlying69 Tryz.sizeOf5 (by omega) (by omega) (by omega) (by omega)) ?_
  refine gr_call (ec_func Tryz.call315 rfl) (n315 h.k (by omega) (by omega)) ?_
  rintro _ _ ⟨rfl, rfl⟩
  refine gr_v (ev_as rfl) ?_
  refine gr_nil ?_
  refine gk_ret1 Tryz.results269 rfl ?_
  exact ⟨_, rfl, rfl, rfl⟩

theorem t271 {rb kb o : Nat} {w : World} (h : Orc rb kb w) (ho : o + 1 ≤ 144) : CR Tryz.prog 271 #[ptr rb, .int .u32 (o : Nat)] w (fun v w' => v = B (byt orcB (o + 0)) ∧ w = w') := by
  have hl := orcB_len
  refine cr_enter Tryz.func271 rfl Tryz.ntmps271 ?_
  refine gk_seq ?_
  refine gk_region ?_
  refine gr_v (ev_as rfl) ?_
  refine gr_nil ?_
  refine gk_seq ?_
  refine gk_region ?_
  refine gr_v (ev_mv rfl) ?_
  refine gr_v (ev_nil rfl) ?_
  refine gr_v (ev_fa (j := 0) rfl Tryz.runUnderlying200 rfl Tryz.sizeOf69 rfl rfl) ?_
  refine gr_v (ev_ld rfl Tryz.isAgg69 (by first | exact h.r) (by rfl)) ?_
  refine gr_v (ev_mv rfl) ?_
  refine gr_v (ev_slo (a' := o) rfl rfl Tryz.runUnderlying69 Tryz.sizeOf5 (by omega) (by omega) (by omega) (by omega)) ?_
  refine gr_call (ec_func Tryz.call316 rfl) (n316 h.k (by omega) (by omega)) ?_
  rintro _ _ ⟨rfl, rfl⟩
  refine gr_v (ev_as rfl) ?_
  refine gr_nil ?_
  refine gk_ret1 Tryz.results271 rfl ?_
  exact ⟨_, rfl, rfl, rfl⟩

theorem t280 {rb kb o : Nat} {w : World} (h : Orc rb kb w) (ho : o + 1 ≤ 144) : CR Tryz.prog 280 #[ptr rb, .int .u32 (o : Nat)] w (fun v w' => v = .int .i8 (cvI .i8 (byt orcB (o + 0))) ∧ w = w') := by
  have hl := orcB_len
  refine cr_enter Tryz.func280 rfl Tryz.ntmps280 ?_
  refine gk_seq ?_
  refine gk_region ?_
  refine gr_v (ev_as rfl) ?_
  refine gr_nil ?_
  refine gk_seq ?_
  refine gk_region ?_
  refine gr_v (ev_mv rfl) ?_
  refine gr_v (ev_nil rfl) ?_
  refine gr_v (ev_fa (j := 0) rfl Tryz.runUnderlying200 rfl Tryz.sizeOf69 rfl rfl) ?_
  refine gr_v (ev_ld rfl Tryz.isAgg69 (by first | exact h.r) (by rfl)) ?_
  refine gr_v (ev_mv rfl) ?_
  refine gr_v (ev_slo (a' := o) rfl rfl Tryz.runUnderlying69 Tryz.sizeOf5 (by omega) (by omega) (by omega) (by omega)) ?_
  refine gr_call (ec_func Tryz.call322 rfl) (n322 h.k (by omega) (by omega)) ?_
  rintro _ _ ⟨rfl, rfl⟩
  refine gr_v (ev_as rfl) ?_
  refine gr_nil ?_
  refine gk_ret1 Tryz.results280 rfl ?_
  exact ⟨_, rfl, rfl, rfl⟩

theorem t277 {rb kb o : Nat} {w : World} (h : Orc rb kb w) (ho : o + 4 ≤ 144) : CR Tryz.prog 277 #[ptr rb, .int .u32 (o : Nat)] w (fun v w' => v = .float .f32 (num4 .u32 orcB o).toNat ∧ w = w') := by
  have hl := orcB_len
  refine cr_enter Tryz.func277 rfl Tryz.ntmps277 ?_
  refine gk_seq ?_
  refine gk_region ?_
  refine gr_v (ev_as rfl) ?_
  refine gr_nil ?_
  refine gk_seq ?_
  refine gk_region ?_
  refine gr_v (ev_mv rfl) ?_
  refine gr_v (ev_nil rfl) ?_
  refine gr_v (ev_fa (j := 0) rfl Tryz.runUnderlying200 rfl Tryz.sizeOf69 rfl rfl) ?_
  refine gr_v (ev_ld rfl Tryz.isAgg69 (by first | exact h.r) (by rfl)) ?_
  refine gr_v (ev_mv rfl) ?_
  refine gr_v (ev_slo (a' := o) rfl rfl Tryz.runUnderlying69 Tryz.sizeOf5 (by omega) (by omega) (by omega) (by omega)) ?_
  refine gr_call (ec_func Tryz.call321 rfl) (n321 h.k (by omega) (by omega)) ?_
  rintro _ _ ⟨rfl, rfl⟩
  refine gr_v (ev_as rfl) ?_
  refine gr_nil ?_
  refine gk_ret1 Tryz.results277 rfl ?_
  exact ⟨_, rfl, rfl, rfl⟩

theorem t268 {rb kb vo r : Nat} {w : World} (h : Orc rb kb w) (hv : vo < 102) (hr : u16 orcB (6 + vo) = r) : CR Tryz.prog 268 #[ptr rb, .int .u16 (vo : Nat)] w (fun v w' => v = .int .u16 (r : Nat) ∧ w'.heap = w.heap) := by
  subst hr
  refine cr_enter Tryz.func268 rfl Tryz.ntmps268 ?_
  refine gk_seq ?_
  refine gk_region ?_
  refine gr_v (ev_as rfl) ?_
  refine gr_nil ?_
  refine gk_seq ?_
  refine gk_draw (fun w' => w'.heap = w.heap) (by kernel_rfl) ?_
  have hS : w.drew.heap = w.heap := rfl
  refine ga_take 0 rfl (by kernel_rfl) (fun _ _ => (ev_mv rfl)) hS ?_
  refine ga_take 1 rfl (by kernel_rfl) (fun _ _ => (ev_nil rfl)) hS ?_
  refine ga_take 2 rfl (by kernel_rfl) (fun _ _ => (ev_fa (j := 1) rfl Tryz.runUnderlying200 rfl Tryz.sizeOf65 rfl rfl)) hS ?_
  refine ga_take 3 rfl (by kernel_rfl) (fun _ hs => (ev_ld rfl Tryz.isAgg65 (by rw [hs]; exact h.r) (by rfl))) hS ?_
  refine ga_take 4 rfl (by kernel_rfl) (fun _ _ => (ev_cv rfl ⟨_, Tryz.runUnderlying65⟩ Tryz.runUnderlying289 rfl)) hS ?_
  refine ga_take 5 rfl (by kernel_rfl) (fun _ _ => (ev_mv rfl)) hS ?_
  refine ga_take 6 rfl (by kernel_rfl) (fun _ _ => (ev_mv rfl)) hS ?_
  refine ga_take 7 rfl (by kernel_rfl) (fun _ _ => (ev_nil rfl)) hS ?_
  refine ga_take 8 rfl (by kernel_rfl) (fun _ _ => (ev_fa (j := 1) rfl Tryz.runUnderlying200 rfl Tryz.sizeOf65 rfl rfl)) hS ?_
  refine ga_take 9 rfl (by kernel_rfl) (fun _ hs => (ev_ld rfl Tryz.isAgg65 (by rw [hs]; exact h.r) (by rfl))) hS ?_
  refine ga_call 10 rfl (by kernel_rfl) (ec_func Tryz.call313 rfl) (t313 (o := 108) (h.same rfl) (by decide)) ?_
  rintro _ wd ⟨rfl, rfl⟩
  refine ⟨hS, fun hS => ?_⟩
  refine ga_take 11 rfl (by kernel_rfl) (fun _ _ => (ev_sub (r := 6) rfl rfl (by decide))) hS ?_
  refine ga_take 12 rfl (by kernel_rfl) (fun _ _ => (ev_cv rfl ⟨_, Tryz.runUnderlying289⟩ Tryz.runUnderlying65 rfl)) hS ?_
  refine ga_take 13 rfl (by kernel_rfl) (fun _ _ => (ev_as rfl)) hS ?_
  refine ga_nil (by kernel_rfl) ?_
  replace h := h.same hS
  refine gk_seq ?_
  refine gk_seq ?_
  refine gk_region ?_
  refine gr_v (ev_mv rfl) ?_
  refine gr_v (ev_mv rfl) ?_
  refine gr_v (ev_mv rfl) ?_
  refine gr_call (ec_func Tryz.call314 rfl) (t314 (o := 6) h (by decide)) ?_
  rintro _ _ ⟨rfl, rfl⟩
  refine gr_bb (b' := true) (ev_lss rfl rfl) (decide_eq_true (by show ((vo : Nat) : Int) < 102; omega)) ?_
  refine gr_nil ?_
  refine gk_true rfl rfl ?_
  refine gk_seq ?_
  refine gk_region ?_
  refine gr_v (ev_mv rfl) ?_
  refine gr_v (ev_mv rfl) ?_
  refine gr_v (ev_mv rfl) ?_
  refine gr_v (ev_cv rfl ⟨_, Tryz.runUnderlying255⟩ Tryz.runUnderlying65 (w_u32 (by omega) (by omega))) ?_
  refine gr_v (ev_add (r := ((6 + vo : Nat) : Int)) rfl rfl (by rw [show IntKind.wrap .u32 6 = 6 from by decide, w_u32 (by omega) (by omega)]; omega)) ?_
  refine gr_call (ec_func Tryz.call314 rfl) (t314 (o := 6 + vo) h (by omega)) ?_
  rintro _ _ ⟨rfl, rfl⟩
  refine gr_v (ev_as rfl) ?_
  refine gr_nil ?_
  refine gk_ret1 Tryz.results268 rfl ?_
  exact ⟨_, rfl, rfl, hS⟩

theorem t270 {rb kb : Nat} {w : World} (h : Orc rb kb w) : CR Tryz.prog 270 #[ptr rb, .int .u32 ((128 : Nat) : Int)] w (fun v w' => v = .slice (some ⟨kb, 140, none⟩) 3 4 ∧ w = w') := by
  have hl := orcB_len
  refine cr_enter Tryz.func270 rfl Tryz.ntmps270 ?_
  refine gk_seq ?_
  refine gk_region ?_
  refine gr_v (ev_as rfl) ?_
  refine gr_nil ?_
  refine gk_seq ?_
  refine gk_region ?_
  refine gr_v (ev_mv rfl) ?_
  refine gr_v (ev_mv rfl) ?_
  refine gr_v (ev_nil rfl) ?_
  refine gr_v (ev_fa (j := 0) rfl Tryz.runUnderlying200 rfl Tryz.sizeOf69 rfl rfl) ?_
  refine gr_v (ev_ld rfl Tryz.isAgg69 (by first | exact h.r) (by rfl)) ?_
  refine gr_v (ev_mv rfl) ?_
  refine gr_v (ev_slo (a' := 128) rfl rfl Tryz.runUnderlying69 Tryz.sizeOf5 (by decide) (by decide) (by decide) (by decide)) ?_
  refine gr_call (ec_func Tryz.call227 rfl) (n227 (o := 128) h.k (by omega) (by omega)) ?_
  rintro _ _ ⟨rfl, rfl⟩
  refine gr_v (ev_add (r := 136) rfl rfl (by decide)) ?_
  refine gr_v (ev_as rfl) ?_
  refine gr_nil ?_
  refine gk_seq ?_
  refine gk_region ?_
  refine gr_v (ev_mv rfl) ?_
  refine gr_v (ev_add (r := 140) rfl rfl (by decide)) ?_
  refine gr_v (ev_as rfl) ?_
  refine gr_nil ?_
  refine gk_seq ?_
  refine gk_region ?_
  refine gr_v (ev_mv rfl) ?_
  refine gr_v (ev_nil rfl) ?_
  refine gr_v (ev_fa (j := 0) rfl Tryz.runUnderlying200 rfl Tryz.sizeOf69 rfl rfl) ?_
  refine gr_v (ev_ld rfl Tryz.isAgg69 (by first | exact h.r) (by rfl)) ?_
  refine gr_v (ev_mv rfl) ?_
  refine gr_v (ev_slo (a' := 136) rfl rfl Tryz.runUnderlying69 Tryz.sizeOf5 (by decide) (by decide) (by decide) (by decide)) ?_
  refine gr_call (ec_func Tryz.call227 rfl) (n227 (o := 136) h.k (by omega) (by omega)) ?_
  rintro _ _ ⟨rfl, rfl⟩
  refine gr_v (ev_as rfl) ?_
  refine gr_nil ?_
  refine gk_seq ?_
  refine gk_region ?_
  refine gr_v (ev_mv rfl) ?_
  refine gr_v (ev_nil rfl) ?_
  refine gr_v (ev_fa (j := 0) rfl Tryz.runUnderlying200 rfl Tryz.sizeOf69 rfl rfl) ?_
  refine gr_v (ev_ld rfl Tryz.isAgg69 (by first | exact h.r) (by rfl)) ?_
  refine gr_v (ev_mv rfl) ?_
  refine gr_v (ev_mv rfl) ?_
  refine gr_v (ev_mv rfl) ?_
  refine gr_v (ev_add (r := 143) rfl rfl (by decide)) ?_
  refine gr_v (ev_slh' (a' := 140) (ln := 3) rfl rfl rfl Tryz.runUnderlying69 Tryz.sizeOf5 (by decide) (by decide) (by decide) (by decide) (by decide) (by decide)) ?_
  refine gr_v (ev_as rfl) ?_
  refine gr_nil ?_
  refine gk_ret1 Tryz.results270 rfl ?_
  exact ⟨_, rfl, rfl, rfl⟩

end Go.Proofs.YtjaplgfgkigmiaaGreat