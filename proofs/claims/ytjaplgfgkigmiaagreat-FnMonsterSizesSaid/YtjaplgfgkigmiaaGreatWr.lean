/-
  The functions that write numbers into a row of bytes.
-/
import Derived.Test.YtjaplgfgkigmiaaGreatModel
import Derived.Test.YtjaplgfgkigmiaaGreatProg
namespace Go.Proofs.YtjaplgfgkigmiaaGreat
open Go Go.Proofs

/-- 'f' writes 'bs' at the begin of a slice of bytes. -/
def WrOK (f : FuncId) (x : Value) (bs : List UInt8) : Prop := ∀ (w : World) (b o len cap : Nat) (ls : List UInt8), w.heap[b]? = some (.cells (row ls) 5 (0, 0)) → bs.length ≤ len → o + bs.length ≤ ls.length →
  CR Tryz.prog f #[.slice (some ⟨b, o, none⟩) len cap, x] w (fun v w' => v = .tuple #[] ∧ w' = w.setB b (.cells (row (sets ls o bs)) 5 (0, 0)))

theorem c327 (n : UInt8) : WrOK 327 (B n) [n] := by
  intro w b o len cap ls hk hl ho
  simp only [List.length_cons, List.length_nil, Nat.zero_add] at hl ho
  refine cr_enter Tryz.func327 rfl Tryz.ntmps327 ?_
  refine gk_region ?_
  refine gr_v (ev_mv rfl) ?_
  refine gr_v (ev_mv rfl) ?_
  refine gr_v (ev_ix (a' := o) rfl rfl Tryz.runUnderlying69 Tryz.sizeOf5 (by omega) (by omega) rfl) ?_
  refine gr_st rfl rfl (by rfl) Tryz.sizeOf5 (by first | exact hk) (row_blt (by (try simp only [List.length_set]); omega)) row_set ?_
  intro w1 hw1 hkn
  have hk1 := hkn; clear hkn
  refine gr_nil ?_
  refine gk_end0 Tryz.results327 ?_
  exact ⟨_, rfl, rfl, by rw [hw1]; rfl⟩

theorem c341 (n : Int) : WrOK 341 (.int .i8 n) ([lb n]) := by
  intro w b o len cap ls hk hl ho
  simp only [List.length_cons, List.length_nil, Nat.zero_add] at hl ho
  refine cr_enter Tryz.func341 rfl Tryz.ntmps341 ?_
  refine gk_region ?_
  refine gr_v (ev_mv rfl) ?_
  refine gr_v (ev_mv rfl) ?_
  refine gr_v (ev_cv rfl ⟨_, Tryz.runUnderlying36⟩ Tryz.runUnderlying5 (w_lb _)) ?_
  refine gr_v (ev_ix (a' := o) rfl rfl Tryz.runUnderlying69 Tryz.sizeOf5 (by omega) (by omega) rfl) ?_
  refine gr_st rfl rfl (by rfl) Tryz.sizeOf5 (by first | exact hk) (row_blt (by (try simp only [List.length_set]); omega)) row_set ?_
  intro w1 hw1 hkn
  have hk1 := hkn; clear hkn
  refine gr_nil ?_
  refine gk_end0 Tryz.results341 ?_
  exact ⟨_, rfl, rfl, by rw [hw1]; rfl⟩

theorem c348 (n : Int) : WrOK 348 (.int .u16 n) (le2 n) := by
  intro w b o len cap ls hk hl ho
  simp only [le2, List.length_cons, List.length_nil, Nat.zero_add, Nat.reduceAdd] at hl ho
  refine cr_enter Tryz.func348 rfl Tryz.ntmps348 ?_
  refine gk_seq ?_
  refine gk_region ?_
  refine gr_v (ev_mv rfl) ?_
  refine gr_v (ev_ix (a' := o + 1) rfl rfl Tryz.runUnderlying69 Tryz.sizeOf5 (by omega) (by omega) rfl) ?_
  refine gr_v (ev_ld rfl Tryz.isAgg5 (by first | exact hk) (row_at (by (try simp only [List.length_set]); omega))) ?_
  refine gr_nil ?_
  refine gk_seq ?_
  refine gk_region ?_
  refine gr_v (ev_mv rfl) ?_
  refine gr_v (ev_mv rfl) ?_
  refine gr_v (ev_cv rfl ⟨_, Tryz.runUnderlying39⟩ Tryz.runUnderlying5 (w_lb _)) ?_
  refine gr_v (ev_ix (a' := o) rfl rfl Tryz.runUnderlying69 Tryz.sizeOf5 (by omega) (by omega) rfl) ?_
  refine gr_st rfl rfl (by rfl) Tryz.sizeOf5 (by first | exact hk) (row_blt (by (try simp only [List.length_set]); omega)) row_set ?_
  intro w1 hw1 hkn
  have hk1 := hkn; clear hkn
  refine gr_nil ?_
  refine gk_region ?_
  refine gr_v (ev_mv rfl) ?_
  refine gr_v (ev_mv rfl) ?_
  refine gr_v (ev_shr rfl rfl rfl rfl rfl) ?_
  refine gr_v (ev_cv rfl ⟨_, Tryz.runUnderlying39⟩ Tryz.runUnderlying5 (w_lb _)) ?_
  refine gr_v (ev_ix (a' := o + 1) rfl rfl Tryz.runUnderlying69 Tryz.sizeOf5 (by omega) (by omega) rfl) ?_
  refine gr_st rfl rfl (by rfl) Tryz.sizeOf5 (by first | exact hk1) (row_blt (by (try simp only [List.length_set]); omega)) row_set ?_
  intro w2 hw2 hk1n
  have hk12 := hk1n; clear hk1n
  refine gr_nil ?_
  refine gk_end0 Tryz.results348 ?_
  exact ⟨_, rfl, rfl, by rw [hw2, hw1, sb_sb]; rfl⟩

theorem c342 (n : Int) : WrOK 342 (.int .i16 n) (le2 n) := by
  intro w b o len cap ls hk hl ho
  simp only [le2, List.length_cons, List.length_nil, Nat.zero_add, Nat.reduceAdd] at hl ho
  refine cr_enter Tryz.func342 rfl Tryz.ntmps342 ?_
  refine gk_seq ?_
  refine gk_region ?_
  refine gr_v (ev_mv rfl) ?_
  refine gr_v (ev_ix (a' := o + 1) rfl rfl Tryz.runUnderlying69 Tryz.sizeOf5 (by omega) (by omega) rfl) ?_
  refine gr_v (ev_ld rfl Tryz.isAgg5 (by first | exact hk) (row_at (by (try simp only [List.length_set]); omega))) ?_
  refine gr_nil ?_
  refine gk_seq ?_
  refine gk_region ?_
  refine gr_v (ev_mv rfl) ?_
  refine gr_v (ev_mv rfl) ?_
  refine gr_v (ev_cv rfl ⟨_, Tryz.runUnderlying23⟩ Tryz.runUnderlying5 (w_lb _)) ?_
  refine gr_v (ev_ix (a' := o) rfl rfl Tryz.runUnderlying69 Tryz.sizeOf5 (by omega) (by omega) rfl) ?_
  refine gr_st rfl rfl (by rfl) Tryz.sizeOf5 (by first | exact hk) (row_blt (by (try simp only [List.length_set]); omega)) row_set ?_
  intro w1 hw1 hkn
  have hk1 := hkn; clear hkn
  refine gr_nil ?_
  refine gk_region ?_
  refine gr_v (ev_mv rfl) ?_
  refine gr_v (ev_mv rfl) ?_
  refine gr_v (ev_shr rfl rfl rfl rfl rfl) ?_
  refine gr_v (ev_cv rfl ⟨_, Tryz.runUnderlying23⟩ Tryz.runUnderlying5 (w_lb _)) ?_
  refine gr_v (ev_ix (a' := o + 1) rfl rfl Tryz.runUnderlying69 Tryz.sizeOf5 (by omega) (by omega) rfl) ?_
  refine gr_st rfl rfl (by rfl) Tryz.sizeOf5 (by first | exact hk1) (row_blt (by (try simp only [List.length_set]); omega)) row_set ?_
  intro w2 hw2 hk1n
  have hk12 := hk1n; clear hk1n
  refine gr_nil ?_
  refine gk_end0 Tryz.results342 ?_
  exact ⟨_, rfl, rfl, by rw [hw2, hw1, sb_sb]; rfl⟩

theorem c326 (n : Int) : WrOK 326 (.int .u32 n) (le4 n) := by
  intro w b o len cap ls hk hl ho
  simp only [le4, List.length_cons, List.length_nil, Nat.zero_add, Nat.reduceAdd] at hl ho
  refine cr_enter Tryz.func326 rfl Tryz.ntmps326 ?_
  refine gk_seq ?_
  refine gk_region ?_
  refine gr_v (ev_mv rfl) ?_
  refine gr_v (ev_ix (a' := o + 3) rfl rfl Tryz.runUnderlying69 Tryz.sizeOf5 (by omega) (by omega) rfl) ?_
  refine gr_v (ev_ld rfl Tryz.isAgg5 (by first | exact hk) (row_at (by (try simp only [List.length_set]); omega))) ?_
  refine gr_nil ?_
  refine gk_seq ?_
  refine gk_region ?_
  refine gr_v (ev_mv rfl) ?_
  refine gr_v (ev_mv rfl) ?_
  refine gr_v (ev_cv rfl ⟨_, Tryz.runUnderlying30⟩ Tryz.runUnderlying5 (w_lb _)) ?_
  refine gr_v (ev_ix (a' := o) rfl rfl Tryz.runUnderlying69 Tryz.sizeOf5 (by omega) (by omega) rfl) ?_
  refine gr_st rfl rfl (by rfl) Tryz.sizeOf5 (by first | exact hk) (row_blt (by (try simp only [List.length_set]); omega)) row_set ?_
  intro w1 hw1 hkn
  have hk1 := hkn; clear hkn
  refine gr_nil ?_
  refine gk_seq ?_
  refine gk_region ?_
  refine gr_v (ev_mv rfl) ?_
  refine gr_v (ev_mv rfl) ?_
  refine gr_v (ev_shr rfl rfl rfl rfl rfl) ?_
  refine gr_v (ev_cv rfl ⟨_, Tryz.runUnderlying30⟩ Tryz.runUnderlying5 (w_lb _)) ?_
  refine gr_v (ev_ix (a' := o + 1) rfl rfl Tryz.runUnderlying69 Tryz.sizeOf5 (by omega) (by omega) rfl) ?_
  refine gr_st rfl rfl (by rfl) Tryz.sizeOf5 (by first | exact hk1) (row_blt (by (try simp only [List.length_set]); omega)) row_set ?_
  intro w2 hw2 hk1n
  have hk12 := hk1n; clear hk1n
  refine gr_nil ?_
  refine gk_seq ?_
  refine gk_region ?_
  refine gr_v (ev_mv rfl) ?_
  refine gr_v (ev_mv rfl) ?_
  refine gr_v (ev_shr rfl rfl rfl rfl rfl) ?_
  refine gr_v (ev_cv rfl ⟨_, Tryz.runUnderlying30⟩ Tryz.runUnderlying5 (w_lb _)) ?_
  refine gr_v (ev_ix (a' := o + 2) rfl rfl Tryz.runUnderlying69 Tryz.sizeOf5 (by omega) (by omega) rfl) ?_
  refine gr_st rfl rfl (by rfl) Tryz.sizeOf5 (by first | exact hk12) (row_blt (by (try simp only [List.length_set]); omega)) row_set ?_
  intro w3 hw3 hk12n
  have hk123 := hk12n; clear hk12n
  refine gr_nil ?_
  refine gk_region ?_
  refine gr_v (ev_mv rfl) ?_
  refine gr_v (ev_mv rfl) ?_
  refine gr_v (ev_shr rfl rfl rfl rfl rfl) ?_
  refine gr_v (ev_cv rfl ⟨_, Tryz.runUnderlying30⟩ Tryz.runUnderlying5 (w_lb _)) ?_
  refine gr_v (ev_ix (a' := o + 3) rfl rfl Tryz.runUnderlying69 Tryz.sizeOf5 (by omega) (by omega) rfl) ?_
  refine gr_st rfl rfl (by rfl) Tryz.sizeOf5 (by first | exact hk123) (row_blt (by (try simp only [List.length_set]); omega)) row_set ?_
  intro w4 hw4 hk123n
  have hk1234 := hk123n; clear hk123n
  refine gr_nil ?_
  refine gk_end0 Tryz.results326 ?_
  exact ⟨_, rfl, rfl, by rw [hw4, hw3, hw2, hw1, sb_sb, sb_sb, sb_sb]; rfl⟩

theorem c345 (n : Int) : WrOK 345 (.int .i32 n) (le4 n) := by
  intro w b o len cap ls hk hl ho
  simp only [le4, List.length_cons, List.length_nil, Nat.zero_add, Nat.reduceAdd] at hl ho
  refine cr_enter Tryz.func345 rfl Tryz.ntmps345 ?_
  refine gk_seq ?_
  refine gk_region ?_
  refine gr_v (ev_mv rfl) ?_
  refine gr_v (ev_ix (a' := o + 3) rfl rfl Tryz.runUnderlying69 Tryz.sizeOf5 (by omega) (by omega) rfl) ?_
  refine gr_v (ev_ld rfl Tryz.isAgg5 (by first | exact hk) (row_at (by (try simp only [List.length_set]); omega))) ?_
  refine gr_nil ?_
  refine gk_seq ?_
  refine gk_region ?_
  refine gr_v (ev_mv rfl) ?_
  refine gr_v (ev_mv rfl) ?_
  refine gr_v (ev_cv rfl ⟨_, Tryz.runUnderlying21⟩ Tryz.runUnderlying5 (w_lb _)) ?_
  refine gr_v (ev_ix (a' := o) rfl rfl Tryz.runUnderlying69 Tryz.sizeOf5 (by omega) (by omega) rfl) ?_
  refine gr_st rfl rfl (by rfl) Tryz.sizeOf5 (by first | exact hk) (row_blt (by (try simp only [List.length_set]); omega)) row_set ?_
  intro w1 hw1 hkn
  have hk1 := hkn; clear hkn
  refine gr_nil ?_
  refine gk_seq ?_
  refine gk_region ?_
  refine gr_v (ev_mv rfl) ?_
  refine gr_v (ev_mv rfl) ?_
  refine gr_v (ev_shr rfl rfl rfl rfl rfl) ?_
  refine gr_v (ev_cv rfl ⟨_, Tryz.runUnderlying21⟩ Tryz.runUnderlying5 (w_lb _)) ?_
  refine gr_v (ev_ix (a' := o + 1) rfl rfl Tryz.runUnderlying69 Tryz.sizeOf5 (by omega) (by omega) rfl) ?_
  refine gr_st rfl rfl (by rfl) Tryz.sizeOf5 (by first | exact hk1) (row_blt (by (try simp only [List.length_set]); omega)) row_set ?_
  intro w2 hw2 hk1n
  have hk12 := hk1n; clear hk1n
  refine gr_nil ?_
  refine gk_seq ?_
  refine gk_region ?_
  refine gr_v (ev_mv rfl) ?_
  refine gr_v (ev_mv rfl) ?_
  refine gr_v (ev_shr rfl rfl rfl rfl rfl) ?_
  refine gr_v (ev_cv rfl ⟨_, Tryz.runUnderlying21⟩ Tryz.runUnderlying5 (w_lb _)) ?_
  refine gr_v (ev_ix (a' := o + 2) rfl rfl Tryz.runUnderlying69 Tryz.sizeOf5 (by omega) (by omega) rfl) ?_
  refine gr_st rfl rfl (by rfl) Tryz.sizeOf5 (by first | exact hk12) (row_blt (by (try simp only [List.length_set]); omega)) row_set ?_
  intro w3 hw3 hk12n
  have hk123 := hk12n; clear hk12n
  refine gr_nil ?_
  refine gk_region ?_
  refine gr_v (ev_mv rfl) ?_
  refine gr_v (ev_mv rfl) ?_
  refine gr_v (ev_shr rfl rfl rfl rfl rfl) ?_
  refine gr_v (ev_cv rfl ⟨_, Tryz.runUnderlying21⟩ Tryz.runUnderlying5 (w_lb _)) ?_
  refine gr_v (ev_ix (a' := o + 3) rfl rfl Tryz.runUnderlying69 Tryz.sizeOf5 (by omega) (by omega) rfl) ?_
  refine gr_st rfl rfl (by rfl) Tryz.sizeOf5 (by first | exact hk123) (row_blt (by (try simp only [List.length_set]); omega)) row_set ?_
  intro w4 hw4 hk123n
  have hk1234 := hk123n; clear hk123n
  refine gr_nil ?_
  refine gk_end0 Tryz.results345 ?_
  exact ⟨_, rfl, rfl, by rw [hw4, hw3, hw2, hw1, sb_sb, sb_sb, sb_sb]; rfl⟩

theorem c308 (n : Int) : WrOK 308 (.int .u64 n) (le8 n) := by
  intro w b o len cap ls hk hl ho
  simp only [le8, List.length_cons, List.length_nil, Nat.zero_add, Nat.reduceAdd] at hl ho
  refine cr_enter Tryz.func308 rfl Tryz.ntmps308 ?_
  refine gk_seq ?_
  refine gk_region ?_
  refine gr_v (ev_mv rfl) ?_
  refine gr_v (ev_ix (a' := o + 7) rfl rfl Tryz.runUnderlying69 Tryz.sizeOf5 (by omega) (by omega) rfl) ?_
  refine gr_v (ev_ld rfl Tryz.isAgg5 (by first | exact hk) (row_at (by (try simp only [List.length_set]); omega))) ?_
  refine gr_nil ?_
  refine gk_seq ?_
  refine gk_region ?_
  refine gr_v (ev_mv rfl) ?_
  refine gr_v (ev_mv rfl) ?_
  refine gr_v (ev_cv rfl ⟨_, Tryz.runUnderlying31⟩ Tryz.runUnderlying5 (w_lb _)) ?_
  refine gr_v (ev_ix (a' := o) rfl rfl Tryz.runUnderlying69 Tryz.sizeOf5 (by omega) (by omega) rfl) ?_
  refine gr_st rfl rfl (by rfl) Tryz.sizeOf5 (by first | exact hk) (row_blt (by (try simp only [List.length_set]); omega)) row_set ?_
  intro w1 hw1 hkn
  have hk1 := hkn; clear hkn
  refine gr_nil ?_
  refine gk_seq ?_
  refine gk_region ?_
  refine gr_v (ev_mv rfl) ?_
  refine gr_v (ev_mv rfl) ?_
  refine gr_v (ev_shr rfl rfl rfl rfl rfl) ?_
  refine gr_v (ev_cv rfl ⟨_, Tryz.runUnderlying31⟩ Tryz.runUnderlying5 (w_lb _)) ?_
  refine gr_v (ev_ix (a' := o + 1) rfl rfl Tryz.runUnderlying69 Tryz.sizeOf5 (by omega) (by omega) rfl) ?_
  refine gr_st rfl rfl (by rfl) Tryz.sizeOf5 (by first | exact hk1) (row_blt (by (try simp only [List.length_set]); omega)) row_set ?_
  intro w2 hw2 hk1n
  have hk12 := hk1n; clear hk1n
  refine gr_nil ?_
  refine gk_seq ?_
  refine gk_region ?_
  refine gr_v (ev_mv rfl) ?_
  refine gr_v (ev_mv rfl) ?_
  refine gr_v (ev_shr rfl rfl rfl rfl rfl) ?_
  refine gr_v (ev_cv rfl ⟨_, Tryz.runUnderlying31⟩ Tryz.runUnderlying5 (w_lb _)) ?_
  refine gr_v (ev_ix (a' := o + 2) rfl rfl Tryz.runUnderlying69 Tryz.sizeOf5 (by omega) (by omega) rfl) ?_
  refine gr_st rfl rfl (by rfl) Tryz.sizeOf5 (by first | exact hk12) (row_blt (by (try simp only [List.length_set]); omega)) row_set ?_
  intro w3 hw3 hk12n
  have hk123 := hk12n; clear hk12n
  refine gr_nil ?_
  refine gk_seq ?_
  refine gk_region ?_
  refine gr_v (ev_mv rfl) ?_
  refine gr_v (ev_mv rfl) ?_
  refine gr_v (ev_shr rfl rfl rfl rfl rfl) ?_
  refine gr_v (ev_cv rfl ⟨_, Tryz.runUnderlying31⟩ Tryz.runUnderlying5 (w_lb _)) ?_
  refine gr_v (ev_ix (a' := o + 3) rfl rfl Tryz.runUnderlying69 Tryz.sizeOf5 (by omega) (by omega) rfl) ?_
  refine gr_st rfl rfl (by rfl) Tryz.sizeOf5 (by first | exact hk123) (row_blt (by (try simp only [List.length_set]); omega)) row_set ?_
  intro w4 hw4 hk123n
  have hk1234 := hk123n; clear hk123n
  refine gr_nil ?_
  refine gk_seq ?_
  refine gk_region ?_
  refine gr_v (ev_mv rfl) ?_
  refine gr_v (ev_mv rfl) ?_
  refine gr_v (ev_shr rfl rfl rfl rfl rfl) ?_
  refine gr_v (ev_cv rfl ⟨_, Tryz.runUnderlying31⟩ Tryz.runUnderlying5 (w_lb _)) ?_
  refine gr_v (ev_ix (a' := o + 4) rfl rfl Tryz.runUnderlying69 Tryz.sizeOf5 (by omega) (by omega) rfl) ?_
  refine gr_st rfl rfl (by rfl) Tryz.sizeOf5 (by first | exact hk1234) (row_blt (by (try simp only [List.length_set]); omega)) row_set ?_
  intro w5 hw5 hk1234n
  have hk12345 := hk1234n; clear hk1234n
  refine gr_nil ?_
  refine gk_seq ?_
  refine gk_region ?_
  refine gr_v (ev_mv rfl) ?_
  refine gr_v (ev_mv rfl) ?_
  refine gr_v (ev_shr rfl rfl rfl rfl rfl) ?_
  refine gr_v (ev_cv rfl ⟨_, Tryz.runUnderlying31⟩ Tryz.runUnderlying5 (w_lb _)) ?_
  refine gr_v (ev_ix (a' := o + 5) rfl rfl Tryz.runUnderlying69 Tryz.sizeOf5 (by omega) (by omega) rfl) ?_
  refine gr_st rfl rfl (by rfl) Tryz.sizeOf5 (by first | exact hk12345) (row_blt (by (try simp only [List.length_set]); omega)) row_set ?_
  intro w6 hw6 hk12345n
  have hk123456 := hk12345n; clear hk12345n
  refine gr_nil ?_
  refine gk_seq ?_
  refine gk_region ?_
  refine gr_v (ev_mv rfl) ?_
  refine gr_v (ev_mv rfl) ?_
  refine gr_v (ev_shr rfl rfl rfl rfl rfl) ?_
  refine gr_v (ev_cv rfl ⟨_, Tryz.runUnderlying31⟩ Tryz.runUnderlying5 (w_lb _)) ?_
  refine gr_v (ev_ix (a' := o + 6) rfl rfl Tryz.runUnderlying69 Tryz.sizeOf5 (by omega) (by omega) rfl) ?_
  refine gr_st rfl rfl (by rfl) Tryz.sizeOf5 (by first | exact hk123456) (row_blt (by (try simp only [List.length_set]); omega)) row_set ?_
  intro w7 hw7 hk123456n
  have hk1234567 := hk123456n; clear hk123456n
  refine gr_nil ?_
  refine gk_region ?_
  refine gr_v (ev_mv rfl) ?_
  refine gr_v (ev_mv rfl) ?_
  refine gr_v (ev_shr rfl rfl rfl rfl rfl) ?_
  refine gr_v (ev_cv rfl ⟨_, Tryz.runUnderlying31⟩ Tryz.runUnderlying5 (w_lb _)) ?_
  refine gr_v (ev_ix (a' := o + 7) rfl rfl Tryz.runUnderlying69 Tryz.sizeOf5 (by omega) (by omega) rfl) ?_
  refine gr_st rfl rfl (by rfl) Tryz.sizeOf5 (by first | exact hk1234567) (row_blt (by (try simp only [List.length_set]); omega)) row_set ?_
  intro w8 hw8 hk1234567n
  have hk12345678 := hk1234567n; clear hk1234567n
  refine gr_nil ?_
  refine gk_end0 Tryz.results308 ?_
  exact ⟨_, rfl, rfl, by rw [hw8, hw7, hw6, hw5, hw4, hw3, hw2, hw1, sb_sb, sb_sb, sb_sb, sb_sb, sb_sb, sb_sb, sb_sb]; rfl⟩

theorem c306 (n : Int) : WrOK 306 (.int .i64 n) (le8 n) := by
  intro w b o len cap ls hk hl ho
  simp only [le8, List.length_cons, List.length_nil, Nat.zero_add, Nat.reduceAdd] at hl ho
  refine cr_enter Tryz.func306 rfl Tryz.ntmps306 ?_
  refine gk_seq ?_
  refine gk_region ?_
  refine gr_v (ev_mv rfl) ?_
  refine gr_v (ev_ix (a' := o + 7) rfl rfl Tryz.runUnderlying69 Tryz.sizeOf5 (by omega) (by omega) rfl) ?_
  refine gr_v (ev_ld rfl Tryz.isAgg5 (by first | exact hk) (row_at (by (try simp only [List.length_set]); omega))) ?_
  refine gr_nil ?_
  refine gk_seq ?_
  refine gk_region ?_
  refine gr_v (ev_mv rfl) ?_
  refine gr_v (ev_mv rfl) ?_
  refine gr_v (ev_cv rfl ⟨_, Tryz.runUnderlying2⟩ Tryz.runUnderlying5 (w_lb _)) ?_
  refine gr_v (ev_ix (a' := o) rfl rfl Tryz.runUnderlying69 Tryz.sizeOf5 (by omega) (by omega) rfl) ?_
  refine gr_st rfl rfl (by rfl) Tryz.sizeOf5 (by first | exact hk) (row_blt (by (try simp only [List.length_set]); omega)) row_set ?_
  intro w1 hw1 hkn
  have hk1 := hkn; clear hkn
  refine gr_nil ?_
  refine gk_seq ?_
  refine gk_region ?_
  refine gr_v (ev_mv rfl) ?_
  refine gr_v (ev_mv rfl) ?_
  refine gr_v (ev_shr rfl rfl rfl rfl rfl) ?_
  refine gr_v (ev_cv rfl ⟨_, Tryz.runUnderlying2⟩ Tryz.runUnderlying5 (w_lb _)) ?_
  refine gr_v (ev_ix (a' := o + 1) rfl rfl Tryz.runUnderlying69 Tryz.sizeOf5 (by omega) (by omega) rfl) ?_
  refine gr_st rfl rfl (by rfl) Tryz.sizeOf5 (by first | exact hk1) (row_blt (by (try simp only [List.length_set]); omega)) row_set ?_
  intro w2 hw2 hk1n
  have hk12 := hk1n; clear hk1n
  refine gr_nil ?_
  refine gk_seq ?_
  refine gk_region ?_
  refine gr_v (ev_mv rfl) ?_
  refine gr_v (ev_mv rfl) ?_
  refine gr_v (ev_shr rfl rfl rfl rfl rfl) ?_
  refine gr_v (ev_cv rfl ⟨_, Tryz.runUnderlying2⟩ Tryz.runUnderlying5 (w_lb _)) ?_
  refine gr_v (ev_ix (a' := o + 2) rfl rfl Tryz.runUnderlying69 Tryz.sizeOf5 (by omega) (by omega) rfl) ?_
  refine gr_st rfl rfl (by rfl) Tryz.sizeOf5 (by first | exact hk12) (row_blt (by (try simp only [List.length_set]); omega)) row_set ?_
  intro w3 hw3 hk12n
  have hk123 := hk12n; clear hk12n
  refine gr_nil ?_
  refine gk_seq ?_
  refine gk_region ?_
  refine gr_v (ev_mv rfl) ?_
  refine gr_v (ev_mv rfl) ?_
  refine gr_v (ev_shr rfl rfl rfl rfl rfl) ?_
  refine gr_v (ev_cv rfl ⟨_, Tryz.runUnderlying2⟩ Tryz.runUnderlying5 (w_lb _)) ?_
  refine gr_v (ev_ix (a' := o + 3) rfl rfl Tryz.runUnderlying69 Tryz.sizeOf5 (by omega) (by omega) rfl) ?_
  refine gr_st rfl rfl (by rfl) Tryz.sizeOf5 (by first | exact hk123) (row_blt (by (try simp only [List.length_set]); omega)) row_set ?_
  intro w4 hw4 hk123n
  have hk1234 := hk123n; clear hk123n
  refine gr_nil ?_
  refine gk_seq ?_
  refine gk_region ?_
  refine gr_v (ev_mv rfl) ?_
  refine gr_v (ev_mv rfl) ?_
  refine gr_v (ev_shr rfl rfl rfl rfl rfl) ?_
  refine gr_v (ev_cv rfl ⟨_, Tryz.runUnderlying2⟩ Tryz.runUnderlying5 (w_lb _)) ?_
  refine gr_v (ev_ix (a' := o + 4) rfl rfl Tryz.runUnderlying69 Tryz.sizeOf5 (by omega) (by omega) rfl) ?_
  refine gr_st rfl rfl (by rfl) Tryz.sizeOf5 (by first | exact hk1234) (row_blt (by (try simp only [List.length_set]); omega)) row_set ?_
  intro w5 hw5 hk1234n
  have hk12345 := hk1234n; clear hk1234n
  refine gr_nil ?_
  refine gk_seq ?_
  refine gk_region ?_
  refine gr_v (ev_mv rfl) ?_
  refine gr_v (ev_mv rfl) ?_
  refine gr_v (ev_shr rfl rfl rfl rfl rfl) ?_
  refine gr_v (ev_cv rfl ⟨_, Tryz.runUnderlying2⟩ Tryz.runUnderlying5 (w_lb _)) ?_
  refine gr_v (ev_ix (a' := o + 5) rfl rfl Tryz.runUnderlying69 Tryz.sizeOf5 (by omega) (by omega) rfl) ?_
  refine gr_st rfl rfl (by rfl) Tryz.sizeOf5 (by first | exact hk12345) (row_blt (by (try simp only [List.length_set]); omega)) row_set ?_
  intro w6 hw6 hk12345n
  have hk123456 := hk12345n; clear hk12345n
  refine gr_nil ?_
  refine gk_seq ?_
  refine gk_region ?_
  refine gr_v (ev_mv rfl) ?_
  refine gr_v (ev_mv rfl) ?_
  refine gr_v (ev_shr rfl rfl rfl rfl rfl) ?_
  refine gr_v (ev_cv rfl ⟨_, Tryz.runUnderlying2⟩ Tryz.runUnderlying5 (w_lb _)) ?_
  refine gr_v (ev_ix (a' := o + 6) rfl rfl Tryz.runUnderlying69 Tryz.sizeOf5 (by omega) (by omega) rfl) ?_
  refine gr_st rfl rfl (by rfl) Tryz.sizeOf5 (by first | exact hk123456) (row_blt (by (try simp only [List.length_set]); omega)) row_set ?_
  intro w7 hw7 hk123456n
  have hk1234567 := hk123456n; clear hk123456n
  refine gr_nil ?_
  refine gk_region ?_
  refine gr_v (ev_mv rfl) ?_
  refine gr_v (ev_mv rfl) ?_
  refine gr_v (ev_shr rfl rfl rfl rfl rfl) ?_
  refine gr_v (ev_cv rfl ⟨_, Tryz.runUnderlying2⟩ Tryz.runUnderlying5 (w_lb _)) ?_
  refine gr_v (ev_ix (a' := o + 7) rfl rfl Tryz.runUnderlying69 Tryz.sizeOf5 (by omega) (by omega) rfl) ?_
  refine gr_st rfl rfl (by rfl) Tryz.sizeOf5 (by first | exact hk1234567) (row_blt (by (try simp only [List.length_set]); omega)) row_set ?_
  intro w8 hw8 hk1234567n
  have hk12345678 := hk1234567n; clear hk1234567n
  refine gr_nil ?_
  refine gk_end0 Tryz.results306 ?_
  exact ⟨_, rfl, rfl, by rw [hw8, hw7, hw6, hw5, hw4, hw3, hw2, hw1, sb_sb, sb_sb, sb_sb, sb_sb, sb_sb, sb_sb, sb_sb]; rfl⟩

end Go.Proofs.YtjaplgfgkigmiaaGreat