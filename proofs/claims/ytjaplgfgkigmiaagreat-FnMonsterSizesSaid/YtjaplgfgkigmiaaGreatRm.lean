/-
  A monster's methods, at the bytes of one packed monster.
-/
import Derived.Test.YtjaplgfgkigmiaaGreatRa
namespace Go.Proofs.YtjaplgfgkigmiaaGreat
open Go Go.Proofs


theorem m143 {rb kb : Nat} {w : World} (h : Orc rb kb w) : CR Tryz.prog 143 #[ptr rb] w (fun v w' => v = .int .i16 150 ∧ w'.heap = w.heap) := by
  refine cr_enter Tryz.func143 rfl Tryz.ntmps143 ?_
  refine gk_seq ?_
  refine gk_region ?_
  refine gr_v (ev_as rfl) ?_
  refine gr_nil ?_
  refine gk_seq ?_
  refine gk_region ?_
  refine gr_v (ev_mv rfl) ?_
  refine gr_v (ev_nil rfl) ?_
  refine gr_v (ev_fa (j := 0) rfl Tryz.runUnderlying208 rfl Tryz.sizeOf200 rfl rfl) ?_
  refine gr_call (ec_func Tryz.call268 rfl) (t268 (vo := 6) (r := 0) h (by decide) (by kernel_rfl)) ?_
  rintro _ w1 ⟨rfl, hh⟩
  have h1 := h.same hh
  refine gr_v (ev_cv (r := 0) rfl ⟨_, Tryz.runUnderlying255⟩ Tryz.runUnderlying65 (by decide)) ?_
  refine gr_v (ev_as rfl) ?_
  refine gr_nil ?_
  refine gk_seq ?_
  refine gk_seq ?_
  refine gk_region ?_
  refine gr_v (ev_mv rfl) ?_
  refine gr_bb (b' := false) (ev_neq rfl rfl) (by decide) ?_
  refine gr_nil ?_
  refine gk_false rfl rfl ?_
  refine gk_skip ?_
  refine gk_seq ?_
  refine gk_region ?_
  refine gr_v (ev_as rfl) ?_
  refine gr_nil ?_
  refine gk_ret1 Tryz.results143 rfl ?_
  exact ⟨_, rfl, rfl, hh⟩

theorem m147 {rb kb : Nat} {w : World} (h : Orc rb kb w) : CR Tryz.prog 147 #[ptr rb] w (fun v w' => v = .bool false ∧ w'.heap = w.heap) := by
  refine cr_enter Tryz.func147 rfl Tryz.ntmps147 ?_
  refine gk_seq ?_
  refine gk_region ?_
  refine gr_v (ev_as rfl) ?_
  refine gr_nil ?_
  refine gk_seq ?_
  refine gk_region ?_
  refine gr_v (ev_mv rfl) ?_
  refine gr_v (ev_nil rfl) ?_
  refine gr_v (ev_fa (j := 0) rfl Tryz.runUnderlying208 rfl Tryz.sizeOf200 rfl rfl) ?_
  refine gr_call (ec_func Tryz.call268 rfl) (t268 (vo := 34) (r := 0) h (by decide) (by kernel_rfl)) ?_
  rintro _ w1 ⟨rfl, hh⟩
  have h1 := h.same hh
  refine gr_v (ev_cv (r := 0) rfl ⟨_, Tryz.runUnderlying255⟩ Tryz.runUnderlying65 (by decide)) ?_
  refine gr_v (ev_as rfl) ?_
  refine gr_nil ?_
  refine gk_seq ?_
  refine gk_seq ?_
  refine gk_region ?_
  refine gr_v (ev_mv rfl) ?_
  refine gr_bb (b' := false) (ev_neq rfl rfl) (by decide) ?_
  refine gr_nil ?_
  refine gk_false rfl rfl ?_
  refine gk_skip ?_
  refine gk_seq ?_
  refine gk_region ?_
  refine gr_v (ev_as rfl) ?_
  refine gr_nil ?_
  refine gk_ret1 Tryz.results147 rfl ?_
  exact ⟨_, rfl, rfl, hh⟩

theorem m148 {rb kb : Nat} {w : World} (h : Orc rb kb w) : CR Tryz.prog 148 #[ptr rb] w (fun v w' => v = .int .i32 0 ∧ w'.heap = w.heap) := by
  refine cr_enter Tryz.func148 rfl Tryz.ntmps148 ?_
  refine gk_seq ?_
  refine gk_region ?_
  refine gr_v (ev_as rfl) ?_
  refine gr_nil ?_
  refine gk_seq ?_
  refine gk_region ?_
  refine gr_v (ev_mv rfl) ?_
  refine gr_v (ev_nil rfl) ?_
  refine gr_v (ev_fa (j := 0) rfl Tryz.runUnderlying208 rfl Tryz.sizeOf200 rfl rfl) ?_
  refine gr_call (ec_func Tryz.call268 rfl) (t268 (vo := 36) (r := 0) h (by decide) (by kernel_rfl)) ?_
  rintro _ w1 ⟨rfl, hh⟩
  have h1 := h.same hh
  refine gr_v (ev_cv (r := 0) rfl ⟨_, Tryz.runUnderlying255⟩ Tryz.runUnderlying65 (by decide)) ?_
  refine gr_v (ev_as rfl) ?_
  refine gr_nil ?_
  refine gk_seq ?_
  refine gk_seq ?_
  refine gk_region ?_
  refine gr_v (ev_mv rfl) ?_
  refine gr_bb (b' := false) (ev_neq rfl rfl) (by decide) ?_
  refine gr_nil ?_
  refine gk_false rfl rfl ?_
  refine gk_skip ?_
  refine gk_seq ?_
  refine gk_region ?_
  refine gr_v (ev_as rfl) ?_
  refine gr_nil ?_
  refine gk_ret1 Tryz.results148 rfl ?_
  exact ⟨_, rfl, rfl, hh⟩

theorem m149 {rb kb : Nat} {w : World} (h : Orc rb kb w) : CR Tryz.prog 149 #[ptr rb] w (fun v w' => v = .int .u32 0 ∧ w'.heap = w.heap) := by
  refine cr_enter Tryz.func149 rfl Tryz.ntmps149 ?_
  refine gk_seq ?_
  refine gk_region ?_
  refine gr_v (ev_as rfl) ?_
  refine gr_nil ?_
  refine gk_seq ?_
  refine gk_region ?_
  refine gr_v (ev_mv rfl) ?_
  refine gr_v (ev_nil rfl) ?_
  refine gr_v (ev_fa (j := 0) rfl Tryz.runUnderlying208 rfl Tryz.sizeOf200 rfl rfl) ?_
  refine gr_call (ec_func Tryz.call268 rfl) (t268 (vo := 38) (r := 0) h (by decide) (by kernel_rfl)) ?_
  rintro _ w1 ⟨rfl, hh⟩
  have h1 := h.same hh
  refine gr_v (ev_cv (r := 0) rfl ⟨_, Tryz.runUnderlying255⟩ Tryz.runUnderlying65 (by decide)) ?_
  refine gr_v (ev_as rfl) ?_
  refine gr_nil ?_
  refine gk_seq ?_
  refine gk_seq ?_
  refine gk_region ?_
  refine gr_v (ev_mv rfl) ?_
  refine gr_bb (b' := false) (ev_neq rfl rfl) (by decide) ?_
  refine gr_nil ?_
  refine gk_false rfl rfl ?_
  refine gk_skip ?_
  refine gk_seq ?_
  refine gk_region ?_
  refine gr_v (ev_as rfl) ?_
  refine gr_nil ?_
  refine gk_ret1 Tryz.results149 rfl ?_
  exact ⟨_, rfl, rfl, hh⟩

theorem m150 {rb kb : Nat} {w : World} (h : Orc rb kb w) : CR Tryz.prog 150 #[ptr rb] w (fun v w' => v = .int .i64 0 ∧ w'.heap = w.heap) := by
  refine cr_enter Tryz.func150 rfl Tryz.ntmps150 ?_
  refine gk_seq ?_
  refine gk_region ?_
  refine gr_v (ev_as rfl) ?_
  refine gr_nil ?_
  refine gk_seq ?_
  refine gk_region ?_
  refine gr_v (ev_mv rfl) ?_
  refine gr_v (ev_nil rfl) ?_
  refine gr_v (ev_fa (j := 0) rfl Tryz.runUnderlying208 rfl Tryz.sizeOf200 rfl rfl) ?_
  refine gr_call (ec_func Tryz.call268 rfl) (t268 (vo := 40) (r := 0) h (by decide) (by kernel_rfl)) ?_
  rintro _ w1 ⟨rfl, hh⟩
  have h1 := h.same hh
  refine gr_v (ev_cv (r := 0) rfl ⟨_, Tryz.runUnderlying255⟩ Tryz.runUnderlying65 (by decide)) ?_
  refine gr_v (ev_as rfl) ?_
  refine gr_nil ?_
  refine gk_seq ?_
  refine gk_seq ?_
  refine gk_region ?_
  refine gr_v (ev_mv rfl) ?_
  refine gr_bb (b' := false) (ev_neq rfl rfl) (by decide) ?_
  refine gr_nil ?_
  refine gk_false rfl rfl ?_
  refine gk_skip ?_
  refine gk_seq ?_
  refine gk_region ?_
  refine gr_v (ev_as rfl) ?_
  refine gr_nil ?_
  refine gk_ret1 Tryz.results150 rfl ?_
  exact ⟨_, rfl, rfl, hh⟩

theorem m151 {rb kb : Nat} {w : World} (h : Orc rb kb w) : CR Tryz.prog 151 #[ptr rb] w (fun v w' => v = .int .u64 0 ∧ w'.heap = w.heap) := by
  refine cr_enter Tryz.func151 rfl Tryz.ntmps151 ?_
  refine gk_seq ?_
  refine gk_region ?_
  refine gr_v (ev_as rfl) ?_
  refine gr_nil ?_
  refine gk_seq ?_
  refine gk_region ?_
  refine gr_v (ev_mv rfl) ?_
  refine gr_v (ev_nil rfl) ?_
  refine gr_v (ev_fa (j := 0) rfl Tryz.runUnderlying208 rfl Tryz.sizeOf200 rfl rfl) ?_
  refine gr_call (ec_func Tryz.call268 rfl) (t268 (vo := 42) (r := 0) h (by decide) (by kernel_rfl)) ?_
  rintro _ w1 ⟨rfl, hh⟩
  have h1 := h.same hh
  refine gr_v (ev_cv (r := 0) rfl ⟨_, Tryz.runUnderlying255⟩ Tryz.runUnderlying65 (by decide)) ?_
  refine gr_v (ev_as rfl) ?_
  refine gr_nil ?_
  refine gk_seq ?_
  refine gk_seq ?_
  refine gk_region ?_
  refine gr_v (ev_mv rfl) ?_
  refine gr_bb (b' := false) (ev_neq rfl rfl) (by decide) ?_
  refine gr_nil ?_
  refine gk_false rfl rfl ?_
  refine gk_skip ?_
  refine gk_seq ?_
  refine gk_region ?_
  refine gr_v (ev_as rfl) ?_
  refine gr_nil ?_
  refine gk_ret1 Tryz.results151 rfl ?_
  exact ⟨_, rfl, rfl, hh⟩

theorem m152 {rb kb : Nat} {w : World} (h : Orc rb kb w) : CR Tryz.prog 152 #[ptr rb] w (fun v w' => v = .int .i32 0 ∧ w'.heap = w.heap) := by
  refine cr_enter Tryz.func152 rfl Tryz.ntmps152 ?_
  refine gk_seq ?_
  refine gk_region ?_
  refine gr_v (ev_as rfl) ?_
  refine gr_nil ?_
  refine gk_seq ?_
  refine gk_region ?_
  refine gr_v (ev_mv rfl) ?_
  refine gr_v (ev_nil rfl) ?_
  refine gr_v (ev_fa (j := 0) rfl Tryz.runUnderlying208 rfl Tryz.sizeOf200 rfl rfl) ?_
  refine gr_call (ec_func Tryz.call268 rfl) (t268 (vo := 44) (r := 0) h (by decide) (by kernel_rfl)) ?_
  rintro _ w1 ⟨rfl, hh⟩
  have h1 := h.same hh
  refine gr_v (ev_cv (r := 0) rfl ⟨_, Tryz.runUnderlying255⟩ Tryz.runUnderlying65 (by decide)) ?_
  refine gr_v (ev_as rfl) ?_
  refine gr_nil ?_
  refine gk_seq ?_
  refine gk_seq ?_
  refine gk_region ?_
  refine gr_v (ev_mv rfl) ?_
  refine gr_bb (b' := false) (ev_neq rfl rfl) (by decide) ?_
  refine gr_nil ?_
  refine gk_false rfl rfl ?_
  refine gk_skip ?_
  refine gk_seq ?_
  refine gk_region ?_
  refine gr_v (ev_as rfl) ?_
  refine gr_nil ?_
  refine gk_ret1 Tryz.results152 rfl ?_
  exact ⟨_, rfl, rfl, hh⟩

theorem m153 {rb kb : Nat} {w : World} (h : Orc rb kb w) : CR Tryz.prog 153 #[ptr rb] w (fun v w' => v = .int .u32 0 ∧ w'.heap = w.heap) := by
  refine cr_enter Tryz.func153 rfl Tryz.ntmps153 ?_
  refine gk_seq ?_
  refine gk_region ?_
  refine gr_v (ev_as rfl) ?_
  refine gr_nil ?_
  refine gk_seq ?_
  refine gk_region ?_
  refine gr_v (ev_mv rfl) ?_
  refine gr_v (ev_nil rfl) ?_
  refine gr_v (ev_fa (j := 0) rfl Tryz.runUnderlying208 rfl Tryz.sizeOf200 rfl rfl) ?_
  refine gr_call (ec_func Tryz.call268 rfl) (t268 (vo := 46) (r := 0) h (by decide) (by kernel_rfl)) ?_
  rintro _ w1 ⟨rfl, hh⟩
  have h1 := h.same hh
  refine gr_v (ev_cv (r := 0) rfl ⟨_, Tryz.runUnderlying255⟩ Tryz.runUnderlying65 (by decide)) ?_
  refine gr_v (ev_as rfl) ?_
  refine gr_nil ?_
  refine gk_seq ?_
  refine gk_seq ?_
  refine gk_region ?_
  refine gr_v (ev_mv rfl) ?_
  refine gr_bb (b' := false) (ev_neq rfl rfl) (by decide) ?_
  refine gr_nil ?_
  refine gk_false rfl rfl ?_
  refine gk_skip ?_
  refine gk_seq ?_
  refine gk_region ?_
  refine gr_v (ev_as rfl) ?_
  refine gr_nil ?_
  refine gk_ret1 Tryz.results153 rfl ?_
  exact ⟨_, rfl, rfl, hh⟩

theorem m154 {rb kb : Nat} {w : World} (h : Orc rb kb w) : CR Tryz.prog 154 #[ptr rb] w (fun v w' => v = .int .i64 0 ∧ w'.heap = w.heap) := by
  refine cr_enter Tryz.func154 rfl Tryz.ntmps154 ?_
  refine gk_seq ?_
  refine gk_region ?_
  refine gr_v (ev_as rfl) ?_
  refine gr_nil ?_
  refine gk_seq ?_
  refine gk_region ?_
  refine gr_v (ev_mv rfl) ?_
  refine gr_v (ev_nil rfl) ?_
  refine gr_v (ev_fa (j := 0) rfl Tryz.runUnderlying208 rfl Tryz.sizeOf200 rfl rfl) ?_
  refine gr_call (ec_func Tryz.call268 rfl) (t268 (vo := 48) (r := 0) h (by decide) (by kernel_rfl)) ?_
  rintro _ w1 ⟨rfl, hh⟩
  have h1 := h.same hh
  refine gr_v (ev_cv (r := 0) rfl ⟨_, Tryz.runUnderlying255⟩ Tryz.runUnderlying65 (by decide)) ?_
  refine gr_v (ev_as rfl) ?_
  refine gr_nil ?_
  refine gk_seq ?_
  refine gk_seq ?_
  refine gk_region ?_
  refine gr_v (ev_mv rfl) ?_
  refine gr_bb (b' := false) (ev_neq rfl rfl) (by decide) ?_
  refine gr_nil ?_
  refine gk_false rfl rfl ?_
  refine gk_skip ?_
  refine gk_seq ?_
  refine gk_region ?_
  refine gr_v (ev_as rfl) ?_
  refine gr_nil ?_
  refine gk_ret1 Tryz.results154 rfl ?_
  exact ⟨_, rfl, rfl, hh⟩

theorem m155 {rb kb : Nat} {w : World} (h : Orc rb kb w) : CR Tryz.prog 155 #[ptr rb] w (fun v w' => v = .int .u64 0 ∧ w'.heap = w.heap) := by
  refine cr_enter Tryz.func155 rfl Tryz.ntmps155 ?_
  refine gk_seq ?_
  refine gk_region ?_
  refine gr_v (ev_as rfl) ?_
  refine gr_nil ?_
  refine gk_seq ?_
  refine gk_region ?_
  refine gr_v (ev_mv rfl) ?_
  refine gr_v (ev_nil rfl) ?_
  refine gr_v (ev_fa (j := 0) rfl Tryz.runUnderlying208 rfl Tryz.sizeOf200 rfl rfl) ?_
  refine gr_call (ec_func Tryz.call268 rfl) (t268 (vo := 50) (r := 0) h (by decide) (by kernel_rfl)) ?_
  rintro _ w1 ⟨rfl, hh⟩
  have h1 := h.same hh
  refine gr_v (ev_cv (r := 0) rfl ⟨_, Tryz.runUnderlying255⟩ Tryz.runUnderlying65 (by decide)) ?_
  refine gr_v (ev_as rfl) ?_
  refine gr_nil ?_
  refine gk_seq ?_
  refine gk_seq ?_
  refine gk_region ?_
  refine gr_v (ev_mv rfl) ?_
  refine gr_bb (b' := false) (ev_neq rfl rfl) (by decide) ?_
  refine gr_nil ?_
  refine gk_false rfl rfl ?_
  refine gk_skip ?_
  refine gk_seq ?_
  refine gk_region ?_
  refine gr_v (ev_as rfl) ?_
  refine gr_nil ?_
  refine gk_ret1 Tryz.results155 rfl ?_
  exact ⟨_, rfl, rfl, hh⟩

theorem m159 {rb kb : Nat} {w : World} (h : Orc rb kb w) : CR Tryz.prog 159 #[ptr rb] w (fun v w' => v = .float .f32 0 ∧ w'.heap = w.heap) := by
  refine cr_enter Tryz.func159 rfl Tryz.ntmps159 ?_
  refine gk_seq ?_
  refine gk_region ?_
  refine gr_v (ev_as rfl) ?_
  refine gr_nil ?_
  refine gk_seq ?_
  refine gk_region ?_
  refine gr_v (ev_mv rfl) ?_
  refine gr_v (ev_nil rfl) ?_
  refine gr_v (ev_fa (j := 0) rfl Tryz.runUnderlying208 rfl Tryz.sizeOf200 rfl rfl) ?_
  refine gr_call (ec_func Tryz.call268 rfl) (t268 (vo := 58) (r := 0) h (by decide) (by kernel_rfl)) ?_
  rintro _ w1 ⟨rfl, hh⟩
  have h1 := h.same hh
  refine gr_v (ev_cv (r := 0) rfl ⟨_, Tryz.runUnderlying255⟩ Tryz.runUnderlying65 (by decide)) ?_
  refine gr_v (ev_as rfl) ?_
  refine gr_nil ?_
  refine gk_seq ?_
  refine gk_seq ?_
  refine gk_region ?_
  refine gr_v (ev_mv rfl) ?_
  refine gr_bb (b' := false) (ev_neq rfl rfl) (by decide) ?_
  refine gr_nil ?_
  refine gk_false rfl rfl ?_
  refine gk_skip ?_
  refine gk_seq ?_
  refine gk_region ?_
  refine gr_v (ev_as rfl) ?_
  refine gr_nil ?_
  refine gk_ret1 Tryz.results159 rfl ?_
  exact ⟨_, rfl, rfl, hh⟩

theorem m160 {rb kb : Nat} {w : World} (h : Orc rb kb w) (y : Value) : CR Tryz.prog 160 #[ptr rb, y] w (fun v w' => v = .pointer none ∧ w'.heap = w.heap) := by
  refine cr_enter Tryz.func160 rfl Tryz.ntmps160 ?_
  refine gk_seq ?_
  refine gk_region ?_
  refine gr_v (ev_as rfl) ?_
  refine gr_nil ?_
  refine gk_seq ?_
  refine gk_region ?_
  refine gr_v (ev_mv rfl) ?_
  refine gr_v (ev_nil rfl) ?_
  refine gr_v (ev_fa (j := 0) rfl Tryz.runUnderlying208 rfl Tryz.sizeOf200 rfl rfl) ?_
  refine gr_call (ec_func Tryz.call268 rfl) (t268 (vo := 72) (r := 0) h (by decide) (by kernel_rfl)) ?_
  rintro _ w1 ⟨rfl, hh⟩
  have h1 := h.same hh
  refine gr_v (ev_cv (r := 0) rfl ⟨_, Tryz.runUnderlying255⟩ Tryz.runUnderlying65 (by decide)) ?_
  refine gr_v (ev_as rfl) ?_
  refine gr_nil ?_
  refine gk_seq ?_
  refine gk_seq ?_
  refine gk_region ?_
  refine gr_v (ev_mv rfl) ?_
  refine gr_bb (b' := false) (ev_neq rfl rfl) (by decide) ?_
  refine gr_nil ?_
  refine gk_false rfl rfl ?_
  refine gk_skip ?_
  refine gk_seq ?_
  refine gk_region ?_
  refine gr_v (ev_as rfl) ?_
  refine gr_nil ?_
  refine gk_ret1 Tryz.results160 rfl ?_
  exact ⟨_, rfl, rfl, hh⟩

theorem m161 {rb kb : Nat} {w : World} (h : Orc rb kb w) : CR Tryz.prog 161 #[ptr rb] w (fun v w' => v = .int .u64 0 ∧ w'.heap = w.heap) := by
  refine cr_enter Tryz.func161 rfl Tryz.ntmps161 ?_
  refine gk_seq ?_
  refine gk_region ?_
  refine gr_v (ev_as rfl) ?_
  refine gr_nil ?_
  refine gk_seq ?_
  refine gk_region ?_
  refine gr_v (ev_mv rfl) ?_
  refine gr_v (ev_nil rfl) ?_
  refine gr_v (ev_fa (j := 0) rfl Tryz.runUnderlying208 rfl Tryz.sizeOf200 rfl rfl) ?_
  refine gr_call (ec_func Tryz.call268 rfl) (t268 (vo := 76) (r := 0) h (by decide) (by kernel_rfl)) ?_
  rintro _ w1 ⟨rfl, hh⟩
  have h1 := h.same hh
  refine gr_v (ev_cv (r := 0) rfl ⟨_, Tryz.runUnderlying255⟩ Tryz.runUnderlying65 (by decide)) ?_
  refine gr_v (ev_as rfl) ?_
  refine gr_nil ?_
  refine gk_seq ?_
  refine gk_seq ?_
  refine gk_region ?_
  refine gr_v (ev_mv rfl) ?_
  refine gr_bb (b' := false) (ev_neq rfl rfl) (by decide) ?_
  refine gr_nil ?_
  refine gk_false rfl rfl ?_
  refine gk_skip ?_
  refine gk_seq ?_
  refine gk_region ?_
  refine gr_v (ev_as rfl) ?_
  refine gr_nil ?_
  refine gk_ret1 Tryz.results161 rfl ?_
  exact ⟨_, rfl, rfl, hh⟩

theorem m162 {rb kb : Nat} {w : World} (h : Orc rb kb w) : CR Tryz.prog 162 #[ptr rb] w (fun v w' => v = .int .u64 0 ∧ w'.heap = w.heap) := by
  refine cr_enter Tryz.func162 rfl Tryz.ntmps162 ?_
  refine gk_seq ?_
  refine gk_region ?_
  refine gr_v (ev_as rfl) ?_
  refine gr_nil ?_
  refine gk_seq ?_
  refine gk_region ?_
  refine gr_v (ev_mv rfl) ?_
  refine gr_v (ev_nil rfl) ?_
  refine gr_v (ev_fa (j := 0) rfl Tryz.runUnderlying208 rfl Tryz.sizeOf200 rfl rfl) ?_
  refine gr_call (ec_func Tryz.call268 rfl) (t268 (vo := 82) (r := 0) h (by decide) (by kernel_rfl)) ?_
  rintro _ w1 ⟨rfl, hh⟩
  have h1 := h.same hh
  refine gr_v (ev_cv (r := 0) rfl ⟨_, Tryz.runUnderlying255⟩ Tryz.runUnderlying65 (by decide)) ?_
  refine gr_v (ev_as rfl) ?_
  refine gr_nil ?_
  refine gk_seq ?_
  refine gk_seq ?_
  refine gk_region ?_
  refine gr_v (ev_mv rfl) ?_
  refine gr_bb (b' := false) (ev_neq rfl rfl) (by decide) ?_
  refine gr_nil ?_
  refine gk_false rfl rfl ?_
  refine gk_skip ?_
  refine gk_seq ?_
  refine gk_region ?_
  refine gr_v (ev_as rfl) ?_
  refine gr_nil ?_
  refine gk_ret1 Tryz.results162 rfl ?_
  exact ⟨_, rfl, rfl, hh⟩

theorem m163 {rb kb : Nat} {w : World} (h : Orc rb kb w) : CR Tryz.prog 163 #[ptr rb] w (fun v w' => v = .int .u64 0 ∧ w'.heap = w.heap) := by
  refine cr_enter Tryz.func163 rfl Tryz.ntmps163 ?_
  refine gk_seq ?_
  refine gk_region ?_
  refine gr_v (ev_as rfl) ?_
  refine gr_nil ?_
  refine gk_seq ?_
  refine gk_region ?_
  refine gr_v (ev_mv rfl) ?_
  refine gr_v (ev_nil rfl) ?_
  refine gr_v (ev_fa (j := 0) rfl Tryz.runUnderlying208 rfl Tryz.sizeOf200 rfl rfl) ?_
  refine gr_call (ec_func Tryz.call268 rfl) (t268 (vo := 86) (r := 0) h (by decide) (by kernel_rfl)) ?_
  rintro _ w1 ⟨rfl, hh⟩
  have h1 := h.same hh
  refine gr_v (ev_cv (r := 0) rfl ⟨_, Tryz.runUnderlying255⟩ Tryz.runUnderlying65 (by decide)) ?_
  refine gr_v (ev_as rfl) ?_
  refine gr_nil ?_
  refine gk_seq ?_
  refine gk_seq ?_
  refine gk_region ?_
  refine gr_v (ev_mv rfl) ?_
  refine gr_bb (b' := false) (ev_neq rfl rfl) (by decide) ?_
  refine gr_nil ?_
  refine gk_false rfl rfl ?_
  refine gk_skip ?_
  refine gk_seq ?_
  refine gk_region ?_
  refine gr_v (ev_as rfl) ?_
  refine gr_nil ?_
  refine gk_ret1 Tryz.results163 rfl ?_
  exact ⟨_, rfl, rfl, hh⟩

theorem m165 {rb kb : Nat} {w : World} (h : Orc rb kb w) (y : Value) : CR Tryz.prog 165 #[ptr rb, y] w (fun v w' => v = .pointer none ∧ w'.heap = w.heap) := by
  refine cr_enter Tryz.func165 rfl Tryz.ntmps165 ?_
  refine gk_seq ?_
  refine gk_region ?_
  refine gr_v (ev_as rfl) ?_
  refine gr_nil ?_
  refine gk_seq ?_
  refine gk_region ?_
  refine gr_v (ev_mv rfl) ?_
  refine gr_v (ev_nil rfl) ?_
  refine gr_v (ev_fa (j := 0) rfl Tryz.runUnderlying208 rfl Tryz.sizeOf200 rfl rfl) ?_
  refine gr_call (ec_func Tryz.call268 rfl) (t268 (vo := 4) (r := 0) h (by decide) (by kernel_rfl)) ?_
  rintro _ w1 ⟨rfl, hh⟩
  have h1 := h.same hh
  refine gr_v (ev_cv (r := 0) rfl ⟨_, Tryz.runUnderlying255⟩ Tryz.runUnderlying65 (by decide)) ?_
  refine gr_v (ev_as rfl) ?_
  refine gr_nil ?_
  refine gk_seq ?_
  refine gk_seq ?_
  refine gk_region ?_
  refine gr_v (ev_mv rfl) ?_
  refine gr_bb (b' := false) (ev_neq rfl rfl) (by decide) ?_
  refine gr_nil ?_
  refine gk_false rfl rfl ?_
  refine gk_skip ?_
  refine gk_seq ?_
  refine gk_region ?_
  refine gr_v (ev_as rfl) ?_
  refine gr_nil ?_
  refine gk_ret1 Tryz.results165 rfl ?_
  exact ⟨_, rfl, rfl, hh⟩

theorem m183 {rb kb : Nat} {w : World} (h : Orc rb kb w) (y : Value) : CR Tryz.prog 183 #[ptr rb, y] w (fun v w' => v = .pointer none ∧ w'.heap = w.heap) := by
  refine cr_enter Tryz.func183 rfl Tryz.ntmps183 ?_
  refine gk_seq ?_
  refine gk_region ?_
  refine gr_v (ev_as rfl) ?_
  refine gr_nil ?_
  refine gk_seq ?_
  refine gk_region ?_
  refine gr_v (ev_mv rfl) ?_
  refine gr_v (ev_nil rfl) ?_
  refine gr_v (ev_fa (j := 0) rfl Tryz.runUnderlying208 rfl Tryz.sizeOf200 rfl rfl) ?_
  refine gr_call (ec_func Tryz.call268 rfl) (t268 (vo := 28) (r := 0) h (by decide) (by kernel_rfl)) ?_
  rintro _ w1 ⟨rfl, hh⟩
  have h1 := h.same hh
  refine gr_v (ev_cv (r := 0) rfl ⟨_, Tryz.runUnderlying255⟩ Tryz.runUnderlying65 (by decide)) ?_
  refine gr_v (ev_as rfl) ?_
  refine gr_nil ?_
  refine gk_seq ?_
  refine gk_seq ?_
  refine gk_region ?_
  refine gr_v (ev_mv rfl) ?_
  refine gr_bb (b' := false) (ev_neq rfl rfl) (by decide) ?_
  refine gr_nil ?_
  refine gk_false rfl rfl ?_
  refine gk_skip ?_
  refine gk_seq ?_
  refine gk_region ?_
  refine gr_v (ev_as rfl) ?_
  refine gr_nil ?_
  refine gk_ret1 Tryz.results183 rfl ?_
  exact ⟨_, rfl, rfl, hh⟩

theorem m186 {rb kb : Nat} {w : World} (h : Orc rb kb w) (y : Value) : CR Tryz.prog 186 #[ptr rb, y] w (fun v w' => v = .pointer none ∧ w'.heap = w.heap) := by
  refine cr_enter Tryz.func186 rfl Tryz.ntmps186 ?_
  refine gk_seq ?_
  refine gk_region ?_
  refine gr_v (ev_as rfl) ?_
  refine gr_nil ?_
  refine gk_seq ?_
  refine gk_region ?_
  refine gr_v (ev_mv rfl) ?_
  refine gr_v (ev_nil rfl) ?_
  refine gr_v (ev_fa (j := 0) rfl Tryz.runUnderlying208 rfl Tryz.sizeOf200 rfl rfl) ?_
  refine gr_call (ec_func Tryz.call268 rfl) (t268 (vo := 32) (r := 0) h (by decide) (by kernel_rfl)) ?_
  rintro _ w1 ⟨rfl, hh⟩
  have h1 := h.same hh
  refine gr_v (ev_cv (r := 0) rfl ⟨_, Tryz.runUnderlying255⟩ Tryz.runUnderlying65 (by decide)) ?_
  refine gr_v (ev_as rfl) ?_
  refine gr_nil ?_
  refine gk_seq ?_
  refine gk_seq ?_
  refine gk_region ?_
  refine gr_v (ev_mv rfl) ?_
  refine gr_bb (b' := false) (ev_neq rfl rfl) (by decide) ?_
  refine gr_nil ?_
  refine gk_false rfl rfl ?_
  refine gk_skip ?_
  refine gk_seq ?_
  refine gk_region ?_
  refine gr_v (ev_as rfl) ?_
  refine gr_nil ?_
  refine gk_ret1 Tryz.results186 rfl ?_
  exact ⟨_, rfl, rfl, hh⟩

theorem m175 {rb kb : Nat} {w : World} (h : Orc rb kb w) : CR Tryz.prog 175 #[ptr rb] w (fun v w' => v = .int .i64 0 ∧ w'.heap = w.heap) := by
  refine cr_enter Tryz.func175 rfl Tryz.ntmps175 ?_
  refine gk_seq ?_
  refine gk_region ?_
  refine gr_v (ev_as rfl) ?_
  refine gr_nil ?_
  refine gk_seq ?_
  refine gk_region ?_
  refine gr_v (ev_mv rfl) ?_
  refine gr_v (ev_nil rfl) ?_
  refine gr_v (ev_fa (j := 0) rfl Tryz.runUnderlying208 rfl Tryz.sizeOf200 rfl rfl) ?_
  refine gr_call (ec_func Tryz.call268 rfl) (t268 (vo := 14) (r := 0) h (by decide) (by kernel_rfl)) ?_
  rintro _ w1 ⟨rfl, hh⟩
  have h1 := h.same hh
  refine gr_v (ev_cv (r := 0) rfl ⟨_, Tryz.runUnderlying255⟩ Tryz.runUnderlying65 (by decide)) ?_
  refine gr_v (ev_as rfl) ?_
  refine gr_nil ?_
  refine gk_seq ?_
  refine gk_seq ?_
  refine gk_region ?_
  refine gr_v (ev_mv rfl) ?_
  refine gr_bb (b' := false) (ev_neq rfl rfl) (by decide) ?_
  refine gr_nil ?_
  refine gk_false rfl rfl ?_
  refine gk_skip ?_
  refine gk_seq ?_
  refine gk_region ?_
  refine gr_v (ev_as rfl) ?_
  refine gr_nil ?_
  refine gk_ret1 Tryz.results175 rfl ?_
  exact ⟨_, rfl, rfl, hh⟩

theorem m177 {rb kb : Nat} {w : World} (h : Orc rb kb w) : CR Tryz.prog 177 #[ptr rb] w (fun v w' => v = .int .i64 0 ∧ w'.heap = w.heap) := by
  refine cr_enter Tryz.func177 rfl Tryz.ntmps177 ?_
  refine gk_seq ?_
  refine gk_region ?_
  refine gr_v (ev_as rfl) ?_
  refine gr_nil ?_
  refine gk_seq ?_
  refine gk_region ?_
  refine gr_v (ev_mv rfl) ?_
  refine gr_v (ev_nil rfl) ?_
  refine gr_v (ev_fa (j := 0) rfl Tryz.runUnderlying208 rfl Tryz.sizeOf200 rfl rfl) ?_
  refine gr_call (ec_func Tryz.call268 rfl) (t268 (vo := 22) (r := 0) h (by decide) (by kernel_rfl)) ?_
  rintro _ w1 ⟨rfl, hh⟩
  have h1 := h.same hh
  refine gr_v (ev_cv (r := 0) rfl ⟨_, Tryz.runUnderlying255⟩ Tryz.runUnderlying65 (by decide)) ?_
  refine gr_v (ev_as rfl) ?_
  refine gr_nil ?_
  refine gk_seq ?_
  refine gk_seq ?_
  refine gk_region ?_
  refine gr_v (ev_mv rfl) ?_
  refine gr_bb (b' := false) (ev_neq rfl rfl) (by decide) ?_
  refine gr_nil ?_
  refine gk_false rfl rfl ?_
  refine gk_skip ?_
  refine gk_seq ?_
  refine gk_region ?_
  refine gr_v (ev_as rfl) ?_
  refine gr_nil ?_
  refine gk_ret1 Tryz.results177 rfl ?_
  exact ⟨_, rfl, rfl, hh⟩

theorem m179 {rb kb : Nat} {w : World} (h : Orc rb kb w) : CR Tryz.prog 179 #[ptr rb] w (fun v w' => v = .int .i64 0 ∧ w'.heap = w.heap) := by
  refine cr_enter Tryz.func179 rfl Tryz.ntmps179 ?_
  refine gk_seq ?_
  refine gk_region ?_
  refine gr_v (ev_as rfl) ?_
  refine gr_nil ?_
  refine gk_seq ?_
  refine gk_region ?_
  refine gr_v (ev_mv rfl) ?_
  refine gr_v (ev_nil rfl) ?_
  refine gr_v (ev_fa (j := 0) rfl Tryz.runUnderlying208 rfl Tryz.sizeOf200 rfl rfl) ?_
  refine gr_call (ec_func Tryz.call268 rfl) (t268 (vo := 24) (r := 0) h (by decide) (by kernel_rfl)) ?_
  rintro _ w1 ⟨rfl, hh⟩
  have h1 := h.same hh
  refine gr_v (ev_cv (r := 0) rfl ⟨_, Tryz.runUnderlying255⟩ Tryz.runUnderlying65 (by decide)) ?_
  refine gr_v (ev_as rfl) ?_
  refine gr_nil ?_
  refine gk_seq ?_
  refine gk_seq ?_
  refine gk_region ?_
  refine gr_v (ev_mv rfl) ?_
  refine gr_bb (b' := false) (ev_neq rfl rfl) (by decide) ?_
  refine gr_nil ?_
  refine gk_false rfl rfl ?_
  refine gk_skip ?_
  refine gk_seq ?_
  refine gk_region ?_
  refine gr_v (ev_as rfl) ?_
  refine gr_nil ?_
  refine gk_ret1 Tryz.results179 rfl ?_
  exact ⟨_, rfl, rfl, hh⟩

theorem m181 {rb kb : Nat} {w : World} (h : Orc rb kb w) : CR Tryz.prog 181 #[ptr rb] w (fun v w' => v = .int .i64 0 ∧ w'.heap = w.heap) := by
  refine cr_enter Tryz.func181 rfl Tryz.ntmps181 ?_
  refine gk_seq ?_
  refine gk_region ?_
  refine gr_v (ev_as rfl) ?_
  refine gr_nil ?_
  refine gk_seq ?_
  refine gk_region ?_
  refine gr_v (ev_mv rfl) ?_
  refine gr_v (ev_nil rfl) ?_
  refine gr_v (ev_fa (j := 0) rfl Tryz.runUnderlying208 rfl Tryz.sizeOf200 rfl rfl) ?_
  refine gr_call (ec_func Tryz.call268 rfl) (t268 (vo := 26) (r := 0) h (by decide) (by kernel_rfl)) ?_
  rintro _ w1 ⟨rfl, hh⟩
  have h1 := h.same hh
  refine gr_v (ev_cv (r := 0) rfl ⟨_, Tryz.runUnderlying255⟩ Tryz.runUnderlying65 (by decide)) ?_
  refine gr_v (ev_as rfl) ?_
  refine gr_nil ?_
  refine gk_seq ?_
  refine gk_seq ?_
  refine gk_region ?_
  refine gr_v (ev_mv rfl) ?_
  refine gr_bb (b' := false) (ev_neq rfl rfl) (by decide) ?_
  refine gr_nil ?_
  refine gk_false rfl rfl ?_
  refine gk_skip ?_
  refine gk_seq ?_
  refine gk_region ?_
  refine gr_v (ev_as rfl) ?_
  refine gr_nil ?_
  refine gk_ret1 Tryz.results181 rfl ?_
  exact ⟨_, rfl, rfl, hh⟩

theorem m184 {rb kb : Nat} {w : World} (h : Orc rb kb w) : CR Tryz.prog 184 #[ptr rb] w (fun v w' => v = .int .i64 0 ∧ w'.heap = w.heap) := by
  refine cr_enter Tryz.func184 rfl Tryz.ntmps184 ?_
  refine gk_seq ?_
  refine gk_region ?_
  refine gr_v (ev_as rfl) ?_
  refine gr_nil ?_
  refine gk_seq ?_
  refine gk_region ?_
  refine gr_v (ev_mv rfl) ?_
  refine gr_v (ev_nil rfl) ?_
  refine gr_v (ev_fa (j := 0) rfl Tryz.runUnderlying208 rfl Tryz.sizeOf200 rfl rfl) ?_
  refine gr_call (ec_func Tryz.call268 rfl) (t268 (vo := 30) (r := 0) h (by decide) (by kernel_rfl)) ?_
  rintro _ w1 ⟨rfl, hh⟩
  have h1 := h.same hh
  refine gr_v (ev_cv (r := 0) rfl ⟨_, Tryz.runUnderlying255⟩ Tryz.runUnderlying65 (by decide)) ?_
  refine gr_v (ev_as rfl) ?_
  refine gr_nil ?_
  refine gk_seq ?_
  refine gk_seq ?_
  refine gk_region ?_
  refine gr_v (ev_mv rfl) ?_
  refine gr_bb (b' := false) (ev_neq rfl rfl) (by decide) ?_
  refine gr_nil ?_
  refine gk_false rfl rfl ?_
  refine gk_skip ?_
  refine gk_seq ?_
  refine gk_region ?_
  refine gr_v (ev_as rfl) ?_
  refine gr_nil ?_
  refine gk_ret1 Tryz.results184 rfl ?_
  exact ⟨_, rfl, rfl, hh⟩

theorem m190 {rb kb : Nat} {w : World} (h : Orc rb kb w) : CR Tryz.prog 190 #[ptr rb] w (fun v w' => v = .int .i64 0 ∧ w'.heap = w.heap) := by
  refine cr_enter Tryz.func190 rfl Tryz.ntmps190 ?_
  refine gk_seq ?_
  refine gk_region ?_
  refine gr_v (ev_as rfl) ?_
  refine gr_nil ?_
  refine gk_seq ?_
  refine gk_region ?_
  refine gr_v (ev_mv rfl) ?_
  refine gr_v (ev_nil rfl) ?_
  refine gr_v (ev_fa (j := 0) rfl Tryz.runUnderlying208 rfl Tryz.sizeOf200 rfl rfl) ?_
  refine gr_call (ec_func Tryz.call268 rfl) (t268 (vo := 52) (r := 0) h (by decide) (by kernel_rfl)) ?_
  rintro _ w1 ⟨rfl, hh⟩
  have h1 := h.same hh
  refine gr_v (ev_cv (r := 0) rfl ⟨_, Tryz.runUnderlying255⟩ Tryz.runUnderlying65 (by decide)) ?_
  refine gr_v (ev_as rfl) ?_
  refine gr_nil ?_
  refine gk_seq ?_
  refine gk_seq ?_
  refine gk_region ?_
  refine gr_v (ev_mv rfl) ?_
  refine gr_bb (b' := false) (ev_neq rfl rfl) (by decide) ?_
  refine gr_nil ?_
  refine gk_false rfl rfl ?_
  refine gk_skip ?_
  refine gk_seq ?_
  refine gk_region ?_
  refine gr_v (ev_as rfl) ?_
  refine gr_nil ?_
  refine gk_ret1 Tryz.results190 rfl ?_
  exact ⟨_, rfl, rfl, hh⟩

theorem m192 {rb kb : Nat} {w : World} (h : Orc rb kb w) : CR Tryz.prog 192 #[ptr rb] w (fun v w' => v = .int .i64 0 ∧ w'.heap = w.heap) := by
  refine cr_enter Tryz.func192 rfl Tryz.ntmps192 ?_
  refine gk_seq ?_
  refine gk_region ?_
  refine gr_v (ev_as rfl) ?_
  refine gr_nil ?_
  refine gk_seq ?_
  refine gk_region ?_
  refine gr_v (ev_mv rfl) ?_
  refine gr_v (ev_nil rfl) ?_
  refine gr_v (ev_fa (j := 0) rfl Tryz.runUnderlying208 rfl Tryz.sizeOf200 rfl rfl) ?_
  refine gr_call (ec_func Tryz.call268 rfl) (t268 (vo := 60) (r := 0) h (by decide) (by kernel_rfl)) ?_
  rintro _ w1 ⟨rfl, hh⟩
  have h1 := h.same hh
  refine gr_v (ev_cv (r := 0) rfl ⟨_, Tryz.runUnderlying255⟩ Tryz.runUnderlying65 (by decide)) ?_
  refine gr_v (ev_as rfl) ?_
  refine gr_nil ?_
  refine gk_seq ?_
  refine gk_seq ?_
  refine gk_region ?_
  refine gr_v (ev_mv rfl) ?_
  refine gr_bb (b' := false) (ev_neq rfl rfl) (by decide) ?_
  refine gr_nil ?_
  refine gk_false rfl rfl ?_
  refine gk_skip ?_
  refine gk_seq ?_
  refine gk_region ?_
  refine gr_v (ev_as rfl) ?_
  refine gr_nil ?_
  refine gk_ret1 Tryz.results192 rfl ?_
  exact ⟨_, rfl, rfl, hh⟩

theorem m194 {rb kb : Nat} {w : World} (h : Orc rb kb w) : CR Tryz.prog 194 #[ptr rb] w (fun v w' => v = .int .i64 0 ∧ w'.heap = w.heap) := by
  refine cr_enter Tryz.func194 rfl Tryz.ntmps194 ?_
  refine gk_seq ?_
  refine gk_region ?_
  refine gr_v (ev_as rfl) ?_
  refine gr_nil ?_
  refine gk_seq ?_
  refine gk_region ?_
  refine gr_v (ev_mv rfl) ?_
  refine gr_v (ev_nil rfl) ?_
  refine gr_v (ev_fa (j := 0) rfl Tryz.runUnderlying208 rfl Tryz.sizeOf200 rfl rfl) ?_
  refine gr_call (ec_func Tryz.call268 rfl) (t268 (vo := 62) (r := 0) h (by decide) (by kernel_rfl)) ?_
  rintro _ w1 ⟨rfl, hh⟩
  have h1 := h.same hh
  refine gr_v (ev_cv (r := 0) rfl ⟨_, Tryz.runUnderlying255⟩ Tryz.runUnderlying65 (by decide)) ?_
  refine gr_v (ev_as rfl) ?_
  refine gr_nil ?_
  refine gk_seq ?_
  refine gk_seq ?_
  refine gk_region ?_
  refine gr_v (ev_mv rfl) ?_
  refine gr_bb (b' := false) (ev_neq rfl rfl) (by decide) ?_
  refine gr_nil ?_
  refine gk_false rfl rfl ?_
  refine gk_skip ?_
  refine gk_seq ?_
  refine gk_region ?_
  refine gr_v (ev_as rfl) ?_
  refine gr_nil ?_
  refine gk_ret1 Tryz.results194 rfl ?_
  exact ⟨_, rfl, rfl, hh⟩

theorem m198 {rb kb : Nat} {w : World} (h : Orc rb kb w) : CR Tryz.prog 198 #[ptr rb] w (fun v w' => v = .int .i64 0 ∧ w'.heap = w.heap) := by
  refine cr_enter Tryz.func198 rfl Tryz.ntmps198 ?_
  refine gk_seq ?_
  refine gk_region ?_
  refine gr_v (ev_as rfl) ?_
  refine gr_nil ?_
  refine gk_seq ?_
  refine gk_region ?_
  refine gr_v (ev_mv rfl) ?_
  refine gr_v (ev_nil rfl) ?_
  refine gr_v (ev_fa (j := 0) rfl Tryz.runUnderlying208 rfl Tryz.sizeOf200 rfl rfl) ?_
  refine gr_call (ec_func Tryz.call268 rfl) (t268 (vo := 64) (r := 0) h (by decide) (by kernel_rfl)) ?_
  rintro _ w1 ⟨rfl, hh⟩
  have h1 := h.same hh
  refine gr_v (ev_cv (r := 0) rfl ⟨_, Tryz.runUnderlying255⟩ Tryz.runUnderlying65 (by decide)) ?_
  refine gr_v (ev_as rfl) ?_
  refine gr_nil ?_
  refine gk_seq ?_
  refine gk_seq ?_
  refine gk_region ?_
  refine gr_v (ev_mv rfl) ?_
  refine gr_bb (b' := false) (ev_neq rfl rfl) (by decide) ?_
  refine gr_nil ?_
  refine gk_false rfl rfl ?_
  refine gk_skip ?_
  refine gk_seq ?_
  refine gk_region ?_
  refine gr_v (ev_as rfl) ?_
  refine gr_nil ?_
  refine gk_ret1 Tryz.results198 rfl ?_
  exact ⟨_, rfl, rfl, hh⟩

theorem m200 {rb kb : Nat} {w : World} (h : Orc rb kb w) : CR Tryz.prog 200 #[ptr rb] w (fun v w' => v = .int .i64 0 ∧ w'.heap = w.heap) := by
  refine cr_enter Tryz.func200 rfl Tryz.ntmps200 ?_
  refine gk_seq ?_
  refine gk_region ?_
  refine gr_v (ev_as rfl) ?_
  refine gr_nil ?_
  refine gk_seq ?_
  refine gk_region ?_
  refine gr_v (ev_mv rfl) ?_
  refine gr_v (ev_nil rfl) ?_
  refine gr_v (ev_fa (j := 0) rfl Tryz.runUnderlying208 rfl Tryz.sizeOf200 rfl rfl) ?_
  refine gr_call (ec_func Tryz.call268 rfl) (t268 (vo := 66) (r := 0) h (by decide) (by kernel_rfl)) ?_
  rintro _ w1 ⟨rfl, hh⟩
  have h1 := h.same hh
  refine gr_v (ev_cv (r := 0) rfl ⟨_, Tryz.runUnderlying255⟩ Tryz.runUnderlying65 (by decide)) ?_
  refine gr_v (ev_as rfl) ?_
  refine gr_nil ?_
  refine gk_seq ?_
  refine gk_seq ?_
  refine gk_region ?_
  refine gr_v (ev_mv rfl) ?_
  refine gr_bb (b' := false) (ev_neq rfl rfl) (by decide) ?_
  refine gr_nil ?_
  refine gk_false rfl rfl ?_
  refine gk_skip ?_
  refine gk_seq ?_
  refine gk_region ?_
  refine gr_v (ev_as rfl) ?_
  refine gr_nil ?_
  refine gk_ret1 Tryz.results200 rfl ?_
  exact ⟨_, rfl, rfl, hh⟩

theorem m202 {rb kb : Nat} {w : World} (h : Orc rb kb w) : CR Tryz.prog 202 #[ptr rb] w (fun v w' => v = .int .i64 0 ∧ w'.heap = w.heap) := by
  refine cr_enter Tryz.func202 rfl Tryz.ntmps202 ?_
  refine gk_seq ?_
  refine gk_region ?_
  refine gr_v (ev_as rfl) ?_
  refine gr_nil ?_
  refine gk_seq ?_
  refine gk_region ?_
  refine gr_v (ev_mv rfl) ?_
  refine gr_v (ev_nil rfl) ?_
  refine gr_v (ev_fa (j := 0) rfl Tryz.runUnderlying208 rfl Tryz.sizeOf200 rfl rfl) ?_
  refine gr_call (ec_func Tryz.call268 rfl) (t268 (vo := 68) (r := 0) h (by decide) (by kernel_rfl)) ?_
  rintro _ w1 ⟨rfl, hh⟩
  have h1 := h.same hh
  refine gr_v (ev_cv (r := 0) rfl ⟨_, Tryz.runUnderlying255⟩ Tryz.runUnderlying65 (by decide)) ?_
  refine gr_v (ev_as rfl) ?_
  refine gr_nil ?_
  refine gk_seq ?_
  refine gk_seq ?_
  refine gk_region ?_
  refine gr_v (ev_mv rfl) ?_
  refine gr_bb (b' := false) (ev_neq rfl rfl) (by decide) ?_
  refine gr_nil ?_
  refine gk_false rfl rfl ?_
  refine gk_skip ?_
  refine gk_seq ?_
  refine gk_region ?_
  refine gr_v (ev_as rfl) ?_
  refine gr_nil ?_
  refine gk_ret1 Tryz.results202 rfl ?_
  exact ⟨_, rfl, rfl, hh⟩

theorem m204 {rb kb : Nat} {w : World} (h : Orc rb kb w) : CR Tryz.prog 204 #[ptr rb] w (fun v w' => v = .int .i64 0 ∧ w'.heap = w.heap) := by
  refine cr_enter Tryz.func204 rfl Tryz.ntmps204 ?_
  refine gk_seq ?_
  refine gk_region ?_
  refine gr_v (ev_as rfl) ?_
  refine gr_nil ?_
  refine gk_seq ?_
  refine gk_region ?_
  refine gr_v (ev_mv rfl) ?_
  refine gr_v (ev_nil rfl) ?_
  refine gr_v (ev_fa (j := 0) rfl Tryz.runUnderlying208 rfl Tryz.sizeOf200 rfl rfl) ?_
  refine gr_call (ec_func Tryz.call268 rfl) (t268 (vo := 70) (r := 0) h (by decide) (by kernel_rfl)) ?_
  rintro _ w1 ⟨rfl, hh⟩
  have h1 := h.same hh
  refine gr_v (ev_cv (r := 0) rfl ⟨_, Tryz.runUnderlying255⟩ Tryz.runUnderlying65 (by decide)) ?_
  refine gr_v (ev_as rfl) ?_
  refine gr_nil ?_
  refine gk_seq ?_
  refine gk_seq ?_
  refine gk_region ?_
  refine gr_v (ev_mv rfl) ?_
  refine gr_bb (b' := false) (ev_neq rfl rfl) (by decide) ?_
  refine gr_nil ?_
  refine gk_false rfl rfl ?_
  refine gk_skip ?_
  refine gk_seq ?_
  refine gk_region ?_
  refine gr_v (ev_as rfl) ?_
  refine gr_nil ?_
  refine gk_ret1 Tryz.results204 rfl ?_
  exact ⟨_, rfl, rfl, hh⟩

theorem m206 {rb kb : Nat} {w : World} (h : Orc rb kb w) : CR Tryz.prog 206 #[ptr rb] w (fun v w' => v = .int .i64 0 ∧ w'.heap = w.heap) := by
  refine cr_enter Tryz.func206 rfl Tryz.ntmps206 ?_
  refine gk_seq ?_
  refine gk_region ?_
  refine gr_v (ev_as rfl) ?_
  refine gr_nil ?_
  refine gk_seq ?_
  refine gk_region ?_
  refine gr_v (ev_mv rfl) ?_
  refine gr_v (ev_nil rfl) ?_
  refine gr_v (ev_fa (j := 0) rfl Tryz.runUnderlying208 rfl Tryz.sizeOf200 rfl rfl) ?_
  refine gr_call (ec_func Tryz.call268 rfl) (t268 (vo := 74) (r := 0) h (by decide) (by kernel_rfl)) ?_
  rintro _ w1 ⟨rfl, hh⟩
  have h1 := h.same hh
  refine gr_v (ev_cv (r := 0) rfl ⟨_, Tryz.runUnderlying255⟩ Tryz.runUnderlying65 (by decide)) ?_
  refine gr_v (ev_as rfl) ?_
  refine gr_nil ?_
  refine gk_seq ?_
  refine gk_seq ?_
  refine gk_region ?_
  refine gr_v (ev_mv rfl) ?_
  refine gr_bb (b' := false) (ev_neq rfl rfl) (by decide) ?_
  refine gr_nil ?_
  refine gk_false rfl rfl ?_
  refine gk_skip ?_
  refine gk_seq ?_
  refine gk_region ?_
  refine gr_v (ev_as rfl) ?_
  refine gr_nil ?_
  refine gk_ret1 Tryz.results206 rfl ?_
  exact ⟨_, rfl, rfl, hh⟩

theorem m209 {rb kb : Nat} {w : World} (h : Orc rb kb w) : CR Tryz.prog 209 #[ptr rb] w (fun v w' => v = .int .i64 0 ∧ w'.heap = w.heap) := by
  refine cr_enter Tryz.func209 rfl Tryz.ntmps209 ?_
  refine gk_seq ?_
  refine gk_region ?_
  refine gr_v (ev_as rfl) ?_
  refine gr_nil ?_
  refine gk_seq ?_
  refine gk_region ?_
  refine gr_v (ev_mv rfl) ?_
  refine gr_v (ev_nil rfl) ?_
  refine gr_v (ev_fa (j := 0) rfl Tryz.runUnderlying208 rfl Tryz.sizeOf200 rfl rfl) ?_
  refine gr_call (ec_func Tryz.call268 rfl) (t268 (vo := 78) (r := 0) h (by decide) (by kernel_rfl)) ?_
  rintro _ w1 ⟨rfl, hh⟩
  have h1 := h.same hh
  refine gr_v (ev_cv (r := 0) rfl ⟨_, Tryz.runUnderlying255⟩ Tryz.runUnderlying65 (by decide)) ?_
  refine gr_v (ev_as rfl) ?_
  refine gr_nil ?_
  refine gk_seq ?_
  refine gk_seq ?_
  refine gk_region ?_
  refine gr_v (ev_mv rfl) ?_
  refine gr_bb (b' := false) (ev_neq rfl rfl) (by decide) ?_
  refine gr_nil ?_
  refine gk_false rfl rfl ?_
  refine gk_skip ?_
  refine gk_seq ?_
  refine gk_region ?_
  refine gr_v (ev_as rfl) ?_
  refine gr_nil ?_
  refine gk_ret1 Tryz.results209 rfl ?_
  exact ⟨_, rfl, rfl, hh⟩

theorem m211 {rb kb : Nat} {w : World} (h : Orc rb kb w) : CR Tryz.prog 211 #[ptr rb] w (fun v w' => v = .int .i64 0 ∧ w'.heap = w.heap) := by
  refine cr_enter Tryz.func211 rfl Tryz.ntmps211 ?_
  refine gk_seq ?_
  refine gk_region ?_
  refine gr_v (ev_as rfl) ?_
  refine gr_nil ?_
  refine gk_seq ?_
  refine gk_region ?_
  refine gr_v (ev_mv rfl) ?_
  refine gr_v (ev_nil rfl) ?_
  refine gr_v (ev_fa (j := 0) rfl Tryz.runUnderlying208 rfl Tryz.sizeOf200 rfl rfl) ?_
  refine gr_call (ec_func Tryz.call268 rfl) (t268 (vo := 80) (r := 0) h (by decide) (by kernel_rfl)) ?_
  rintro _ w1 ⟨rfl, hh⟩
  have h1 := h.same hh
  refine gr_v (ev_cv (r := 0) rfl ⟨_, Tryz.runUnderlying255⟩ Tryz.runUnderlying65 (by decide)) ?_
  refine gr_v (ev_as rfl) ?_
  refine gr_nil ?_
  refine gk_seq ?_
  refine gk_seq ?_
  refine gk_region ?_
  refine gr_v (ev_mv rfl) ?_
  refine gr_bb (b' := false) (ev_neq rfl rfl) (by decide) ?_
  refine gr_nil ?_
  refine gk_false rfl rfl ?_
  refine gk_skip ?_
  refine gk_seq ?_
  refine gk_region ?_
  refine gr_v (ev_as rfl) ?_
  refine gr_nil ?_
  refine gk_ret1 Tryz.results211 rfl ?_
  exact ⟨_, rfl, rfl, hh⟩

theorem m213 {rb kb : Nat} {w : World} (h : Orc rb kb w) : CR Tryz.prog 213 #[ptr rb] w (fun v w' => v = .int .i64 0 ∧ w'.heap = w.heap) := by
  refine cr_enter Tryz.func213 rfl Tryz.ntmps213 ?_
  refine gk_seq ?_
  refine gk_region ?_
  refine gr_v (ev_as rfl) ?_
  refine gr_nil ?_
  refine gk_seq ?_
  refine gk_region ?_
  refine gr_v (ev_mv rfl) ?_
  refine gr_v (ev_nil rfl) ?_
  refine gr_v (ev_fa (j := 0) rfl Tryz.runUnderlying208 rfl Tryz.sizeOf200 rfl rfl) ?_
  refine gr_call (ec_func Tryz.call268 rfl) (t268 (vo := 84) (r := 0) h (by decide) (by kernel_rfl)) ?_
  rintro _ w1 ⟨rfl, hh⟩
  have h1 := h.same hh
  refine gr_v (ev_cv (r := 0) rfl ⟨_, Tryz.runUnderlying255⟩ Tryz.runUnderlying65 (by decide)) ?_
  refine gr_v (ev_as rfl) ?_
  refine gr_nil ?_
  refine gk_seq ?_
  refine gk_seq ?_
  refine gk_region ?_
  refine gr_v (ev_mv rfl) ?_
  refine gr_bb (b' := false) (ev_neq rfl rfl) (by decide) ?_
  refine gr_nil ?_
  refine gk_false rfl rfl ?_
  refine gk_skip ?_
  refine gk_seq ?_
  refine gk_region ?_
  refine gr_v (ev_as rfl) ?_
  refine gr_nil ?_
  refine gk_ret1 Tryz.results213 rfl ?_
  exact ⟨_, rfl, rfl, hh⟩

theorem m215 {rb kb : Nat} {w : World} (h : Orc rb kb w) : CR Tryz.prog 215 #[ptr rb] w (fun v w' => v = .int .i64 0 ∧ w'.heap = w.heap) := by
  refine cr_enter Tryz.func215 rfl Tryz.ntmps215 ?_
  refine gk_seq ?_
  refine gk_region ?_
  refine gr_v (ev_as rfl) ?_
  refine gr_nil ?_
  refine gk_seq ?_
  refine gk_region ?_
  refine gr_v (ev_mv rfl) ?_
  refine gr_v (ev_nil rfl) ?_
  refine gr_v (ev_fa (j := 0) rfl Tryz.runUnderlying208 rfl Tryz.sizeOf200 rfl rfl) ?_
  refine gr_call (ec_func Tryz.call268 rfl) (t268 (vo := 88) (r := 0) h (by decide) (by kernel_rfl)) ?_
  rintro _ w1 ⟨rfl, hh⟩
  have h1 := h.same hh
  refine gr_v (ev_cv (r := 0) rfl ⟨_, Tryz.runUnderlying255⟩ Tryz.runUnderlying65 (by decide)) ?_
  refine gr_v (ev_as rfl) ?_
  refine gr_nil ?_
  refine gk_seq ?_
  refine gk_seq ?_
  refine gk_region ?_
  refine gr_v (ev_mv rfl) ?_
  refine gr_bb (b' := false) (ev_neq rfl rfl) (by decide) ?_
  refine gr_nil ?_
  refine gk_false rfl rfl ?_
  refine gk_skip ?_
  refine gk_seq ?_
  refine gk_region ?_
  refine gr_v (ev_as rfl) ?_
  refine gr_nil ?_
  refine gk_ret1 Tryz.results215 rfl ?_
  exact ⟨_, rfl, rfl, hh⟩

theorem m225 {rb kb : Nat} {w : World} (h : Orc rb kb w) : CR Tryz.prog 225 #[ptr rb] w (fun v w' => v = .int .i64 0 ∧ w'.heap = w.heap) := by
  refine cr_enter Tryz.func225 rfl Tryz.ntmps225 ?_
  refine gk_seq ?_
  refine gk_region ?_
  refine gr_v (ev_as rfl) ?_
  refine gr_nil ?_
  refine gk_seq ?_
  refine gk_region ?_
  refine gr_v (ev_mv rfl) ?_
  refine gr_v (ev_nil rfl) ?_
  refine gr_v (ev_fa (j := 0) rfl Tryz.runUnderlying208 rfl Tryz.sizeOf200 rfl rfl) ?_
  refine gr_call (ec_func Tryz.call268 rfl) (t268 (vo := 98) (r := 0) h (by decide) (by kernel_rfl)) ?_
  rintro _ w1 ⟨rfl, hh⟩
  have h1 := h.same hh
  refine gr_v (ev_cv (r := 0) rfl ⟨_, Tryz.runUnderlying255⟩ Tryz.runUnderlying65 (by decide)) ?_
  refine gr_v (ev_as rfl) ?_
  refine gr_nil ?_
  refine gk_seq ?_
  refine gk_seq ?_
  refine gk_region ?_
  refine gr_v (ev_mv rfl) ?_
  refine gr_bb (b' := false) (ev_neq rfl rfl) (by decide) ?_
  refine gr_nil ?_
  refine gk_false rfl rfl ?_
  refine gk_skip ?_
  refine gk_seq ?_
  refine gk_region ?_
  refine gr_v (ev_as rfl) ?_
  refine gr_nil ?_
  refine gk_ret1 Tryz.results225 rfl ?_
  exact ⟨_, rfl, rfl, hh⟩

theorem m217 {rb kb : Nat} {w : World} (h : Orc rb kb w) (y : Value) : CR Tryz.prog 217 #[ptr rb, y] w (fun v w' => v = .bool false ∧ w'.heap = w.heap) := by
  refine cr_enter Tryz.func217 rfl Tryz.ntmps217 ?_
  refine gk_seq ?_
  refine gk_region ?_
  refine gr_v (ev_as rfl) ?_
  refine gr_nil ?_
  refine gk_seq ?_
  refine gk_region ?_
  refine gr_v (ev_mv rfl) ?_
  refine gr_v (ev_nil rfl) ?_
  refine gr_v (ev_fa (j := 0) rfl Tryz.runUnderlying208 rfl Tryz.sizeOf200 rfl rfl) ?_
  refine gr_call (ec_func Tryz.call268 rfl) (t268 (vo := 20) (r := 0) h (by decide) (by kernel_rfl)) ?_
  rintro _ w1 ⟨rfl, hh⟩
  have h1 := h.same hh
  refine gr_v (ev_cv (r := 0) rfl ⟨_, Tryz.runUnderlying255⟩ Tryz.runUnderlying65 (by decide)) ?_
  refine gr_v (ev_as rfl) ?_
  refine gr_nil ?_
  refine gk_seq ?_
  refine gk_seq ?_
  refine gk_region ?_
  refine gr_v (ev_mv rfl) ?_
  refine gr_bb (b' := false) (ev_neq rfl rfl) (by decide) ?_
  refine gr_nil ?_
  refine gk_false rfl rfl ?_
  refine gk_skip ?_
  refine gk_seq ?_
  refine gk_region ?_
  refine gr_v (ev_as rfl) ?_
  refine gr_nil ?_
  refine gk_ret1 Tryz.results217 rfl ?_
  exact ⟨_, rfl, rfl, hh⟩

theorem m220 {rb kb : Nat} {w : World} (h : Orc rb kb w) (y : Value) : CR Tryz.prog 220 #[ptr rb, y] w (fun v w' => v = .bool false ∧ w'.heap = w.heap) := by
  refine cr_enter Tryz.func220 rfl Tryz.ntmps220 ?_
  refine gk_seq ?_
  refine gk_region ?_
  refine gr_v (ev_as rfl) ?_
  refine gr_nil ?_
  refine gk_seq ?_
  refine gk_region ?_
  refine gr_v (ev_mv rfl) ?_
  refine gr_v (ev_nil rfl) ?_
  refine gr_v (ev_fa (j := 0) rfl Tryz.runUnderlying208 rfl Tryz.sizeOf200 rfl rfl) ?_
  refine gr_call (ec_func Tryz.call268 rfl) (t268 (vo := 92) (r := 0) h (by decide) (by kernel_rfl)) ?_
  rintro _ w1 ⟨rfl, hh⟩
  have h1 := h.same hh
  refine gr_v (ev_cv (r := 0) rfl ⟨_, Tryz.runUnderlying255⟩ Tryz.runUnderlying65 (by decide)) ?_
  refine gr_v (ev_as rfl) ?_
  refine gr_nil ?_
  refine gk_seq ?_
  refine gk_seq ?_
  refine gk_region ?_
  refine gr_v (ev_mv rfl) ?_
  refine gr_bb (b' := false) (ev_neq rfl rfl) (by decide) ?_
  refine gr_nil ?_
  refine gk_false rfl rfl ?_
  refine gk_skip ?_
  refine gk_seq ?_
  refine gk_region ?_
  refine gr_v (ev_as rfl) ?_
  refine gr_nil ?_
  refine gk_ret1 Tryz.results220 rfl ?_
  exact ⟨_, rfl, rfl, hh⟩

theorem m223 {rb kb : Nat} {w : World} (h : Orc rb kb w) (y : Value) : CR Tryz.prog 223 #[ptr rb, y] w (fun v w' => v = .bool false ∧ w'.heap = w.heap) := by
  refine cr_enter Tryz.func223 rfl Tryz.ntmps223 ?_
  refine gk_seq ?_
  refine gk_region ?_
  refine gr_v (ev_as rfl) ?_
  refine gr_nil ?_
  refine gk_seq ?_
  refine gk_region ?_
  refine gr_v (ev_mv rfl) ?_
  refine gr_v (ev_nil rfl) ?_
  refine gr_v (ev_fa (j := 0) rfl Tryz.runUnderlying208 rfl Tryz.sizeOf200 rfl rfl) ?_
  refine gr_call (ec_func Tryz.call268 rfl) (t268 (vo := 96) (r := 0) h (by decide) (by kernel_rfl)) ?_
  rintro _ w1 ⟨rfl, hh⟩
  have h1 := h.same hh
  refine gr_v (ev_cv (r := 0) rfl ⟨_, Tryz.runUnderlying255⟩ Tryz.runUnderlying65 (by decide)) ?_
  refine gr_v (ev_as rfl) ?_
  refine gr_nil ?_
  refine gk_seq ?_
  refine gk_seq ?_
  refine gk_region ?_
  refine gr_v (ev_mv rfl) ?_
  refine gr_bb (b' := false) (ev_neq rfl rfl) (by decide) ?_
  refine gr_nil ?_
  refine gk_false rfl rfl ?_
  refine gk_skip ?_
  refine gk_seq ?_
  refine gk_region ?_
  refine gr_v (ev_as rfl) ?_
  refine gr_nil ?_
  refine gk_ret1 Tryz.results223 rfl ?_
  exact ⟨_, rfl, rfl, hh⟩

theorem m219 {rb kb : Nat} {w : World} (h : Orc rb kb w) : CR Tryz.prog 219 #[ptr rb] w (fun v w' => v = B 0 ∧ w'.heap = w.heap) := by
  refine cr_enter Tryz.func219 rfl Tryz.ntmps219 ?_
  refine gk_seq ?_
  refine gk_region ?_
  refine gr_v (ev_as rfl) ?_
  refine gr_nil ?_
  refine gk_seq ?_
  refine gk_region ?_
  refine gr_v (ev_mv rfl) ?_
  refine gr_v (ev_nil rfl) ?_
  refine gr_v (ev_fa (j := 0) rfl Tryz.runUnderlying208 rfl Tryz.sizeOf200 rfl rfl) ?_
  refine gr_call (ec_func Tryz.call268 rfl) (t268 (vo := 18) (r := 0) h (by decide) (by kernel_rfl)) ?_
  rintro _ w1 ⟨rfl, hh⟩
  have h1 := h.same hh
  refine gr_v (ev_cv (r := 0) rfl ⟨_, Tryz.runUnderlying255⟩ Tryz.runUnderlying65 (by decide)) ?_
  refine gr_v (ev_as rfl) ?_
  refine gr_nil ?_
  refine gk_seq ?_
  refine gk_seq ?_
  refine gk_region ?_
  refine gr_v (ev_mv rfl) ?_
  refine gr_bb (b' := false) (ev_neq rfl rfl) (by decide) ?_
  refine gr_nil ?_
  refine gk_false rfl rfl ?_
  refine gk_skip ?_
  refine gk_seq ?_
  refine gk_region ?_
  refine gr_v (ev_as rfl) ?_
  refine gr_nil ?_
  refine gk_ret1 Tryz.results219 rfl ?_
  exact ⟨_, rfl, rfl, hh⟩

theorem m221 {rb kb : Nat} {w : World} (h : Orc rb kb w) : CR Tryz.prog 221 #[ptr rb] w (fun v w' => v = B 0 ∧ w'.heap = w.heap) := by
  refine cr_enter Tryz.func221 rfl Tryz.ntmps221 ?_
  refine gk_seq ?_
  refine gk_region ?_
  refine gr_v (ev_as rfl) ?_
  refine gr_nil ?_
  refine gk_seq ?_
  refine gk_region ?_
  refine gr_v (ev_mv rfl) ?_
  refine gr_v (ev_nil rfl) ?_
  refine gr_v (ev_fa (j := 0) rfl Tryz.runUnderlying208 rfl Tryz.sizeOf200 rfl rfl) ?_
  refine gr_call (ec_func Tryz.call268 rfl) (t268 (vo := 90) (r := 0) h (by decide) (by kernel_rfl)) ?_
  rintro _ w1 ⟨rfl, hh⟩
  have h1 := h.same hh
  refine gr_v (ev_cv (r := 0) rfl ⟨_, Tryz.runUnderlying255⟩ Tryz.runUnderlying65 (by decide)) ?_
  refine gr_v (ev_as rfl) ?_
  refine gr_nil ?_
  refine gk_seq ?_
  refine gk_seq ?_
  refine gk_region ?_
  refine gr_v (ev_mv rfl) ?_
  refine gr_bb (b' := false) (ev_neq rfl rfl) (by decide) ?_
  refine gr_nil ?_
  refine gk_false rfl rfl ?_
  refine gk_skip ?_
  refine gk_seq ?_
  refine gk_region ?_
  refine gr_v (ev_as rfl) ?_
  refine gr_nil ?_
  refine gk_ret1 Tryz.results221 rfl ?_
  exact ⟨_, rfl, rfl, hh⟩

theorem m222 {rb kb : Nat} {w : World} (h : Orc rb kb w) : CR Tryz.prog 222 #[ptr rb] w (fun v w' => v = B 0 ∧ w'.heap = w.heap) := by
  refine cr_enter Tryz.func222 rfl Tryz.ntmps222 ?_
  refine gk_seq ?_
  refine gk_region ?_
  refine gr_v (ev_as rfl) ?_
  refine gr_nil ?_
  refine gk_seq ?_
  refine gk_region ?_
  refine gr_v (ev_mv rfl) ?_
  refine gr_v (ev_nil rfl) ?_
  refine gr_v (ev_fa (j := 0) rfl Tryz.runUnderlying208 rfl Tryz.sizeOf200 rfl rfl) ?_
  refine gr_call (ec_func Tryz.call268 rfl) (t268 (vo := 94) (r := 0) h (by decide) (by kernel_rfl)) ?_
  rintro _ w1 ⟨rfl, hh⟩
  have h1 := h.same hh
  refine gr_v (ev_cv (r := 0) rfl ⟨_, Tryz.runUnderlying255⟩ Tryz.runUnderlying65 (by decide)) ?_
  refine gr_v (ev_as rfl) ?_
  refine gr_nil ?_
  refine gk_seq ?_
  refine gk_seq ?_
  refine gk_region ?_
  refine gr_v (ev_mv rfl) ?_
  refine gr_bb (b' := false) (ev_neq rfl rfl) (by decide) ?_
  refine gr_nil ?_
  refine gk_false rfl rfl ?_
  refine gk_skip ?_
  refine gk_seq ?_
  refine gk_region ?_
  refine gr_v (ev_as rfl) ?_
  refine gr_nil ?_
  refine gk_ret1 Tryz.results222 rfl ?_
  exact ⟨_, rfl, rfl, hh⟩

theorem m144 {rb kb : Nat} {w : World} (h : Orc rb kb w) : CR Tryz.prog 144 #[ptr rb] w (fun v w' => v = .int .i16 80 ∧ w'.heap = w.heap) := by
  refine cr_enter Tryz.func144 rfl Tryz.ntmps144 ?_
  refine gk_seq ?_
  refine gk_region ?_
  refine gr_v (ev_as rfl) ?_
  refine gr_nil ?_
  refine gk_seq ?_
  refine gk_region ?_
  refine gr_v (ev_mv rfl) ?_
  refine gr_v (ev_nil rfl) ?_
  refine gr_v (ev_fa (j := 0) rfl Tryz.runUnderlying208 rfl Tryz.sizeOf200 rfl rfl) ?_
  refine gr_call (ec_func Tryz.call268 rfl) (t268 (vo := 8) (r := 26) h (by decide) (by kernel_rfl)) ?_
  rintro _ w1 ⟨rfl, hh⟩
  have h1 := h.same hh
  refine gr_v (ev_cv (r := 26) rfl ⟨_, Tryz.runUnderlying255⟩ Tryz.runUnderlying65 (by decide)) ?_
  refine gr_v (ev_as rfl) ?_
  refine gr_nil ?_
  refine gk_seq ?_
  refine gk_seq ?_
  refine gk_region ?_
  refine gr_v (ev_mv rfl) ?_
  refine gr_bb (b' := true) (ev_neq rfl rfl) (by decide) ?_
  refine gr_nil ?_
  refine gk_true rfl rfl ?_
  refine gk_seq ?_
  refine gk_draw (fun w' => w'.heap = w1.heap) (by kernel_rfl) ?_
  have hS : w1.drew.heap = w1.heap := rfl
  refine ga_take 0 rfl (by kernel_rfl) (fun _ _ => (ev_mv rfl)) hS ?_
  refine ga_take 1 rfl (by kernel_rfl) (fun _ _ => (ev_nil rfl)) hS ?_
  refine ga_take 2 rfl (by kernel_rfl) (fun _ _ => (ev_fa (j := 0) rfl Tryz.runUnderlying208 rfl Tryz.sizeOf200 rfl rfl)) hS ?_
  refine ga_take 3 rfl (by kernel_rfl) (fun _ _ => (ev_mv rfl)) hS ?_
  refine ga_take 4 rfl (by kernel_rfl) (fun _ _ => (ev_mv rfl)) hS ?_
  refine ga_take 5 rfl (by kernel_rfl) (fun _ _ => (ev_nil rfl)) hS ?_
  refine ga_take 6 rfl (by kernel_rfl) (fun _ _ => (ev_fa (j := 0) rfl Tryz.runUnderlying208 rfl Tryz.sizeOf200 rfl rfl)) hS ?_
  refine ga_take 7 rfl (by kernel_rfl) (fun _ _ => (ev_fa (j := 1) rfl Tryz.runUnderlying200 rfl Tryz.sizeOf65 rfl rfl)) hS ?_
  refine ga_take 8 rfl (by kernel_rfl) (fun _ hs => (ev_ld rfl Tryz.isAgg65 (by rw [hs]; exact h1.r) (by rfl))) hS ?_
  refine ga_take 9 rfl (by kernel_rfl) (fun _ _ => (ev_add (r := 134) rfl rfl (by decide))) hS ?_
  refine ga_call 10 rfl (by kernel_rfl) (ec_func Tryz.call269 rfl) (t269 (o := 134) (h1.same hS) (by decide)) ?_
  rintro _ _ ⟨rfl, rfl⟩
  refine ⟨hS, fun hS => ?_⟩
  refine ga_take 11 rfl (by kernel_rfl) (fun _ _ => (ev_as rfl)) hS ?_
  refine ga_nil (by kernel_rfl) ?_
  refine gk_ret1 Tryz.results144 rfl ?_
  exact ⟨_, rfl, by kernel_rfl, hS.trans hh⟩

theorem m145 {rb kb : Nat} {w : World} (h : Orc rb kb w) : CR Tryz.prog 145 #[ptr rb] w (fun v w' => v = .slice (some ⟨kb, 140, none⟩) 3 4 ∧ w'.heap = w.heap) := by
  refine cr_enter Tryz.func145 rfl Tryz.ntmps145 ?_
  refine gk_seq ?_
  refine gk_region ?_
  refine gr_v (ev_as rfl) ?_
  refine gr_nil ?_
  refine gk_seq ?_
  refine gk_region ?_
  refine gr_v (ev_mv rfl) ?_
  refine gr_v (ev_nil rfl) ?_
  refine gr_v (ev_fa (j := 0) rfl Tryz.runUnderlying208 rfl Tryz.sizeOf200 rfl rfl) ?_
  refine gr_call (ec_func Tryz.call268 rfl) (t268 (vo := 10) (r := 20) h (by decide) (by kernel_rfl)) ?_
  rintro _ w1 ⟨rfl, hh⟩
  have h1 := h.same hh
  refine gr_v (ev_cv (r := 20) rfl ⟨_, Tryz.runUnderlying255⟩ Tryz.runUnderlying65 (by decide)) ?_
  refine gr_v (ev_as rfl) ?_
  refine gr_nil ?_
  refine gk_seq ?_
  refine gk_seq ?_
  refine gk_region ?_
  refine gr_v (ev_mv rfl) ?_
  refine gr_bb (b' := true) (ev_neq rfl rfl) (by decide) ?_
  refine gr_nil ?_
  refine gk_true rfl rfl ?_
  refine gk_seq ?_
  refine gk_draw (fun w' => w'.heap = w1.heap) (by kernel_rfl) ?_
  have hS : w1.drew.heap = w1.heap := rfl
  refine ga_take 0 rfl (by kernel_rfl) (fun _ _ => (ev_mv rfl)) hS ?_
  refine ga_take 1 rfl (by kernel_rfl) (fun _ _ => (ev_nil rfl)) hS ?_
  refine ga_take 2 rfl (by kernel_rfl) (fun _ _ => (ev_fa (j := 0) rfl Tryz.runUnderlying208 rfl Tryz.sizeOf200 rfl rfl)) hS ?_
  refine ga_take 3 rfl (by kernel_rfl) (fun _ _ => (ev_mv rfl)) hS ?_
  refine ga_take 4 rfl (by kernel_rfl) (fun _ _ => (ev_mv rfl)) hS ?_
  refine ga_take 5 rfl (by kernel_rfl) (fun _ _ => (ev_nil rfl)) hS ?_
  refine ga_take 6 rfl (by kernel_rfl) (fun _ _ => (ev_fa (j := 0) rfl Tryz.runUnderlying208 rfl Tryz.sizeOf200 rfl rfl)) hS ?_
  refine ga_take 7 rfl (by kernel_rfl) (fun _ _ => (ev_fa (j := 1) rfl Tryz.runUnderlying200 rfl Tryz.sizeOf65 rfl rfl)) hS ?_
  refine ga_take 8 rfl (by kernel_rfl) (fun _ hs => (ev_ld rfl Tryz.isAgg65 (by rw [hs]; exact h1.r) (by rfl))) hS ?_
  refine ga_take 9 rfl (by kernel_rfl) (fun _ _ => (ev_add (r := 128) rfl rfl (by decide))) hS ?_
  refine ga_call 10 rfl (by kernel_rfl) (ec_func Tryz.call270 rfl) (t270 (h1.same hS)) ?_
  rintro _ _ ⟨rfl, rfl⟩
  refine ⟨hS, fun hS => ?_⟩
  refine ga_take 11 rfl (by kernel_rfl) (fun _ _ => (ev_as rfl)) hS ?_
  refine ga_nil (by kernel_rfl) ?_
  refine gk_ret1 Tryz.results145 rfl ?_
  exact ⟨_, rfl, by kernel_rfl, hS.trans hh⟩

theorem m146 {rb kb : Nat} {w : World} (h : Orc rb kb w) : CR Tryz.prog 146 #[ptr rb] w (fun v w' => v = B 0 ∧ w'.heap = w.heap) := by
  refine cr_enter Tryz.func146 rfl Tryz.ntmps146 ?_
  refine gk_seq ?_
  refine gk_region ?_
  refine gr_v (ev_as rfl) ?_
  refine gr_nil ?_
  refine gk_seq ?_
  refine gk_region ?_
  refine gr_v (ev_mv rfl) ?_
  refine gr_v (ev_nil rfl) ?_
  refine gr_v (ev_fa (j := 0) rfl Tryz.runUnderlying208 rfl Tryz.sizeOf200 rfl rfl) ?_
  refine gr_call (ec_func Tryz.call268 rfl) (t268 (vo := 16) (r := 19) h (by decide) (by kernel_rfl)) ?_
  rintro _ w1 ⟨rfl, hh⟩
  have h1 := h.same hh
  refine gr_v (ev_cv (r := 19) rfl ⟨_, Tryz.runUnderlying255⟩ Tryz.runUnderlying65 (by decide)) ?_
  refine gr_v (ev_as rfl) ?_
  refine gr_nil ?_
  refine gk_seq ?_
  refine gk_seq ?_
  refine gk_region ?_
  refine gr_v (ev_mv rfl) ?_
  refine gr_bb (b' := true) (ev_neq rfl rfl) (by decide) ?_
  refine gr_nil ?_
  refine gk_true rfl rfl ?_
  refine gk_seq ?_
  refine gk_draw (fun w' => w'.heap = w1.heap) (by kernel_rfl) ?_
  have hS : w1.drew.heap = w1.heap := rfl
  refine ga_take 0 rfl (by kernel_rfl) (fun _ _ => (ev_mv rfl)) hS ?_
  refine ga_take 1 rfl (by kernel_rfl) (fun _ _ => (ev_nil rfl)) hS ?_
  refine ga_take 2 rfl (by kernel_rfl) (fun _ _ => (ev_fa (j := 0) rfl Tryz.runUnderlying208 rfl Tryz.sizeOf200 rfl rfl)) hS ?_
  refine ga_take 3 rfl (by kernel_rfl) (fun _ _ => (ev_mv rfl)) hS ?_
  refine ga_take 4 rfl (by kernel_rfl) (fun _ _ => (ev_mv rfl)) hS ?_
  refine ga_take 5 rfl (by kernel_rfl) (fun _ _ => (ev_nil rfl)) hS ?_
  refine ga_take 6 rfl (by kernel_rfl) (fun _ _ => (ev_fa (j := 0) rfl Tryz.runUnderlying208 rfl Tryz.sizeOf200 rfl rfl)) hS ?_
  refine ga_take 7 rfl (by kernel_rfl) (fun _ _ => (ev_fa (j := 1) rfl Tryz.runUnderlying200 rfl Tryz.sizeOf65 rfl rfl)) hS ?_
  refine ga_take 8 rfl (by kernel_rfl) (fun _ hs => (ev_ld rfl Tryz.isAgg65 (by rw [hs]; exact h1.r) (by rfl))) hS ?_
  refine ga_take 9 rfl (by kernel_rfl) (fun _ _ => (ev_add (r := 127) rfl rfl (by decide))) hS ?_
  refine ga_call 10 rfl (by kernel_rfl) (ec_func Tryz.call271 rfl) (t271 (o := 127) (h1.same hS) (by decide)) ?_
  rintro _ _ ⟨rfl, rfl⟩
  refine ⟨hS, fun hS => ?_⟩
  refine ga_take 11 rfl (by kernel_rfl) (fun _ _ => (ev_as rfl)) hS ?_
  refine ga_nil (by kernel_rfl) ?_
  refine gk_ret1 Tryz.results146 rfl ?_
  exact ⟨_, rfl, by kernel_rfl, hS.trans hh⟩

theorem m157 {rb kb : Nat} {w : World} (h : Orc rb kb w) : CR Tryz.prog 157 #[ptr rb] w (fun v w' => v = .float .f32 0 ∧ w'.heap = w.heap) := by
  refine cr_enter Tryz.func157 rfl Tryz.ntmps157 ?_
  refine gk_seq ?_
  refine gk_region ?_
  refine gr_v (ev_as rfl) ?_
  refine gr_nil ?_
  refine gk_seq ?_
  refine gk_region ?_
  refine gr_v (ev_mv rfl) ?_
  refine gr_v (ev_nil rfl) ?_
  refine gr_v (ev_fa (j := 0) rfl Tryz.runUnderlying208 rfl Tryz.sizeOf200 rfl rfl) ?_
  refine gr_call (ec_func Tryz.call268 rfl) (t268 (vo := 54) (r := 12) h (by decide) (by kernel_rfl)) ?_
  rintro _ w1 ⟨rfl, hh⟩
  have h1 := h.same hh
  refine gr_v (ev_cv (r := 12) rfl ⟨_, Tryz.runUnderlying255⟩ Tryz.runUnderlying65 (by decide)) ?_
  refine gr_v (ev_as rfl) ?_
  refine gr_nil ?_
  refine gk_seq ?_
  refine gk_seq ?_
  refine gk_region ?_
  refine gr_v (ev_mv rfl) ?_
  refine gr_bb (b' := true) (ev_neq rfl rfl) (by decide) ?_
  refine gr_nil ?_
  refine gk_true rfl rfl ?_
  refine gk_seq ?_
  refine gk_draw (fun w' => w'.heap = w1.heap) (by kernel_rfl) ?_
  have hS : w1.drew.heap = w1.heap := rfl
  refine ga_take 0 rfl (by kernel_rfl) (fun _ _ => (ev_mv rfl)) hS ?_
  refine ga_take 1 rfl (by kernel_rfl) (fun _ _ => (ev_nil rfl)) hS ?_
  refine ga_take 2 rfl (by kernel_rfl) (fun _ _ => (ev_fa (j := 0) rfl Tryz.runUnderlying208 rfl Tryz.sizeOf200 rfl rfl)) hS ?_
  refine ga_take 3 rfl (by kernel_rfl) (fun _ _ => (ev_mv rfl)) hS ?_
  refine ga_take 4 rfl (by kernel_rfl) (fun _ _ => (ev_mv rfl)) hS ?_
  refine ga_take 5 rfl (by kernel_rfl) (fun _ _ => (ev_nil rfl)) hS ?_
  refine ga_take 6 rfl (by kernel_rfl) (fun _ _ => (ev_fa (j := 0) rfl Tryz.runUnderlying208 rfl Tryz.sizeOf200 rfl rfl)) hS ?_
  refine ga_take 7 rfl (by kernel_rfl) (fun _ _ => (ev_fa (j := 1) rfl Tryz.runUnderlying200 rfl Tryz.sizeOf65 rfl rfl)) hS ?_
  refine ga_take 8 rfl (by kernel_rfl) (fun _ hs => (ev_ld rfl Tryz.isAgg65 (by rw [hs]; exact h1.r) (by rfl))) hS ?_
  refine ga_take 9 rfl (by kernel_rfl) (fun _ _ => (ev_add (r := 120) rfl rfl (by decide))) hS ?_
  refine ga_call 10 rfl (by kernel_rfl) (ec_func Tryz.call277 rfl) (t277 (o := 120) (h1.same hS) (by decide)) ?_
  rintro _ _ ⟨rfl, rfl⟩
  refine ⟨hS, fun hS => ?_⟩
  refine ga_take 11 rfl (by kernel_rfl) (fun _ _ => (ev_as rfl)) hS ?_
  refine ga_nil (by kernel_rfl) ?_
  refine gk_ret1 Tryz.results157 rfl ?_
  exact ⟨_, rfl, by kernel_rfl, hS.trans hh⟩

theorem m158 {rb kb : Nat} {w : World} (h : Orc rb kb w) : CR Tryz.prog 158 #[ptr rb] w (fun v w' => v = .float .f32 0 ∧ w'.heap = w.heap) := by
  refine cr_enter Tryz.func158 rfl Tryz.ntmps158 ?_
  refine gk_seq ?_
  refine gk_region ?_
  refine gr_v (ev_as rfl) ?_
  refine gr_nil ?_
  refine gk_seq ?_
  refine gk_region ?_
  refine gr_v (ev_mv rfl) ?_
  refine gr_v (ev_nil rfl) ?_
  refine gr_v (ev_fa (j := 0) rfl Tryz.runUnderlying208 rfl Tryz.sizeOf200 rfl rfl) ?_
  refine gr_call (ec_func Tryz.call268 rfl) (t268 (vo := 56) (r := 8) h (by decide) (by kernel_rfl)) ?_
  rintro _ w1 ⟨rfl, hh⟩
  have h1 := h.same hh
  refine gr_v (ev_cv (r := 8) rfl ⟨_, Tryz.runUnderlying255⟩ Tryz.runUnderlying65 (by decide)) ?_
  refine gr_v (ev_as rfl) ?_
  refine gr_nil ?_
  refine gk_seq ?_
  refine gk_seq ?_
  refine gk_region ?_
  refine gr_v (ev_mv rfl) ?_
  refine gr_bb (b' := true) (ev_neq rfl rfl) (by decide) ?_
  refine gr_nil ?_
  refine gk_true rfl rfl ?_
  refine gk_seq ?_
  refine gk_draw (fun w' => w'.heap = w1.heap) (by kernel_rfl) ?_
  have hS : w1.drew.heap = w1.heap := rfl
  refine ga_take 0 rfl (by kernel_rfl) (fun _ _ => (ev_mv rfl)) hS ?_
  refine ga_take 1 rfl (by kernel_rfl) (fun _ _ => (ev_nil rfl)) hS ?_
  refine ga_take 2 rfl (by kernel_rfl) (fun _ _ => (ev_fa (j := 0) rfl Tryz.runUnderlying208 rfl Tryz.sizeOf200 rfl rfl)) hS ?_
  refine ga_take 3 rfl (by kernel_rfl) (fun _ _ => (ev_mv rfl)) hS ?_
  refine ga_take 4 rfl (by kernel_rfl) (fun _ _ => (ev_mv rfl)) hS ?_
  refine ga_take 5 rfl (by kernel_rfl) (fun _ _ => (ev_nil rfl)) hS ?_
  refine ga_take 6 rfl (by kernel_rfl) (fun _ _ => (ev_fa (j := 0) rfl Tryz.runUnderlying208 rfl Tryz.sizeOf200 rfl rfl)) hS ?_
  refine ga_take 7 rfl (by kernel_rfl) (fun _ _ => (ev_fa (j := 1) rfl Tryz.runUnderlying200 rfl Tryz.sizeOf65 rfl rfl)) hS ?_
  refine ga_take 8 rfl (by kernel_rfl) (fun _ hs => (ev_ld rfl Tryz.isAgg65 (by rw [hs]; exact h1.r) (by rfl))) hS ?_
  refine ga_take 9 rfl (by kernel_rfl) (fun _ _ => (ev_add (r := 116) rfl rfl (by decide))) hS ?_
  refine ga_call 10 rfl (by kernel_rfl) (ec_func Tryz.call277 rfl) (t277 (o := 116) (h1.same hS) (by decide)) ?_
  rintro _ _ ⟨rfl, rfl⟩
  refine ⟨hS, fun hS => ?_⟩
  refine ga_take 11 rfl (by kernel_rfl) (fun _ _ => (ev_as rfl)) hS ?_
  refine ga_nil (by kernel_rfl) ?_
  refine gk_ret1 Tryz.results158 rfl ?_
  exact ⟨_, rfl, by kernel_rfl, hS.trans hh⟩

theorem m164 {rb kb : Nat} {w : World} (h : Orc rb kb w) : CR Tryz.prog 164 #[ptr rb] w (fun v w' => v = .int .i8 0 ∧ w'.heap = w.heap) := by
  refine cr_enter Tryz.func164 rfl Tryz.ntmps164 ?_
  refine gk_seq ?_
  refine gk_region ?_
  refine gr_v (ev_as rfl) ?_
  refine gr_nil ?_
  refine gk_seq ?_
  refine gk_region ?_
  refine gr_v (ev_mv rfl) ?_
  refine gr_v (ev_nil rfl) ?_
  refine gr_v (ev_fa (j := 0) rfl Tryz.runUnderlying208 rfl Tryz.sizeOf200 rfl rfl) ?_
  refine gr_call (ec_func Tryz.call268 rfl) (t268 (vo := 100) (r := 7) h (by decide) (by kernel_rfl)) ?_
  rintro _ w1 ⟨rfl, hh⟩
  have h1 := h.same hh
  refine gr_v (ev_cv (r := 7) rfl ⟨_, Tryz.runUnderlying255⟩ Tryz.runUnderlying65 (by decide)) ?_
  refine gr_v (ev_as rfl) ?_
  refine gr_nil ?_
  refine gk_seq ?_
  refine gk_seq ?_
  refine gk_region ?_
  refine gr_v (ev_mv rfl) ?_
  refine gr_bb (b' := true) (ev_neq rfl rfl) (by decide) ?_
  refine gr_nil ?_
  refine gk_true rfl rfl ?_
  refine gk_seq ?_
  refine gk_draw (fun w' => w'.heap = w1.heap) (by kernel_rfl) ?_
  have hS : w1.drew.heap = w1.heap := rfl
  refine ga_take 0 rfl (by kernel_rfl) (fun _ _ => (ev_mv rfl)) hS ?_
  refine ga_take 1 rfl (by kernel_rfl) (fun _ _ => (ev_nil rfl)) hS ?_
  refine ga_take 2 rfl (by kernel_rfl) (fun _ _ => (ev_fa (j := 0) rfl Tryz.runUnderlying208 rfl Tryz.sizeOf200 rfl rfl)) hS ?_
  refine ga_take 3 rfl (by kernel_rfl) (fun _ _ => (ev_mv rfl)) hS ?_
  refine ga_take 4 rfl (by kernel_rfl) (fun _ _ => (ev_mv rfl)) hS ?_
  refine ga_take 5 rfl (by kernel_rfl) (fun _ _ => (ev_nil rfl)) hS ?_
  refine ga_take 6 rfl (by kernel_rfl) (fun _ _ => (ev_fa (j := 0) rfl Tryz.runUnderlying208 rfl Tryz.sizeOf200 rfl rfl)) hS ?_
  refine ga_take 7 rfl (by kernel_rfl) (fun _ _ => (ev_fa (j := 1) rfl Tryz.runUnderlying200 rfl Tryz.sizeOf65 rfl rfl)) hS ?_
  refine ga_take 8 rfl (by kernel_rfl) (fun _ hs => (ev_ld rfl Tryz.isAgg65 (by rw [hs]; exact h1.r) (by rfl))) hS ?_
  refine ga_take 9 rfl (by kernel_rfl) (fun _ _ => (ev_add (r := 115) rfl rfl (by decide))) hS ?_
  refine ga_call 10 rfl (by kernel_rfl) (ec_func Tryz.call280 rfl) (t280 (o := 115) (h1.same hS) (by decide)) ?_
  rintro _ _ ⟨rfl, rfl⟩
  refine ⟨hS, fun hS => ?_⟩
  refine ga_take 11 rfl (by kernel_rfl) (fun _ _ => (ev_as rfl)) hS ?_
  refine ga_nil (by kernel_rfl) ?_
  refine gk_ret1 Tryz.results164 rfl ?_
  exact ⟨_, rfl, by kernel_rfl, hS.trans hh⟩

end Go.Proofs.YtjaplgfgkigmiaaGreat