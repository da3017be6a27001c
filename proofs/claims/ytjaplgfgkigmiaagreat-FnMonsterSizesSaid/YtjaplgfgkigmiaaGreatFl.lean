/-
  Short lists, floating point numbers, sizes: some bool each.
-/
import Derived.Test.YtjaplgfgkigmiaaGreatCl
namespace Go.Proofs.YtjaplgfgkigmiaaGreat
open Go Go.Proofs


theorem k36 (m : Int) (w : World) : CR Tryz.prog 36 #[.int .i64 m] w (fun v w' => v = .bool (decide (m ≤ 50)) ∧ w = w') := by
  refine cr_enter Tryz.func36 rfl Tryz.ntmps36 ?_
  refine gk_seq ?_
  refine gk_region ?_
  refine gr_v (ev_as rfl) ?_
  refine gr_nil ?_
  refine gk_seq ?_
  refine gk_region ?_
  refine gr_v (ev_mv rfl) ?_
  refine gr_v (ev_leq rfl rfl) ?_
  refine gr_v (ev_as rfl) ?_
  refine gr_nil ?_
  refine gk_ret1 Tryz.results36 rfl ?_
  exact ⟨_, rfl, rfl, rfl⟩

theorem k142_9 (m : Int) (w : World) : CR Tryz.prog 142 #[.int .u8 9, .int .u64 m] w (fun v w' => (∃ b, v = .bool b) ∧ w = w') := by
  refine cr_enter Tryz.func142 rfl Tryz.ntmps142 ?_
  refine gk_seq ?_
  refine gk_region ?_
  refine gr_v (ev_as rfl) ?_
  refine gr_nil ?_
  refine gk_seq ?_
  refine gk_seq ?_
  refine gk_region ?_
  refine gr_v (ev_mv rfl) ?_
  refine gr_nil ?_
  refine gk_block ?_
  refine gk_seq ?_
  refine gk_region ?_
  refine gr_bb (ev_eql rfl rfl) (rfl) ?_
  refine gr_v (ev_as rfl) ?_
  refine gr_nil ?_
  refine gk_false rfl rfl ?_
  refine gk_seq ?_
  refine gk_region ?_
  refine gr_bb (ev_eql rfl rfl) (rfl) ?_
  refine gr_v (ev_as rfl) ?_
  refine gr_nil ?_
  refine gk_true rfl rfl ?_
  refine gk_seq ?_
  refine gk_region ?_
  refine gr_v (ev_mv rfl) ?_
  refine gr_b (ev_lss rfl rfl) (fun hd5_1 => ?_) (fun hd5_1 => ?_)
  · skip
    refine gr_v (ev_mv rfl) ?_
    refine gr_gv rfl rfl rfl (ev_mv rfl) ?_
    refine gr_gv rfl rfl rfl (ev_shr rfl rfl rfl rfl rfl) ?_
    refine gr_gv rfl rfl rfl (ev_and rfl rfl rfl) ?_
    refine gr_gb rfl rfl rfl (ev_eql rfl rfl) (fun hd5_6 => ?_) (fun hd5_6 => ?_)
    · skip
      refine gr_gv rfl rfl rfl (ev_mv rfl) ?_
      refine gr_gv rfl rfl rfl (ev_mv rfl) ?_
      refine gr_gv rfl rfl rfl (ev_and rfl rfl rfl) ?_
      refine gr_gb rfl rfl rfl (ev_neq rfl rfl) (fun hd5_10 => ?_) (fun hd5_10 => ?_)
      · skip
        refine gr_gv rfl rfl rfl (ev_pickT rfl rfl rfl) ?_
        refine gr_gv rfl rfl rfl (ev_not rfl) ?_
        refine gr_v (ev_pickT rfl rfl rfl) ?_
        refine gr_v (ev_as rfl) ?_
        refine gr_nil ?_
        refine gk_ret1 Tryz.results142 rfl ?_
        exact ⟨_, rfl, ⟨_, rfl⟩, rfl⟩
      · skip
        refine gr_gv rfl rfl rfl (ev_pickT rfl rfl rfl) ?_
        refine gr_gv rfl rfl rfl (ev_not rfl) ?_
        refine gr_v (ev_pickT rfl rfl rfl) ?_
        refine gr_v (ev_as rfl) ?_
        refine gr_nil ?_
        refine gk_ret1 Tryz.results142 rfl ?_
        exact ⟨_, rfl, ⟨_, rfl⟩, rfl⟩
    · skip
      refine gr_gv rfl rfl rfl (ev_mv rfl) ?_
      refine gr_gs rfl rfl rfl ?_
      refine gr_gs rfl rfl rfl ?_
      refine gr_gs rfl rfl rfl ?_
      refine gr_gv rfl rfl rfl (ev_pickF rfl rfl rfl) ?_
      refine gr_gv rfl rfl rfl (ev_not rfl) ?_
      refine gr_v (ev_pickT rfl rfl rfl) ?_
      refine gr_v (ev_as rfl) ?_
      refine gr_nil ?_
      refine gk_ret1 Tryz.results142 rfl ?_
      exact ⟨_, rfl, ⟨_, rfl⟩, rfl⟩
  · skip
    refine gr_v (ev_mv rfl) ?_
    refine gr_gs rfl rfl rfl ?_
    refine gr_gs rfl rfl rfl ?_
    refine gr_gs rfl rfl rfl ?_
    refine gr_gs rfl rfl rfl ?_
    refine gr_gs rfl rfl rfl ?_
    refine gr_gu rfl rfl ?_
    refine gr_gu rfl rfl ?_
    refine gr_gu rfl rfl ?_
    refine gr_gs rfl rfl rfl ?_
    refine gr_gs rfl rfl rfl ?_
    refine gr_v (ev_pickF rfl rfl rfl) ?_
    refine gr_v (ev_as rfl) ?_
    refine gr_nil ?_
    refine gk_ret1 Tryz.results142 rfl ?_
    exact ⟨_, rfl, ⟨_, rfl⟩, rfl⟩

theorem k142_10 (m : Int) (w : World) : CR Tryz.prog 142 #[.int .u8 10, .int .u64 m] w (fun v w' => (∃ b, v = .bool b) ∧ w = w') := by
  refine cr_enter Tryz.func142 rfl Tryz.ntmps142 ?_
  refine gk_seq ?_
  refine gk_region ?_
  refine gr_v (ev_as rfl) ?_
  refine gr_nil ?_
  refine gk_seq ?_
  refine gk_seq ?_
  refine gk_region ?_
  refine gr_v (ev_mv rfl) ?_
  refine gr_nil ?_
  refine gk_block ?_
  refine gk_seq ?_
  refine gk_region ?_
  refine gr_bb (ev_eql rfl rfl) (rfl) ?_
  refine gr_v (ev_as rfl) ?_
  refine gr_nil ?_
  refine gk_false rfl rfl ?_
  refine gk_seq ?_
  refine gk_region ?_
  refine gr_bb (ev_eql rfl rfl) (rfl) ?_
  refine gr_v (ev_as rfl) ?_
  refine gr_nil ?_
  refine gk_false rfl rfl ?_
  refine gk_seq ?_
  refine gk_region ?_
  refine gr_bb (ev_eql rfl rfl) (rfl) ?_
  refine gr_v (ev_as rfl) ?_
  refine gr_nil ?_
  refine gk_true rfl rfl ?_
  refine gk_seq ?_
  refine gk_region ?_
  refine gr_v (ev_mv rfl) ?_
  refine gr_v (ev_shr rfl rfl rfl rfl rfl) ?_
  refine gr_v (ev_and rfl rfl rfl) ?_
  refine gr_b (ev_eql rfl rfl) (fun hd7_3 => ?_) (fun hd7_3 => ?_)
  · skip
    refine gr_v (ev_mv rfl) ?_
    refine gr_gv rfl rfl rfl (ev_mv rfl) ?_
    refine gr_gv rfl rfl rfl (ev_and rfl rfl rfl) ?_
    refine gr_gb rfl rfl rfl (ev_neq rfl rfl) (fun hd7_7 => ?_) (fun hd7_7 => ?_)
    · skip
      refine gr_v (ev_pickT rfl rfl rfl) ?_
      refine gr_v (ev_not rfl) ?_
      refine gr_v (ev_as rfl) ?_
      refine gr_nil ?_
      refine gk_ret1 Tryz.results142 rfl ?_
      exact ⟨_, rfl, ⟨_, rfl⟩, rfl⟩
    · skip
      refine gr_v (ev_pickT rfl rfl rfl) ?_
      refine gr_v (ev_not rfl) ?_
      refine gr_v (ev_as rfl) ?_
      refine gr_nil ?_
      refine gk_ret1 Tryz.results142 rfl ?_
      exact ⟨_, rfl, ⟨_, rfl⟩, rfl⟩
  · skip
    refine gr_v (ev_mv rfl) ?_
    refine gr_gs rfl rfl rfl ?_
    refine gr_gs rfl rfl rfl ?_
    refine gr_gs rfl rfl rfl ?_
    refine gr_v (ev_pickF rfl rfl rfl) ?_
    refine gr_v (ev_not rfl) ?_
    refine gr_v (ev_as rfl) ?_
    refine gr_nil ?_
    refine gk_ret1 Tryz.results142 rfl ?_
    exact ⟨_, rfl, ⟨_, rfl⟩, rfl⟩

theorem k37_9 (m : Int) (w : World) : CR Tryz.prog 37 #[.int .u8 9, .int .u64 m] w (fun v w' => (∃ b, v = .bool b) ∧ w = w') := by
  refine cr_enter Tryz.func37 rfl Tryz.ntmps37 ?_
  refine gk_seq ?_
  refine gk_region ?_
  refine gr_v (ev_as rfl) ?_
  refine gr_nil ?_
  refine gk_seq ?_
  refine gk_region ?_
  refine gr_v (ev_mv rfl) ?_
  refine gr_v (ev_mv rfl) ?_
  refine gr_call (ec_func Tryz.call142 rfl) (k142_9 m _) ?_
  rintro _ _ ⟨⟨b, rfl⟩, rfl⟩
  refine gr_v (ev_as rfl) ?_
  refine gr_nil ?_
  refine gk_ret1 Tryz.results37 rfl ?_
  exact ⟨_, rfl, ⟨_, rfl⟩, rfl⟩

theorem k37_10 (m : Int) (w : World) : CR Tryz.prog 37 #[.int .u8 10, .int .u64 m] w (fun v w' => (∃ b, v = .bool b) ∧ w = w') := by
  refine cr_enter Tryz.func37 rfl Tryz.ntmps37 ?_
  refine gk_seq ?_
  refine gk_region ?_
  refine gr_v (ev_as rfl) ?_
  refine gr_nil ?_
  refine gk_seq ?_
  refine gk_region ?_
  refine gr_v (ev_mv rfl) ?_
  refine gr_v (ev_mv rfl) ?_
  refine gr_call (ec_func Tryz.call142 rfl) (k142_10 m _) ?_
  rintro _ _ ⟨⟨b, rfl⟩, rfl⟩
  refine gr_v (ev_as rfl) ?_
  refine gr_nil ?_
  refine gk_ret1 Tryz.results37 rfl ?_
  exact ⟨_, rfl, ⟨_, rfl⟩, rfl⟩

end Go.Proofs.YtjaplgfgkigmiaaGreat