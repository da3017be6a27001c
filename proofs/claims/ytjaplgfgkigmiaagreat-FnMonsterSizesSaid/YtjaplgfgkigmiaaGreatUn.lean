/-
  Unions packed.
-/
import Derived.Test.YtjaplgfgkigmiaaGreatPk
namespace Go.Proofs.YtjaplgfgkigmiaaGreat
open Go Go.Proofs

theorem u60_1 {M : Mem} {p : Nat} {x : Value} {pk : PK} {fz : Nat × Nat} (hp : M p = some (.cells #[.int .u8 1, .iface 66 x] 146 fz)) (hx : Packs 18 M x pk) : Packs 60 M (ptr p) pk := by
  intro F w bb S r S' hE h hm
  refine cr_enter Tryz.func60 rfl Tryz.ntmps60 ?_
  refine gk_seq ?_
  refine gk_region ?_
  refine gr_v (ev_as rfl) ?_
  refine gr_nil ?_
  refine gk_seq ?_
  refine gk_seq ?_
  refine gk_region ?_
  refine gr_v (ev_mv rfl) ?_
  refine gr_v (ev_pointereql rfl rfl Tryz.runUnderlying121) ?_
  refine gr_nil ?_
  refine gk_false rfl (rfl) ?_
  refine gk_skip ?_
  refine gk_seq ?_
  refine gk_seq ?_
  refine gk_region ?_
  refine gr_v (ev_mv rfl) ?_
  refine gr_v (ev_nil rfl) ?_
  refine gr_v (ev_fa (j := 0) rfl Tryz.runUnderlying146 rfl Tryz.sizeOf143 rfl rfl) ?_
  refine gr_v (ev_ld rfl Tryz.isAgg143 (by exact (hE _ _ hp).2) (by rfl)) ?_
  refine gr_nil ?_
  refine gk_block ?_
  refine gk_seq ?_
  refine gk_region ?_
  refine gr_v (ev_eql rfl rfl) ?_
  refine gr_v (ev_as rfl) ?_
  refine gr_nil ?_
  refine gk_true rfl (rfl) ?_
  refine gk_seq ?_
  refine gk_region ?_
  refine gr_v (ev_mv rfl) ?_
  refine gr_v (ev_nil rfl) ?_
  refine gr_v (ev_fa (j := 1) rfl Tryz.runUnderlying146 rfl Tryz.sizeOf20 rfl rfl) ?_
  refine gr_v (ev_ld rfl Tryz.isAgg20 (by exact (hE _ _ hp).2) (by rfl)) ?_
  refine gr_v (ev_asrt rfl Tryz.runUnderlying66 rfl) ?_
  refine gr_v (ev_mv rfl) ?_
  refine gr_call (ec_func Tryz.call18 rfl) (hx F w bb S r S' hE h hm) ?_
  rintro _ w1 ⟨rfl, hB1, hK1⟩
  refine gr_v (ev_as rfl) ?_
  refine gr_nil ?_
  refine gk_ret1 Tryz.results60 rfl ?_
  exact ⟨_, rfl, rfl, hB1, hK1⟩

theorem u60_2 {M : Mem} {p : Nat} {x : Value} {pk : PK} {fz : Nat × Nat} (hp : M p = some (.cells #[.int .u8 2, .iface 234 x] 146 fz)) (hx : Packs 233 M x pk) : Packs 60 M (ptr p) pk := by
  intro F w bb S r S' hE h hm
  refine cr_enter Tryz.func60 rfl Tryz.ntmps60 ?_
  refine gk_seq ?_
  refine gk_region ?_
  refine gr_v (ev_as rfl) ?_
  refine gr_nil ?_
  refine gk_seq ?_
  refine gk_seq ?_
  refine gk_region ?_
  refine gr_v (ev_mv rfl) ?_
  refine gr_v (ev_pointereql rfl rfl Tryz.runUnderlying121) ?_
  refine gr_nil ?_
  refine gk_false rfl (rfl) ?_
  refine gk_skip ?_
  refine gk_seq ?_
  refine gk_seq ?_
  refine gk_region ?_
  refine gr_v (ev_mv rfl) ?_
  refine gr_v (ev_nil rfl) ?_
  refine gr_v (ev_fa (j := 0) rfl Tryz.runUnderlying146 rfl Tryz.sizeOf143 rfl rfl) ?_
  refine gr_v (ev_ld rfl Tryz.isAgg143 (by exact (hE _ _ hp).2) (by rfl)) ?_
  refine gr_nil ?_
  refine gk_block ?_
  refine gk_seq ?_
  refine gk_region ?_
  refine gr_v (ev_eql rfl rfl) ?_
  refine gr_v (ev_as rfl) ?_
  refine gr_nil ?_
  refine gk_false rfl (rfl) ?_
  refine gk_seq ?_
  refine gk_region ?_
  refine gr_v (ev_eql rfl rfl) ?_
  refine gr_v (ev_as rfl) ?_
  refine gr_nil ?_
  refine gk_true rfl (rfl) ?_
  refine gk_seq ?_
  refine gk_region ?_
  refine gr_v (ev_mv rfl) ?_
  refine gr_v (ev_nil rfl) ?_
  refine gr_v (ev_fa (j := 1) rfl Tryz.runUnderlying146 rfl Tryz.sizeOf20 rfl rfl) ?_
  refine gr_v (ev_ld rfl Tryz.isAgg20 (by exact (hE _ _ hp).2) (by rfl)) ?_
  refine gr_v (ev_asrt rfl Tryz.runUnderlying234 rfl) ?_
  refine gr_v (ev_mv rfl) ?_
  refine gr_call (ec_func Tryz.call233 rfl) (hx F w bb S r S' hE h hm) ?_
  rintro _ w1 ⟨rfl, hB1, hK1⟩
  refine gr_v (ev_as rfl) ?_
  refine gr_nil ?_
  refine gk_ret1 Tryz.results60 rfl ?_
  exact ⟨_, rfl, rfl, hB1, hK1⟩

theorem u85_1 {M : Mem} {p : Nat} {x : Value} {pk : PK} {fz : Nat × Nat} (hp : M p = some (.cells #[.int .u8 1, .iface 66 x] 149 fz)) (hx : Packs 18 M x pk) : Packs 85 M (ptr p) pk := by
  intro F w bb S r S' hE h hm
  refine cr_enter Tryz.func85 rfl Tryz.ntmps85 ?_
  refine gk_seq ?_
  refine gk_region ?_
  refine gr_v (ev_as rfl) ?_
  refine gr_nil ?_
  refine gk_seq ?_
  refine gk_seq ?_
  refine gk_region ?_
  refine gr_v (ev_mv rfl) ?_
  refine gr_v (ev_pointereql rfl rfl Tryz.runUnderlying127) ?_
  refine gr_nil ?_
  refine gk_false rfl (rfl) ?_
  refine gk_skip ?_
  refine gk_seq ?_
  refine gk_seq ?_
  refine gk_region ?_
  refine gr_v (ev_mv rfl) ?_
  refine gr_v (ev_nil rfl) ?_
  refine gr_v (ev_fa (j := 0) rfl Tryz.runUnderlying149 rfl Tryz.sizeOf147 rfl rfl) ?_
  refine gr_v (ev_ld rfl Tryz.isAgg147 (by exact (hE _ _ hp).2) (by rfl)) ?_
  refine gr_nil ?_
  refine gk_block ?_
  refine gk_seq ?_
  refine gk_region ?_
  refine gr_v (ev_eql rfl rfl) ?_
  refine gr_v (ev_as rfl) ?_
  refine gr_nil ?_
  refine gk_true rfl (rfl) ?_
  refine gk_seq ?_
  refine gk_region ?_
  refine gr_v (ev_mv rfl) ?_
  refine gr_v (ev_nil rfl) ?_
  refine gr_v (ev_fa (j := 1) rfl Tryz.runUnderlying149 rfl Tryz.sizeOf20 rfl rfl) ?_
  refine gr_v (ev_ld rfl Tryz.isAgg20 (by exact (hE _ _ hp).2) (by rfl)) ?_
  refine gr_v (ev_asrt rfl Tryz.runUnderlying66 rfl) ?_
  refine gr_v (ev_mv rfl) ?_
  refine gr_call (ec_func Tryz.call18 rfl) (hx F w bb S r S' hE h hm) ?_
  rintro _ w1 ⟨rfl, hB1, hK1⟩
  refine gr_v (ev_as rfl) ?_
  refine gr_nil ?_
  refine gk_ret1 Tryz.results85 rfl ?_
  exact ⟨_, rfl, rfl, hB1, hK1⟩

theorem u85_2 {M : Mem} {p : Nat} {x : Value} {pk : PK} {fz : Nat × Nat} (hp : M p = some (.cells #[.int .u8 2, .iface 234 x] 149 fz)) (hx : Packs 233 M x pk) : Packs 85 M (ptr p) pk := by
  intro F w bb S r S' hE h hm
  refine cr_enter Tryz.func85 rfl Tryz.ntmps85 ?_
  refine gk_seq ?_
  refine gk_region ?_
  refine gr_v (ev_as rfl) ?_
  refine gr_nil ?_
  refine gk_seq ?_
  refine gk_seq ?_
  refine gk_region ?_
  refine gr_v (ev_mv rfl) ?_
  refine gr_v (ev_pointereql rfl rfl Tryz.runUnderlying127) ?_
  refine gr_nil ?_
  refine gk_false rfl (rfl) ?_
  refine gk_skip ?_
  refine gk_seq ?_
  refine gk_seq ?_
  refine gk_region ?_
  refine gr_v (ev_mv rfl) ?_
  refine gr_v (ev_nil rfl) ?_
  refine gr_v (ev_fa (j := 0) rfl Tryz.runUnderlying149 rfl Tryz.sizeOf147 rfl rfl) ?_
  refine gr_v (ev_ld rfl Tryz.isAgg147 (by exact (hE _ _ hp).2) (by rfl)) ?_
  refine gr_nil ?_
  refine gk_block ?_
  refine gk_seq ?_
  refine gk_region ?_
  refine gr_v (ev_eql rfl rfl) ?_
  refine gr_v (ev_as rfl) ?_
  refine gr_nil ?_
  refine gk_false rfl (rfl) ?_
  refine gk_seq ?_
  refine gk_region ?_
  refine gr_v (ev_eql rfl rfl) ?_
  refine gr_v (ev_as rfl) ?_
  refine gr_nil ?_
  refine gk_true rfl (rfl) ?_
  refine gk_seq ?_
  refine gk_region ?_
  refine gr_v (ev_mv rfl) ?_
  refine gr_v (ev_nil rfl) ?_
  refine gr_v (ev_fa (j := 1) rfl Tryz.runUnderlying149 rfl Tryz.sizeOf20 rfl rfl) ?_
  refine gr_v (ev_ld rfl Tryz.isAgg20 (by exact (hE _ _ hp).2) (by rfl)) ?_
  refine gr_v (ev_asrt rfl Tryz.runUnderlying234 rfl) ?_
  refine gr_v (ev_mv rfl) ?_
  refine gr_call (ec_func Tryz.call233 rfl) (hx F w bb S r S' hE h hm) ?_
  rintro _ w1 ⟨rfl, hB1, hK1⟩
  refine gr_v (ev_as rfl) ?_
  refine gr_nil ?_
  refine gk_ret1 Tryz.results85 rfl ?_
  exact ⟨_, rfl, rfl, hB1, hK1⟩

theorem u86_1 {M : Mem} {p : Nat} {x : Value} {pk : PK} {fz : Nat × Nat} (hp : M p = some (.cells #[.int .u8 1, .iface 66 x] 153 fz)) (hx : Packs 18 M x pk) : Packs 86 M (ptr p) pk := by
  intro F w bb S r S' hE h hm
  refine cr_enter Tryz.func86 rfl Tryz.ntmps86 ?_
  refine gk_seq ?_
  refine gk_region ?_
  refine gr_v (ev_as rfl) ?_
  refine gr_nil ?_
  refine gk_seq ?_
  refine gk_seq ?_
  refine gk_region ?_
  refine gr_v (ev_mv rfl) ?_
  refine gr_v (ev_pointereql rfl rfl Tryz.runUnderlying128) ?_
  refine gr_nil ?_
  refine gk_false rfl (rfl) ?_
  refine gk_skip ?_
  refine gk_seq ?_
  refine gk_seq ?_
  refine gk_region ?_
  refine gr_v (ev_mv rfl) ?_
  refine gr_v (ev_nil rfl) ?_
  refine gr_v (ev_fa (j := 0) rfl Tryz.runUnderlying153 rfl Tryz.sizeOf150 rfl rfl) ?_
  refine gr_v (ev_ld rfl Tryz.isAgg150 (by exact (hE _ _ hp).2) (by rfl)) ?_
  refine gr_nil ?_
  refine gk_block ?_
  refine gk_seq ?_
  refine gk_region ?_
  refine gr_v (ev_eql rfl rfl) ?_
  refine gr_v (ev_as rfl) ?_
  refine gr_nil ?_
  refine gk_true rfl (rfl) ?_
  refine gk_seq ?_
  refine gk_region ?_
  refine gr_v (ev_mv rfl) ?_
  refine gr_v (ev_nil rfl) ?_
  refine gr_v (ev_fa (j := 1) rfl Tryz.runUnderlying153 rfl Tryz.sizeOf20 rfl rfl) ?_
  refine gr_v (ev_ld rfl Tryz.isAgg20 (by exact (hE _ _ hp).2) (by rfl)) ?_
  refine gr_v (ev_asrt rfl Tryz.runUnderlying66 rfl) ?_
  refine gr_v (ev_mv rfl) ?_
  refine gr_call (ec_func Tryz.call18 rfl) (hx F w bb S r S' hE h hm) ?_
  rintro _ w1 ⟨rfl, hB1, hK1⟩
  refine gr_v (ev_as rfl) ?_
  refine gr_nil ?_
  refine gk_ret1 Tryz.results86 rfl ?_
  exact ⟨_, rfl, rfl, hB1, hK1⟩

theorem u86_2 {M : Mem} {p : Nat} {x : Value} {pk : PK} {fz : Nat × Nat} (hp : M p = some (.cells #[.int .u8 2, .iface 66 x] 153 fz)) (hx : Packs 18 M x pk) : Packs 86 M (ptr p) pk := by
  intro F w bb S r S' hE h hm
  refine cr_enter Tryz.func86 rfl Tryz.ntmps86 ?_
  refine gk_seq ?_
  refine gk_region ?_
  refine gr_v (ev_as rfl) ?_
  refine gr_nil ?_
  refine gk_seq ?_
  refine gk_seq ?_
  refine gk_region ?_
  refine gr_v (ev_mv rfl) ?_
  refine gr_v (ev_pointereql rfl rfl Tryz.runUnderlying128) ?_
  refine gr_nil ?_
  refine gk_false rfl (rfl) ?_
  refine gk_skip ?_
  refine gk_seq ?_
  refine gk_seq ?_
  refine gk_region ?_
  refine gr_v (ev_mv rfl) ?_
  refine gr_v (ev_nil rfl) ?_
  refine gr_v (ev_fa (j := 0) rfl Tryz.runUnderlying153 rfl Tryz.sizeOf150 rfl rfl) ?_
  refine gr_v (ev_ld rfl Tryz.isAgg150 (by exact (hE _ _ hp).2) (by rfl)) ?_
  refine gr_nil ?_
  refine gk_block ?_
  refine gk_seq ?_
  refine gk_region ?_
  refine gr_v (ev_eql rfl rfl) ?_
  refine gr_v (ev_as rfl) ?_
  refine gr_nil ?_
  refine gk_false rfl (rfl) ?_
  refine gk_seq ?_
  refine gk_region ?_
  refine gr_v (ev_eql rfl rfl) ?_
  refine gr_v (ev_as rfl) ?_
  refine gr_nil ?_
  refine gk_true rfl (rfl) ?_
  refine gk_seq ?_
  refine gk_region ?_
  refine gr_v (ev_mv rfl) ?_
  refine gr_v (ev_nil rfl) ?_
  refine gr_v (ev_fa (j := 1) rfl Tryz.runUnderlying153 rfl Tryz.sizeOf20 rfl rfl) ?_
  refine gr_v (ev_ld rfl Tryz.isAgg20 (by exact (hE _ _ hp).2) (by rfl)) ?_
  refine gr_v (ev_asrt rfl Tryz.runUnderlying66 rfl) ?_
  refine gr_v (ev_mv rfl) ?_
  refine gr_call (ec_func Tryz.call18 rfl) (hx F w bb S r S' hE h hm) ?_
  rintro _ w1 ⟨rfl, hB1, hK1⟩
  refine gr_v (ev_as rfl) ?_
  refine gr_nil ?_
  refine gk_ret1 Tryz.results86 rfl ?_
  exact ⟨_, rfl, rfl, hB1, hK1⟩

theorem u86_3 {M : Mem} {p : Nat} {x : Value} {pk : PK} {fz : Nat × Nat} (hp : M p = some (.cells #[.int .u8 3, .iface 66 x] 153 fz)) (hx : Packs 18 M x pk) : Packs 86 M (ptr p) pk := by
  intro F w bb S r S' hE h hm
  refine cr_enter Tryz.func86 rfl Tryz.ntmps86 ?_
  refine gk_seq ?_
  refine gk_region ?_
  refine gr_v (ev_as rfl) ?_
  refine gr_nil ?_
  refine gk_seq ?_
  refine gk_seq ?_
  refine gk_region ?_
  refine gr_v (ev_mv rfl) ?_
  refine gr_v (ev_pointereql rfl rfl Tryz.runUnderlying128) ?_
  refine gr_nil ?_
  refine gk_false rfl (rfl) ?_
  refine gk_skip ?_
  refine gk_seq ?_
  refine gk_seq ?_
  refine gk_region ?_
  refine gr_v (ev_mv rfl) ?_
  refine gr_v (ev_nil rfl) ?_
  refine gr_v (ev_fa (j := 0) rfl Tryz.runUnderlying153 rfl Tryz.sizeOf150 rfl rfl) ?_
  refine gr_v (ev_ld rfl Tryz.isAgg150 (by exact (hE _ _ hp).2) (by rfl)) ?_
  refine gr_nil ?_
  refine gk_block ?_
  refine gk_seq ?_
  refine gk_region ?_
  refine gr_v (ev_eql rfl rfl) ?_
  refine gr_v (ev_as rfl) ?_
  refine gr_nil ?_
  refine gk_false rfl (rfl) ?_
  refine gk_seq ?_
  refine gk_region ?_
  refine gr_v (ev_eql rfl rfl) ?_
  refine gr_v (ev_as rfl) ?_
  refine gr_nil ?_
  refine gk_false rfl (rfl) ?_
  refine gk_seq ?_
  refine gk_region ?_
  refine gr_v (ev_eql rfl rfl) ?_
  refine gr_v (ev_as rfl) ?_
  refine gr_nil ?_
  refine gk_true rfl (rfl) ?_
  refine gk_seq ?_
  refine gk_region ?_
  refine gr_v (ev_mv rfl) ?_
  refine gr_v (ev_nil rfl) ?_
  refine gr_v (ev_fa (j := 1) rfl Tryz.runUnderlying153 rfl Tryz.sizeOf20 rfl rfl) ?_
  refine gr_v (ev_ld rfl Tryz.isAgg20 (by exact (hE _ _ hp).2) (by rfl)) ?_
  refine gr_v (ev_asrt rfl Tryz.runUnderlying66 rfl) ?_
  refine gr_v (ev_mv rfl) ?_
  refine gr_call (ec_func Tryz.call18 rfl) (hx F w bb S r S' hE h hm) ?_
  rintro _ w1 ⟨rfl, hB1, hK1⟩
  refine gr_v (ev_as rfl) ?_
  refine gr_nil ?_
  refine gk_ret1 Tryz.results86 rfl ?_
  exact ⟨_, rfl, rfl, hB1, hK1⟩

end Go.Proofs.YtjaplgfgkigmiaaGreat