/-
  The law: true.
-/
import Derived.Test.YtjaplgfgkigmiaaGreatLa
import Derived.Test.YtjaplgfgkigmiaaGreatRe
namespace Go.Proofs.YtjaplgfgkigmiaaGreat
open Go Go.Proofs


theorem m5 {M : Mem} {cs : Array Value} {w : World} (hm : MonR 6 M cs) (hM : Has M w) : CR Tryz.prog 5 #[.agg cs] w (fun v w' => ∃ b, v = .bool b ∧ Old w w' ∧ (b = true → ∃ pk, SpecOK M cs pk ∧ TotV pk 2600000)) := by
  refine cr_enter Tryz.func5 rfl Tryz.ntmps5 ?_
  refine gk_seq ?_
  refine gk_region ?_
  refine gr_box rfl ?_
  intro w1 ho1 hb1 hs1
  refine gr_v (ev_as rfl) ?_
  refine gr_nil ?_
  refine gk_seq ?_
  refine gk_region ?_
  refine gr_al Tryz.zeroValue3 ?_
  intro w2 ho2 hb2 hs2
  refine gr_s (es_st (cs' := #[.int .i64 20]) rfl rfl rfl Tryz.sizeOf3 hb2 rfl rfl) ?_
  obtain ⟨w3, hw3⟩ : ∃ w3, w3 = w2.setB w1.heap.size (.cells #[.int .i64 20] 3 (0, 0)) := ⟨_, rfl⟩
  rw [← hw3]
  have hlb : M w1.heap.size = none := hM.none (by omega)
  have hM3 : Has M w3 := fun b x hb => by rw [hw3]; exact sb_ne (fun e => by rw [← e, hlb] at hb; cases hb) (ho2 _ _ (ho1 _ _ (hM b x hb)))
  have hb3 : w3.heap[w.heap.size]? = some (.cells cs 38 (0, 0)) := by rw [hw3]; exact sb_ne (by omega) (ho2 _ _ hb1)
  have hL : w3.heap[w1.heap.size]? = some (.cells #[.int .i64 ((20 : Nat) : Int)] 3 (0, 0)) := by rw [hw3]; exact sb_same hb2
  have hO3 : Old w w3 := by rw [hw3]; exact (ho1.trans ho2).put (by omega)
  refine gr_nil ?_
  refine gk_seq ?_
  refine gk_region ?_
  refine gr_v (ev_ldall rfl Tryz.isAgg38 Tryz.sizeOf38 hb3 hm.ok.1) ?_
  refine gr_call (ec_func Tryz.call11 rfl) (cleanAt 6 M cs 20 w3 w1.heap.size hm hM3 hlb hL (by decide) (by decide)) ?_
  rintro _ w4 ⟨b, rfl, hK, hb⟩
  refine gr_v (ev_as rfl) ?_
  refine gr_nil ?_
  refine gk_ret1 Tryz.results5 rfl ?_
  refine ⟨_, rfl, b, rfl, fun c x hc => hK c x (by have := lt_of_heap hc; omega) (hO3 c x hc), fun e => ?_⟩
  obtain ⟨L', h1, _, pk, h2, h3⟩ := hb e
  exact ⟨pk, h2, h3.mono (by omega)⟩

theorem ev_stringeq {P : Program} {l : Slots} {w : World} {T t u : TypeId} {x y : Operand} {a : ByteArray} (hx : ev l x = some (.string a)) (hy : ev l y = some (.string a)) : EV P l (.binOp .eql t x y u) T w (.bool true) w := by
  have := ev_stringeql (P := P) (w := w) (T := T) (t := t) (u := u) hx hy
  simpa using this
theorem m3 {d : SD} {x : SV} {w : World} {a b : Nat} (hm : MonR 6 (fun b => w.heap[b]?) (cells52 d x)) {sub : Mem → Array Value → PK → Prop} (hs : SrcR sub (fun b => w.heap[b]?) d x) (hl : d.strs.length ≤ 9223372036854775807 ∧ d.strs2.length ≤ 9223372036854775807 ∧ d.stat.length ≤ 9223372036854775807) :
    CR Tryz.prog 3 #[.agg (cells52 d x), .int .u16 (a : Nat), .int .u16 (b : Nat)] w (fun v w' => v = .bool true ∧ Old w w') := by
  refine cr_enter Tryz.func3 rfl Tryz.ntmps3 ?_
  refine gk_seq ?_
  refine gk_region ?_
  refine gr_box rfl ?_
  intro w1 ho1 hb1 hs1
  have ho := ho1
  refine gr_v (ev_as rfl) ?_
  refine gr_nil ?_
  refine gk_seq ?_
  refine gk_seq ?_
  refine gk_region ?_
  refine gr_v (ev_ldall rfl Tryz.isAgg38 Tryz.sizeOf38 hb1 rfl) ?_
  refine gr_call (ec_func Tryz.call4 rfl) (z4 hs (fun b x h => ho b x h) hl) ?_
  rintro _ w2 ⟨⟨bf, rfl⟩, hn2⟩
  replace ho := ho.trans hn2
  replace hb1 := hn2 _ _ hb1
  cases bf
  · skip
    refine gr_v (ev_not rfl) ?_
    refine gr_nil ?_
    refine gk_true rfl rfl ?_
    refine gk_seq ?_
    refine gk_region ?_
    refine gr_v (ev_as rfl) ?_
    refine gr_nil ?_
    refine gk_ret1 Tryz.results3 rfl ?_
    exact ⟨_, rfl, rfl, ho⟩
  · skip
    refine gr_v (ev_not rfl) ?_
    refine gr_nil ?_
    refine gk_false rfl rfl ?_
    refine gk_skip ?_
    refine gk_seq ?_
    refine gk_seq ?_
    refine gk_region ?_
    refine gr_v (ev_ldall rfl Tryz.isAgg38 Tryz.sizeOf38 hb1 rfl) ?_
    refine gr_call (ec_func Tryz.call5 rfl) (m5 hm (fun b x h => ho b x h)) ?_
    rintro _ w3 ⟨bc, rfl, hn3, hcl⟩
    replace ho := ho.trans hn3
    replace hb1 := hn3 _ _ hb1
    cases bc
    · skip
      refine gr_v (ev_not rfl) ?_
      refine gr_v (ev_mv rfl) ?_
      refine gr_gs rfl rfl rfl ?_
      refine gr_gs rfl rfl rfl ?_
      refine gr_v (ev_pickT rfl rfl rfl) ?_
      refine gr_v (ev_mv rfl) ?_
      refine gr_gs rfl rfl rfl ?_
      refine gr_gs rfl rfl rfl ?_
      refine gr_v (ev_pickT rfl rfl rfl) ?_
      refine gr_nil ?_
      refine gk_true rfl rfl ?_
      refine gk_seq ?_
      refine gk_region ?_
      refine gr_call (ec_func Tryz.call6 rfl) (m6 _) ?_
      rintro _ w4 ⟨rfl, hn4⟩
      replace ho := ho.trans hn4
      replace hb1 := hn4 _ _ hb1
      refine gr_v (ev_as rfl) ?_
      refine gr_nil ?_
      refine gk_ret1 Tryz.results3 rfl ?_
      exact ⟨_, rfl, rfl, ho⟩
    · skip
      refine gr_v (ev_not rfl) ?_
      refine gr_v (ev_mv rfl) ?_
      refine gr_gv rfl rfl rfl (ev_mv rfl) ?_
      refine gr_gb rfl rfl rfl (ev_gtr rfl rfl) (fun hda => ?_) (fun hda => ?_)
      · skip
        refine gr_v (ev_pickF rfl rfl rfl) ?_
        refine gr_v (ev_mv rfl) ?_
        refine gr_gs rfl rfl rfl ?_
        refine gr_gs rfl rfl rfl ?_
        refine gr_v (ev_pickT rfl rfl rfl) ?_
        refine gr_nil ?_
        refine gk_true rfl rfl ?_
        refine gk_seq ?_
        refine gk_region ?_
        refine gr_call (ec_func Tryz.call6 rfl) (m6 _) ?_
        rintro _ w4 ⟨rfl, hn4⟩
        replace ho := ho.trans hn4
        replace hb1 := hn4 _ _ hb1
        refine gr_v (ev_as rfl) ?_
        refine gr_nil ?_
        refine gk_ret1 Tryz.results3 rfl ?_
        exact ⟨_, rfl, rfl, ho⟩
      · skip
        refine gr_v (ev_pickF rfl rfl rfl) ?_
        refine gr_v (ev_mv rfl) ?_
        refine gr_gv rfl rfl rfl (ev_mv rfl) ?_
        refine gr_gb rfl rfl rfl (ev_gtr rfl rfl) (fun hdb => ?_) (fun hdb => ?_)
        · skip
          refine gr_v (ev_pickF rfl rfl rfl) ?_
          refine gr_nil ?_
          refine gk_true rfl rfl ?_
          refine gk_seq ?_
          refine gk_region ?_
          refine gr_call (ec_func Tryz.call6 rfl) (m6 _) ?_
          rintro _ w4 ⟨rfl, hn4⟩
          replace ho := ho.trans hn4
          replace hb1 := hn4 _ _ hb1
          refine gr_v (ev_as rfl) ?_
          refine gr_nil ?_
          refine gk_ret1 Tryz.results3 rfl ?_
          exact ⟨_, rfl, rfl, ho⟩
        · skip
          have ha5 : a ≤ 5000 := by have := of_decide_eq_false hda; omega
          have hb5 : b ≤ 5000 := by have := of_decide_eq_false hdb; omega
          obtain ⟨pk, hsp, htv⟩ := hcl rfl
          obtain ⟨pr, S, S', p1, p2, p3, p4, _⟩ := tot_all htv (by decide)
          refine gr_v (ev_pickF rfl rfl rfl) ?_
          refine gr_nil ?_
          refine gk_false rfl rfl ?_
          refine gk_skip ?_
          refine gk_seq ?_
          refine gk_region ?_
          refine gr_v (ev_ldall rfl Tryz.isAgg38 Tryz.sizeOf38 hb1 rfl) ?_
          refine gr_call (ec_func Tryz.call8 rfl) (hsp.2.2 _ _ Sub.refl (fun b x h => ho b x h)) ?_
          rintro _ w5 ⟨M5, cs5, rfl, hB5, hI5⟩
          have hn5 := hB5.old
          replace ho := ho.trans hn5
          replace hb1 := hn5 _ _ hb1
          refine gr_v (ev_mv rfl) ?_
          refine gr_v (ev_cv (r := (a : Nat)) rfl ⟨_, Tryz.runUnderlying39⟩ Tryz.runUnderlying3 (w_i64 (by omega) (by omega))) ?_
          refine gr_call (ec_func Tryz.call7 rfl) (m7 (n := a) hI5 hB5.has (by omega) p1 p2 p3 p4) ?_
          rintro _ w6 ⟨rfl, hn6⟩
          replace ho := ho.trans hn6
          replace hb1 := hn6 _ _ hb1
          refine gr_v (ev_mv rfl) ?_
          refine gr_v (ev_ext1 rfl rfl) ?_
          refine gr_v (ev_ext1 rfl rfl) ?_
          refine gr_v (ev_as rfl) ?_
          refine gr_v (ev_as rfl) ?_
          refine gr_nil ?_
          refine gk_seq ?_
          refine gk_region ?_
          refine gr_v (ev_ldall rfl Tryz.isAgg38 Tryz.sizeOf38 hb1 rfl) ?_
          refine gr_call (ec_func Tryz.call8 rfl) (hsp.2.2 _ _ Sub.refl (fun b x h => ho b x h)) ?_
          rintro _ w7 ⟨M7, cs7, rfl, hB7, hI7⟩
          have hn7 := hB7.old
          replace ho := ho.trans hn7
          replace hb1 := hn7 _ _ hb1
          refine gr_v (ev_mv rfl) ?_
          refine gr_v (ev_cv (r := (b : Nat)) rfl ⟨_, Tryz.runUnderlying39⟩ Tryz.runUnderlying3 (w_i64 (by omega) (by omega))) ?_
          refine gr_call (ec_func Tryz.call7 rfl) (m7 (n := b) hI7 hB7.has (by omega) p1 p2 p3 p4) ?_
          rintro _ w8 ⟨rfl, hn8⟩
          replace ho := ho.trans hn8
          replace hb1 := hn8 _ _ hb1
          refine gr_v (ev_mv rfl) ?_
          refine gr_v (ev_ext1 rfl rfl) ?_
          refine gr_v (ev_ext1 rfl rfl) ?_
          refine gr_v (ev_as rfl) ?_
          refine gr_v (ev_as rfl) ?_
          refine gr_nil ?_
          refine gk_seq ?_
          refine gk_region ?_
          refine gr_v (ev_mv rfl) ?_
          refine gr_v (ev_mv rfl) ?_
          refine gr_gv rfl rfl rfl (ev_mv rfl) ?_
          refine gr_v (ev_pickT rfl rfl rfl) ?_
          refine gr_v (ev_mv rfl) ?_
          refine gr_gv rfl rfl rfl (ev_mv rfl) ?_
          refine gr_gv rfl rfl rfl (ev_mv rfl) ?_
          refine gr_gv rfl rfl rfl (ev_stringeq rfl rfl) ?_
          refine gr_v (ev_pickT rfl rfl rfl) ?_
          refine gr_v (ev_mv rfl) ?_
          refine gr_gcall rfl rfl rfl (ec_func Tryz.call6 rfl) (m6 _) ?_
          rintro _ w9 ⟨rfl, hn9⟩
          replace ho := ho.trans hn9
          replace hb1 := hn9 _ _ hb1
          refine gr_v (ev_pickT rfl rfl rfl) ?_
          refine gr_v (ev_as rfl) ?_
          refine gr_nil ?_
          refine gk_ret1 Tryz.results3 rfl ?_
          exact ⟨_, rfl, rfl, ho⟩

end Go.Proofs.YtjaplgfgkigmiaaGreat