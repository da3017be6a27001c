/-
  A monster made an object.
-/
import Derived.Test.YtjaplgfgkigmiaaGreatOn
import Derived.Test.YtjaplgfgkigmiaaGreatFast
namespace Go.Proofs.YtjaplgfgkigmiaaGreat
open Go Go.Proofs

theorem rowR.isS {α : Type} {M : Mem} {v : Value} {l : List α} {R : Value → α → Prop} (h : rowR M v l R) : ∃ a n c, v = .slice a n c := by
  rcases h with ⟨_, h⟩ | ⟨_, b, o, c, _, _, _, h, _⟩
  · exact ⟨_, _, _, h⟩
  · exact ⟨_, _, _, h⟩
theorem GRow.one {e : TypeId} {sz n : Nat} {M Mk : Mem} {w wk : World} {v : Value} {fs : List Value} (h : GRow e sz M w wk Mk v n fs) : one v = true := by
  rcases h.row with ⟨_, _, rfl⟩ | ⟨b', k, sp, rfl, _⟩ <;> rfl
section
variable {n : Nat} {P : Program} {Q : Exit → Act → World → Prop} {k : List KItem} {l : Slots} {w : World}
theorem gk_cutf {c : Code} {ι : Type} (S : ι → Slots) (R : ι → World → Prop) (h1 : ∀ Q k, GK n P Q (.code c :: .fin (fun a w' => ∃ i, Fr n a (S i) ∧ R i w') :: k) l w)
    (h2 : ∀ i w', R i w' → GK n P Q k (S i) w') : GK n P Q (.code c :: k) l w := gk_cut S R (fun β hβ a ha => by
    have := h1 Q k β hβ a ha
    refine wpK_code (wp_mono (code_wpK this) ?_)
    intro e a' w' hq
    cases e with
    | normal => simp only [qk] at hq ⊢; rw [wpK] at hq ⊢; exact hq
    | exit id => simp only [qk] at hq ⊢; rw [exK] at hq ⊢; exact hq
    | _ => exact hq) h2
def fstc : Code → Code
  | .seq a _ => a
  | c => c
def sndc : Code → Code
  | .seq _ b => b
  | c => c
def bodyc (f : Func) : Code := f.body.getD .skip
def isSeq : Code → Bool
  | .seq _ _ => true
  | _ => false
theorem gk_seqs {c : Code} (hc : isSeq c = true) (h : GK n P Q (.code (fstc c) :: .code (sndc c) :: k) l w) : GK n P Q (.code c :: k) l w := by
  cases c <;> simp [isSeq] at hc
  exact gk_seq h
end
def nthc (c : Code) : Nat → Code
  | 0 => c
  | n + 1 => sndc (nthc c n)
abbrev Post17 (M1 : Mem) (w : World) (d : SD) : Exit → Act → World → Prop := bodyPost Tryz.prog Tryz.f17 (Ret (fun v w' => one v = true ∧ ∃ M', Builds M1 w w' M' ∧ Packs 18 M' v (packM (toMD d))))

set_option maxHeartbeats 4000000 in
theorem s17_11 {M : Mem} {d : SD} {x : SV} (h : SrcR ImplOK M d x) (hc : Clean d) {M1 : Mem} {w : World} (hs : Sub M M1) {B3 : Nat} {Mk : Mem} {X : MV} {wk : World} (hI : OI M1 w w.heap.size B3 d x wk Mk X) (hO : ObjR Mk ({ { { { { { { { { { { toMD0 d with pos := lastPK vecPK d.pos } with tables := d.tables } with enemy := lastPK (fun p => p) d.enemy } with stat := lastPK statPK d.stat } with abil := d.abil } with doubles := d.doubles.map Int.toNat } with parent := if d.parent then packParent else retV 0 } with test := chU d.test } with anyU := chU d.anyU } with anyA := chA d.anyA } with enums := d.enums.data.toList }) X) :
    GK 304 Tryz.prog (Post17 M1 w d) [.code (nthc (bodyc Tryz.f17) 13)] [(1, ptr w.heap.size), (3, ptr B3)] wk := by
  refine gk_seqs (by rfl) ?_
  refine gk_region ?_
  refine gr_v (ev_mv rfl) ?_
  refine gr_v (ev_as rfl) ?_
  refine gr_nil ?_
  refine gk_ret1 Tryz.results17 rfl ?_
  have hp := p18 hI.h3 (m := toMD d) (x := X)
  refine ⟨_, rfl, rfl, putM Mk B3 (.cells (cells131 (toMD d) X) 131 (0, 0)), hI.bl.add hI.h3 hI.n3 hI.lo, p18 putM_same (hO.sub fun c y hcy => putM_old hcy (fun e' => by rw [e', hI.n3] at hcy; cases hcy))⟩

set_option maxHeartbeats 4000000 in
theorem s17_10 {M : Mem} {d : SD} {x : SV} (h : SrcR ImplOK M d x) (hc : Clean d) {M1 : Mem} {w : World} (hs : Sub M M1) {B3 : Nat} {Mk : Mem} {X : MV} {wk : World} (hI : OI M1 w w.heap.size B3 d x wk Mk X) (hO : ObjR Mk ({ { { { { { { { { { toMD0 d with pos := lastPK vecPK d.pos } with tables := d.tables } with enemy := lastPK (fun p => p) d.enemy } with stat := lastPK statPK d.stat } with abil := d.abil } with doubles := d.doubles.map Int.toNat } with parent := if d.parent then packParent else retV 0 } with test := chU d.test } with anyU := chU d.anyU } with anyA := chA d.anyA }) X) :
    GK 304 Tryz.prog (Post17 M1 w d) [.code (nthc (bodyc Tryz.f17) 12)] [(1, ptr w.heap.size), (3, ptr B3)] wk := by
  refine gk_seqs (by rfl) ?_
  refine gk_seq ?_
  refine gk_region ?_
  refine gr_v (ev_as rfl) ?_
  refine gr_nil ?_
  refine gk_cutf (ι := Mem × MV) (fun _ => [(1, ptr w.heap.size), (3, ptr B3)]) (fun i w' => OI M1 w w.heap.size B3 d x w' i.1 i.2 ∧ ObjR i.1 ({ { { { { { { { { { { toMD0 d with pos := lastPK vecPK d.pos } with tables := d.tables } with enemy := lastPK (fun p => p) d.enemy } with stat := lastPK statPK d.stat } with abil := d.abil } with doubles := d.doubles.map Int.toNat } with parent := if d.parent then packParent else retV 0 } with test := chU d.test } with anyU := chU d.anyU } with anyA := chA d.anyA } with enums := d.enums.data.toList }) i.2) ?_ ?_
  · intro Q0 k0
    have hcl : d.enums.data.toList.length ≤ 300 := hc.enums
    have hsz : d.enums.data.toList.length = d.enums.size := rfl
    have hX : { X with enums := .slice none 0 0 } = X := by
      rcases hO.enums with ⟨_, h2⟩ | ⟨h2, _⟩
      · cases X; simp only at h2; rw [h2]
      · exact absurd rfl h2
    refine gk_block ?_
    refine gk_loop (fun i : Nat × Mem × Value × List Value => [(1, ptr w.heap.size), (3, ptr B3), (16, .int .i64 (i.1 : Int))]) (fun i w' => OI M1 w w.heap.size B3 d x w' i.2.1 { X with enums := i.2.2.1 } ∧ ObjR i.2.1 ({ { { { { { { { { { toMD0 d with pos := lastPK vecPK d.pos } with tables := d.tables } with enemy := lastPK (fun p => p) d.enemy } with stat := lastPK statPK d.stat } with abil := d.abil } with doubles := d.doubles.map Int.toNat } with parent := if d.parent then packParent else retV 0 } with test := chU d.test } with anyU := chU d.anyU } with anyA := chA d.anyA }) X ∧ GRow 112 1 M1 w w' i.2.1 i.2.2.1 i.1 i.2.2.2 ∧ SoFar (isB) d.enums.data.toList i.1 i.2.2.2 ∧ i.1 ≤ d.enums.data.toList.length) (fun i => d.enums.data.toList.length - i.1) (0, Mk, .slice none 0 0, []) ⟨rfl, rfl, rfl, trivial⟩ ⟨(by rw [hX]; exact hI), hO, GRow.nil hI.bl, SoFar.nil, Nat.zero_le _⟩ ?_
    clear hI hO hX
    rintro ⟨i, Mk, vc, fs⟩ wl ⟨hI, hO, hG, hF, hil⟩
    simp only at hI hO hG hF hil
    rcases Nat.lt_or_ge i d.enums.data.toList.length with hi | hge
    · skip
      refine gk_seq ?_
      refine gk_seq ?_
      refine gk_region ?_
      refine gr_v (ev_mv rfl) ?_
      refine gr_v (ev_fa (j := 49) rfl Tryz.runUnderlying52 rfl Tryz.sizeOf9 rfl rfl) ?_
      refine gr_v (ev_ld rfl Tryz.isAgg9 hI.h1 (by rfl)) ?_
      refine gr_v (ev_lens rfl ⟨_, rfl, Tryz.runUnderlying9⟩) ?_
      refine gr_v (ev_lss rfl rfl) ?_
      refine gr_nil ?_
      refine gk_true rfl (decide_eq_true (by omega)) ?_
      refine gk_skip ?_
      refine gk_seq ?_
      refine gk_block ?_
      refine gt_draw 13 (fun w' => w'.heap[B3]? = some (.cells (cells131 (toMD d) { X with enums := vc }) 131 (0, 0)) ∧ w'.heap[w.heap.size]? = some (.cells (cells52 d x) 52 (0, 0))) (by kernel_rfl) ?_
      have hS := And.intro hI.h3 hI.h1
      refine gt_take 0 rfl (by kernel_rfl) (fun _ _ => (ev_mv rfl)) hS ?_
      refine gt_take 1 rfl (by kernel_rfl) (fun _ _ => (ev_mv rfl)) hS ?_
      refine gt_take 2 rfl (by kernel_rfl) (fun _ _ => (ev_nil rfl)) hS ?_
      refine gt_take 3 rfl (by kernel_rfl) (fun _ _ => (ev_fa (j := 43) rfl Tryz.runUnderlying131 rfl Tryz.sizeOf129 rfl rfl)) hS ?_
      refine gt_take 4 rfl (by kernel_rfl) (fun _ hs => ev_ld rfl Tryz.isAgg129 hs.1 (by rfl)) hS ?_
      refine gt_take 5 rfl (by kernel_rfl) (fun _ _ => (ev_fa (j := 49) rfl Tryz.runUnderlying52 rfl Tryz.sizeOf9 rfl rfl)) hS ?_
      refine gt_take 6 rfl (by kernel_rfl) (fun _ hs => ev_ld rfl Tryz.isAgg9 hs.2 (by rfl)) hS ?_
      refine gt_take 7 rfl (by kernel_rfl) (fun _ _ => (ev_mv rfl)) hS ?_
      refine gt_take 8 rfl (by kernel_rfl) (fun _ _ => (ev_sidx rfl rfl Tryz.runUnderlying9 rfl hi)) hS ?_
      refine gt_bs 9 (ys := [B d.enums.data.toList[i]]) (sz := 1) rfl (by kernel_rfl) rfl rfl rfl Tryz.runUnderlying129 Tryz.sizeOf112 Tryz.zeroValue112 (by decide) rfl (fun _ ho => ⟨ho _ _ hS.1, ho _ _ hS.2⟩) ?_
      intro w7 ho7 hb7 hs7
      replace hS := And.intro (ho7 _ _ hS.1) (ho7 _ _ hS.2)
      have hbs : Builds Mk wl w7 Mk := (Builds.refl hI.bl.has).step (show Old wl w7 from ho7)
      have hI7 := hI.more hbs
      have hG7 := hG.more hbs
      obtain ⟨v', w8, hap, hG8, hfr⟩ := hG7.step (t := 129) (T := 129) Tryz.runUnderlying129 Tryz.typeInfo112 Tryz.sizeOf112 Tryz.zeroValue112 rfl rfl rfl (by omega) hb7 rfl (fun y' hy' => by rw [List.mem_singleton.1 hy']; exact rfl)
      refine gt_v 10 rfl (by kernel_rfl) (ev_append rfl rfl hap) ⟨hfr _ _ (hG7.off hS.1 rfl) hS.1, hfr _ _ (hG7.off hS.2 rfl) hS.2⟩ ?_
      replace hS := And.intro (hfr _ _ (hG7.off hS.1 rfl) hS.1) (hfr _ _ (hG7.off hS.2 rfl) hS.2)
      refine gt_v 11 rfl (by kernel_rfl) (ev_nil rfl) hS ?_
      refine gt_take 12 rfl (by kernel_rfl) (fun _ _ => (ev_fa (j := 43) rfl Tryz.runUnderlying131 rfl Tryz.sizeOf129 rfl rfl)) hS ?_
      refine gt_sq rfl (by kernel_rfl) (es_st (cs' := cells131 (toMD d) { X with enums := v' }) rfl rfl hG8.one Tryz.sizeOf129 hS.1 (by rfl) (by rfl)) ?_
      refine gt_nil (by kernel_rfl) ?_
      have hI8 : OI M1 w w.heap.size B3 d x w8 _ { X with enums := vc } := ⟨hG8.bl, hfr _ _ (hG7.off hI7.h1 rfl) hI7.h1, hS.1, hI7.n3, hI7.lo⟩
      have hG9 := hG8.put (o := .cells (cells131 (toMD d) { X with enums := v' }) 131 (0, 0)) hI8.h3 rfl hI8.n3 hI8.lo
      have hI9 := hI8.put { X with enums := v' }
      refine gk_endblk ?_
      refine gk_region ?_
      refine gr_v (ev_mv rfl) ?_
      refine gr_v (ev_add (r := ((i + 1 : Nat) : Int)) rfl rfl (by rw [w_i64 (by omega) (by omega)]; omega)) ?_
      refine gr_v (ev_as rfl) ?_
      refine gr_nil ?_
      refine gk_fin fun a ha => ?_
      exact ⟨(i + 1, _, v', fs ++ [B d.enums.data.toList[i]]), ha.keep ⟨rfl, rfl, rfl, trivial⟩, ⟨hI9, hO.sub hbs.sub, hG9, hF.step hi (show isB (B d.enums.data.toList[i]) d.enums.data.toList[i] from rfl), hi⟩, (by show d.enums.data.toList.length - (i + 1) < d.enums.data.toList.length - i; omega)⟩
    · skip
      obtain rfl : i = d.enums.data.toList.length := by omega
      refine gk_seq ?_
      refine gk_seq ?_
      refine gk_region ?_
      refine gr_v (ev_mv rfl) ?_
      refine gr_v (ev_fa (j := 49) rfl Tryz.runUnderlying52 rfl Tryz.sizeOf9 rfl rfl) ?_
      refine gr_v (ev_ld rfl Tryz.isAgg9 hI.h1 (by rfl)) ?_
      refine gr_v (ev_lens rfl ⟨_, rfl, Tryz.runUnderlying9⟩) ?_
      refine gr_v (ev_lss rfl rfl) ?_
      refine gr_nil ?_
      refine gk_false rfl (decide_eq_false (by omega)) ?_
      refine gk_exit rfl ?_
      obtain ⟨M', hd1, hd2, hd3, hd4⟩ := hG.done (R := isB) hF.all
      refine gk_fin fun a ha => ?_
      exact ⟨(M', { X with enums := vc }), ha.keep ⟨rfl, rfl, trivial⟩, ⟨hd1, hI.h1, hI.h3, hd4 _ hI.n3 (hG.off hI.h3 rfl), hI.lo⟩, { hO.sub hd2 with enums := hd3 }⟩
  clear hI hO
  rintro ⟨Mk, X⟩ wk ⟨hI, hO⟩
  simp only at hI hO
  exact s17_11 h hc hs hI hO

set_option maxHeartbeats 4000000 in
theorem s17_9 {M : Mem} {d : SD} {x : SV} (h : SrcR ImplOK M d x) (hc : Clean d) {M1 : Mem} {w : World} (hs : Sub M M1) {B3 : Nat} {Mk : Mem} {X : MV} {wk : World} (hI : OI M1 w w.heap.size B3 d x wk Mk X) (hO : ObjR Mk ({ { { { { { { { { toMD0 d with pos := lastPK vecPK d.pos } with tables := d.tables } with enemy := lastPK (fun p => p) d.enemy } with stat := lastPK statPK d.stat } with abil := d.abil } with doubles := d.doubles.map Int.toNat } with parent := if d.parent then packParent else retV 0 } with test := chU d.test } with anyU := chU d.anyU }) X) :
    GK 304 Tryz.prog (Post17 M1 w d) [.code (nthc (bodyc Tryz.f17) 11)] [(1, ptr w.heap.size), (3, ptr B3)] wk := by
  refine gk_seqs (by rfl) ?_
  refine gk_seq ?_
  refine gk_region ?_
  refine gr_v (ev_fa (j := 46) rfl Tryz.runUnderlying52 rfl Tryz.sizeOf47 rfl rfl) ?_
  refine gr_v (ev_fa (j := 46) rfl Tryz.runUnderlying47 rfl Tryz.sizeOf5 rfl rfl) ?_
  refine gr_v (ev_ld rfl Tryz.isAgg5 hI.h1 (by rfl)) ?_
  refine gr_v (ev_neq rfl rfl) ?_
  refine gr_nil ?_
  refine gk_cutf (ι := Mem × MV) (fun _ => [(1, ptr w.heap.size), (3, ptr B3)]) (fun i w' => OI M1 w w.heap.size B3 d x w' i.1 i.2 ∧ ObjR i.1 ({ { { { { { { { { { toMD0 d with pos := lastPK vecPK d.pos } with tables := d.tables } with enemy := lastPK (fun p => p) d.enemy } with stat := lastPK statPK d.stat } with abil := d.abil } with doubles := d.doubles.map Int.toNat } with parent := if d.parent then packParent else retV 0 } with test := chU d.test } with anyU := chU d.anyU } with anyA := chA d.anyA }) i.2) ?_ ?_
  · intro Q0 k0
    rcases hc.anyA with hk | ⟨hk | hk | hk, pm, hsub⟩
    · skip
      have e : chA d.anyA = (none, retV 0) := if_pos hk
      refine gk_false rfl (by rw [hk]; rfl) ?_
      refine gk_skip ?_
      refine gk_fin fun a ha => ?_
      exact ⟨(Mk, X), ha.keep ⟨rfl, rfl, trivial⟩, hI, (by rw [e]; exact hO)⟩
    · skip
      have hk0 : ¬ d.anyA.k = 0 := by rw [hk]; decide
      have e : chA d.anyA = (some d.anyA.k, pm) := (if_neg hk0).trans (by rw [hsub]; rfl)
      have hrow := h.anyA
      rw [hsub] at hrow
      refine gk_true rfl (by rw [hk]; rfl) ?_
      refine gk_draw (fun w' => w'.heap[w.heap.size]? = some (.cells (cells52 d x) 52 (0, 0))) (by kernel_rfl) ?_
      have hS := hI.h1
      refine ga_take 0 rfl (by kernel_rfl) (fun _ _ => (ev_mv rfl)) hS ?_
      refine ga_take 1 rfl (by kernel_rfl) (fun _ _ => (ev_fa (j := 46) rfl Tryz.runUnderlying52 rfl Tryz.sizeOf47 rfl rfl)) hS ?_
      refine ga_take 2 rfl (by kernel_rfl) (fun _ _ => (ev_fa (j := 46) rfl Tryz.runUnderlying47 rfl Tryz.sizeOf5 rfl rfl)) hS ?_
      refine ga_take 3 rfl (by kernel_rfl) (fun _ hs => ev_ld rfl Tryz.isAgg5 hs (by rfl)) hS ?_
      refine ga_take 4 rfl (by kernel_rfl) (fun _ _ => (ev_fa (j := 46) rfl Tryz.runUnderlying52 rfl Tryz.sizeOf47 rfl rfl)) hS ?_
      refine ga_take 5 rfl (by kernel_rfl) (fun _ hs => ev_lda (s := 3) rfl Tryz.isAgg47 Tryz.sizeOf47 hs (by show 46 + 3 ≤ 51; decide)) hS ?_
      have hBd : Builds Mk wk wk.drew Mk := (Builds.refl hI.bl.has).step (Old.same rfl)
      refine ga_call 6 rfl (by kernel_rfl) (ec_func Tryz.call57 rfl) (u57 hrow (hs.trans hI.bl.sub) hBd.has) ?_
      rintro y w6 ⟨hy1, M', hb6, hp6⟩
      refine ⟨hb6.old _ _ hS, fun hS => ?_⟩
      refine ga_take 7 rfl (by kernel_rfl) (fun _ _ => (ev_mkif rfl Tryz.runUnderlying66 rfl)) hS ?_
      refine ga_take 8 rfl (by kernel_rfl) (fun _ _ => (ev_build (cs := #[B d.anyA.k, .iface 66 y]) rfl (by kernel_rfl))) hS ?_
      refine ga_box 9 rfl (by kernel_rfl) rfl (fun _ ho => ho _ _ hS) ?_
      intro w7 ho7 hb7 hs7
      replace hS := ho7 _ _ hS
      have hbs : Builds Mk wk w7 (putM M' w6.heap.size _) := ((hBd.trans hb6).step ho7).add hb7 (hb6.has.none (Nat.le_refl _)) (Nat.le_trans hBd.old.size hb6.old.size)
      have hI7 := hI.more hbs
      refine ga_take 10 rfl (by kernel_rfl) (fun _ _ => (ev_nil rfl)) hS ?_
      refine ga_take 11 rfl (by kernel_rfl) (fun _ _ => (ev_fa (j := 42) rfl Tryz.runUnderlying131 rfl Tryz.sizeOf128 rfl rfl)) hS ?_
      refine ga_s 12 rfl (by kernel_rfl) (es_st (cs' := cells131 (toMD d) { X with anyA := ptr w6.heap.size }) rfl rfl (by rfl) Tryz.sizeOf128 hI7.h3 (by rfl) (by rfl)) (sb_ne hI7.ne hS) ?_
      refine ga_nil (by kernel_rfl) ?_
      refine gk_fin fun a ha => ?_
      have hsub2 : Sub M' (putM M' w6.heap.size (.cells #[B d.anyA.k, .iface 66 y] 153 (0, 0))) := fun c y hc => putM_old hc (fun e' => by rw [e', hb6.has.none (Nat.le_refl _)] at hc; cases hc)
      have hpu : Packs 86 (putM M' w6.heap.size (.cells #[B d.anyA.k, .iface 66 y] 153 (0, 0))) (ptr w6.heap.size) (pm) := u86_1 (fz := (0, 0)) (by rw [putM_same, hk]; rfl) (hp6.old hsub2)
      exact ⟨(_, { X with anyA := ptr w6.heap.size }), ha.keep ⟨rfl, rfl, trivial⟩, hI7.put _, { hO.sub hbs.sub with anyA := (by rw [e]; exact ⟨hpu, .inr ⟨_, _, _, _, rfl, rfl, putM_same⟩⟩) }⟩
    · skip
      have hk0 : ¬ d.anyA.k = 0 := by rw [hk]; decide
      have e : chA d.anyA = (some d.anyA.k, pm) := (if_neg hk0).trans (by rw [hsub]; rfl)
      have hrow := h.anyA
      rw [hsub] at hrow
      refine gk_true rfl (by rw [hk]; rfl) ?_
      refine gk_draw (fun w' => w'.heap[w.heap.size]? = some (.cells (cells52 d x) 52 (0, 0))) (by kernel_rfl) ?_
      have hS := hI.h1
      refine ga_take 0 rfl (by kernel_rfl) (fun _ _ => (ev_mv rfl)) hS ?_
      refine ga_take 1 rfl (by kernel_rfl) (fun _ _ => (ev_fa (j := 46) rfl Tryz.runUnderlying52 rfl Tryz.sizeOf47 rfl rfl)) hS ?_
      refine ga_take 2 rfl (by kernel_rfl) (fun _ _ => (ev_fa (j := 46) rfl Tryz.runUnderlying47 rfl Tryz.sizeOf5 rfl rfl)) hS ?_
      refine ga_take 3 rfl (by kernel_rfl) (fun _ hs => ev_ld rfl Tryz.isAgg5 hs (by rfl)) hS ?_
      refine ga_take 4 rfl (by kernel_rfl) (fun _ _ => (ev_fa (j := 46) rfl Tryz.runUnderlying52 rfl Tryz.sizeOf47 rfl rfl)) hS ?_
      refine ga_take 5 rfl (by kernel_rfl) (fun _ hs => ev_lda (s := 3) rfl Tryz.isAgg47 Tryz.sizeOf47 hs (by show 46 + 3 ≤ 51; decide)) hS ?_
      have hBd : Builds Mk wk wk.drew Mk := (Builds.refl hI.bl.has).step (Old.same rfl)
      refine ga_call 6 rfl (by kernel_rfl) (ec_func Tryz.call57 rfl) (u57 hrow (hs.trans hI.bl.sub) hBd.has) ?_
      rintro y w6 ⟨hy1, M', hb6, hp6⟩
      refine ⟨hb6.old _ _ hS, fun hS => ?_⟩
      refine ga_take 7 rfl (by kernel_rfl) (fun _ _ => (ev_mkif rfl Tryz.runUnderlying66 rfl)) hS ?_
      refine ga_take 8 rfl (by kernel_rfl) (fun _ _ => (ev_build (cs := #[B d.anyA.k, .iface 66 y]) rfl (by kernel_rfl))) hS ?_
      refine ga_box 9 rfl (by kernel_rfl) rfl (fun _ ho => ho _ _ hS) ?_
      intro w7 ho7 hb7 hs7
      replace hS := ho7 _ _ hS
      have hbs : Builds Mk wk w7 (putM M' w6.heap.size _) := ((hBd.trans hb6).step ho7).add hb7 (hb6.has.none (Nat.le_refl _)) (Nat.le_trans hBd.old.size hb6.old.size)
      have hI7 := hI.more hbs
      refine ga_take 10 rfl (by kernel_rfl) (fun _ _ => (ev_nil rfl)) hS ?_
      refine ga_take 11 rfl (by kernel_rfl) (fun _ _ => (ev_fa (j := 42) rfl Tryz.runUnderlying131 rfl Tryz.sizeOf128 rfl rfl)) hS ?_
      refine ga_s 12 rfl (by kernel_rfl) (es_st (cs' := cells131 (toMD d) { X with anyA := ptr w6.heap.size }) rfl rfl (by rfl) Tryz.sizeOf128 hI7.h3 (by rfl) (by rfl)) (sb_ne hI7.ne hS) ?_
      refine ga_nil (by kernel_rfl) ?_
      refine gk_fin fun a ha => ?_
      have hsub2 : Sub M' (putM M' w6.heap.size (.cells #[B d.anyA.k, .iface 66 y] 153 (0, 0))) := fun c y hc => putM_old hc (fun e' => by rw [e', hb6.has.none (Nat.le_refl _)] at hc; cases hc)
      have hpu : Packs 86 (putM M' w6.heap.size (.cells #[B d.anyA.k, .iface 66 y] 153 (0, 0))) (ptr w6.heap.size) (pm) := u86_2 (fz := (0, 0)) (by rw [putM_same, hk]; rfl) (hp6.old hsub2)
      exact ⟨(_, { X with anyA := ptr w6.heap.size }), ha.keep ⟨rfl, rfl, trivial⟩, hI7.put _, { hO.sub hbs.sub with anyA := (by rw [e]; exact ⟨hpu, .inr ⟨_, _, _, _, rfl, rfl, putM_same⟩⟩) }⟩
    · skip
      have hk0 : ¬ d.anyA.k = 0 := by rw [hk]; decide
      have e : chA d.anyA = (some d.anyA.k, pm) := (if_neg hk0).trans (by rw [hsub]; rfl)
      have hrow := h.anyA
      rw [hsub] at hrow
      refine gk_true rfl (by rw [hk]; rfl) ?_
      refine gk_draw (fun w' => w'.heap[w.heap.size]? = some (.cells (cells52 d x) 52 (0, 0))) (by kernel_rfl) ?_
      have hS := hI.h1
      refine ga_take 0 rfl (by kernel_rfl) (fun _ _ => (ev_mv rfl)) hS ?_
      refine ga_take 1 rfl (by kernel_rfl) (fun _ _ => (ev_fa (j := 46) rfl Tryz.runUnderlying52 rfl Tryz.sizeOf47 rfl rfl)) hS ?_
      refine ga_take 2 rfl (by kernel_rfl) (fun _ _ => (ev_fa (j := 46) rfl Tryz.runUnderlying47 rfl Tryz.sizeOf5 rfl rfl)) hS ?_
      refine ga_take 3 rfl (by kernel_rfl) (fun _ hs => ev_ld rfl Tryz.isAgg5 hs (by rfl)) hS ?_
      refine ga_take 4 rfl (by kernel_rfl) (fun _ _ => (ev_fa (j := 46) rfl Tryz.runUnderlying52 rfl Tryz.sizeOf47 rfl rfl)) hS ?_
      refine ga_take 5 rfl (by kernel_rfl) (fun _ hs => ev_lda (s := 3) rfl Tryz.isAgg47 Tryz.sizeOf47 hs (by show 46 + 3 ≤ 51; decide)) hS ?_
      have hBd : Builds Mk wk wk.drew Mk := (Builds.refl hI.bl.has).step (Old.same rfl)
      refine ga_call 6 rfl (by kernel_rfl) (ec_func Tryz.call57 rfl) (u57 hrow (hs.trans hI.bl.sub) hBd.has) ?_
      rintro y w6 ⟨hy1, M', hb6, hp6⟩
      refine ⟨hb6.old _ _ hS, fun hS => ?_⟩
      refine ga_take 7 rfl (by kernel_rfl) (fun _ _ => (ev_mkif rfl Tryz.runUnderlying66 rfl)) hS ?_
      refine ga_take 8 rfl (by kernel_rfl) (fun _ _ => (ev_build (cs := #[B d.anyA.k, .iface 66 y]) rfl (by kernel_rfl))) hS ?_
      refine ga_box 9 rfl (by kernel_rfl) rfl (fun _ ho => ho _ _ hS) ?_
      intro w7 ho7 hb7 hs7
      replace hS := ho7 _ _ hS
      have hbs : Builds Mk wk w7 (putM M' w6.heap.size _) := ((hBd.trans hb6).step ho7).add hb7 (hb6.has.none (Nat.le_refl _)) (Nat.le_trans hBd.old.size hb6.old.size)
      have hI7 := hI.more hbs
      refine ga_take 10 rfl (by kernel_rfl) (fun _ _ => (ev_nil rfl)) hS ?_
      refine ga_take 11 rfl (by kernel_rfl) (fun _ _ => (ev_fa (j := 42) rfl Tryz.runUnderlying131 rfl Tryz.sizeOf128 rfl rfl)) hS ?_
      refine ga_s 12 rfl (by kernel_rfl) (es_st (cs' := cells131 (toMD d) { X with anyA := ptr w6.heap.size }) rfl rfl (by rfl) Tryz.sizeOf128 hI7.h3 (by rfl) (by rfl)) (sb_ne hI7.ne hS) ?_
      refine ga_nil (by kernel_rfl) ?_
      refine gk_fin fun a ha => ?_
      have hsub2 : Sub M' (putM M' w6.heap.size (.cells #[B d.anyA.k, .iface 66 y] 153 (0, 0))) := fun c y hc => putM_old hc (fun e' => by rw [e', hb6.has.none (Nat.le_refl _)] at hc; cases hc)
      have hpu : Packs 86 (putM M' w6.heap.size (.cells #[B d.anyA.k, .iface 66 y] 153 (0, 0))) (ptr w6.heap.size) (pm) := u86_3 (fz := (0, 0)) (by rw [putM_same, hk]; rfl) (hp6.old hsub2)
      exact ⟨(_, { X with anyA := ptr w6.heap.size }), ha.keep ⟨rfl, rfl, trivial⟩, hI7.put _, { hO.sub hbs.sub with anyA := (by rw [e]; exact ⟨hpu, .inr ⟨_, _, _, _, rfl, rfl, putM_same⟩⟩) }⟩
  clear hI hO
  rintro ⟨Mk, X⟩ wk ⟨hI, hO⟩
  simp only at hI hO
  exact s17_10 h hc hs hI hO

set_option maxHeartbeats 4000000 in
theorem s17_8 {M : Mem} {d : SD} {x : SV} (h : SrcR ImplOK M d x) (hc : Clean d) {M1 : Mem} {w : World} (hs : Sub M M1) {B3 : Nat} {Mk : Mem} {X : MV} {wk : World} (hI : OI M1 w w.heap.size B3 d x wk Mk X) (hO : ObjR Mk ({ { { { { { { { toMD0 d with pos := lastPK vecPK d.pos } with tables := d.tables } with enemy := lastPK (fun p => p) d.enemy } with stat := lastPK statPK d.stat } with abil := d.abil } with doubles := d.doubles.map Int.toNat } with parent := if d.parent then packParent else retV 0 } with test := chU d.test }) X) :
    GK 304 Tryz.prog (Post17 M1 w d) [.code (nthc (bodyc Tryz.f17) 10)] [(1, ptr w.heap.size), (3, ptr B3)] wk := by
  refine gk_seqs (by rfl) ?_
  refine gk_seq ?_
  refine gk_region ?_
  refine gr_v (ev_fa (j := 43) rfl Tryz.runUnderlying52 rfl Tryz.sizeOf47 rfl rfl) ?_
  refine gr_v (ev_fa (j := 43) rfl Tryz.runUnderlying47 rfl Tryz.sizeOf5 rfl rfl) ?_
  refine gr_v (ev_ld rfl Tryz.isAgg5 hI.h1 (by rfl)) ?_
  refine gr_v (ev_neq rfl rfl) ?_
  refine gr_nil ?_
  refine gk_cutf (ι := Mem × MV) (fun _ => [(1, ptr w.heap.size), (3, ptr B3)]) (fun i w' => OI M1 w w.heap.size B3 d x w' i.1 i.2 ∧ ObjR i.1 ({ { { { { { { { { toMD0 d with pos := lastPK vecPK d.pos } with tables := d.tables } with enemy := lastPK (fun p => p) d.enemy } with stat := lastPK statPK d.stat } with abil := d.abil } with doubles := d.doubles.map Int.toNat } with parent := if d.parent then packParent else retV 0 } with test := chU d.test } with anyU := chU d.anyU }) i.2) ?_ ?_
  · intro Q0 k0
    rcases hc.anyU with hk | ⟨hk, pm, hsub⟩ | hk
    · skip
      have e : chU d.anyU = (none, retV 0) := if_pos hk
      refine gk_false rfl (by rw [hk]; rfl) ?_
      refine gk_skip ?_
      refine gk_fin fun a ha => ?_
      exact ⟨(Mk, X), ha.keep ⟨rfl, rfl, trivial⟩, hI, (by rw [e]; exact hO)⟩
    · skip
      have hk0 : ¬ d.anyU.k = 0 := by rw [hk]; decide
      have e : chU d.anyU = (some d.anyU.k, pm) := (if_neg hk0).trans ((if_neg (by rw [hk]; decide)).trans (by rw [hsub]; rfl))
      have hrow := h.anyU
      rw [hsub] at hrow
      refine gk_true rfl (by rw [hk]; rfl) ?_
      refine gk_draw (fun w' => w'.heap[w.heap.size]? = some (.cells (cells52 d x) 52 (0, 0))) (by kernel_rfl) ?_
      have hS := hI.h1
      refine ga_take 0 rfl (by kernel_rfl) (fun _ _ => (ev_mv rfl)) hS ?_
      refine ga_take 1 rfl (by kernel_rfl) (fun _ _ => (ev_fa (j := 43) rfl Tryz.runUnderlying52 rfl Tryz.sizeOf47 rfl rfl)) hS ?_
      refine ga_take 2 rfl (by kernel_rfl) (fun _ _ => (ev_fa (j := 43) rfl Tryz.runUnderlying47 rfl Tryz.sizeOf5 rfl rfl)) hS ?_
      refine ga_take 3 rfl (by kernel_rfl) (fun _ hs => ev_ld rfl Tryz.isAgg5 hs (by rfl)) hS ?_
      refine ga_take 4 rfl (by kernel_rfl) (fun _ _ => (ev_fa (j := 43) rfl Tryz.runUnderlying52 rfl Tryz.sizeOf47 rfl rfl)) hS ?_
      refine ga_take 5 rfl (by kernel_rfl) (fun _ hs => ev_lda (s := 3) rfl Tryz.isAgg47 Tryz.sizeOf47 hs (by show 43 + 3 ≤ 51; decide)) hS ?_
      have hBd : Builds Mk wk wk.drew Mk := (Builds.refl hI.bl.has).step (Old.same rfl)
      refine ga_call 6 rfl (by kernel_rfl) (ec_func Tryz.call56 rfl) (u56m (by rw [hk]; decide) hrow (hs.trans hI.bl.sub) hBd.has) ?_
      rintro _ w6 ⟨M', y, hb6, rfl, hp6⟩
      refine ⟨hb6.old _ _ hS, fun hS => ?_⟩
      refine ga_take 7 rfl (by kernel_rfl) (fun _ _ => (ev_build (cs := #[B d.anyU.k, .iface 66 y]) rfl (by kernel_rfl))) hS ?_
      refine ga_box 8 rfl (by kernel_rfl) rfl (fun _ ho => ho _ _ hS) ?_
      intro w7 ho7 hb7 hs7
      replace hS := ho7 _ _ hS
      have hbs : Builds Mk wk w7 (putM M' w6.heap.size _) := ((hBd.trans hb6).step ho7).add hb7 (hb6.has.none (Nat.le_refl _)) (Nat.le_trans hBd.old.size hb6.old.size)
      have hI7 := hI.more hbs
      refine ga_take 9 rfl (by kernel_rfl) (fun _ _ => (ev_nil rfl)) hS ?_
      refine ga_take 10 rfl (by kernel_rfl) (fun _ _ => (ev_fa (j := 41) rfl Tryz.runUnderlying131 rfl Tryz.sizeOf127 rfl rfl)) hS ?_
      refine ga_s 11 rfl (by kernel_rfl) (es_st (cs' := cells131 (toMD d) { X with anyU := ptr w6.heap.size }) rfl rfl (by rfl) Tryz.sizeOf127 hI7.h3 (by rfl) (by rfl)) (sb_ne hI7.ne hS) ?_
      refine ga_nil (by kernel_rfl) ?_
      refine gk_fin fun a ha => ?_
      have hsub2 : Sub M' (putM M' w6.heap.size (.cells #[B d.anyU.k, .iface 66 y] 149 (0, 0))) := fun c y hc => putM_old hc (fun e' => by rw [e', hb6.has.none (Nat.le_refl _)] at hc; cases hc)
      have hpu : Packs 85 (putM M' w6.heap.size (.cells #[B d.anyU.k, .iface 66 y] 149 (0, 0))) (ptr w6.heap.size) (pm) := u85_1 (fz := (0, 0)) (by rw [putM_same, hk]; rfl) (hp6.old hsub2)
      exact ⟨(_, { X with anyU := ptr w6.heap.size }), ha.keep ⟨rfl, rfl, trivial⟩, hI7.put _, { hO.sub hbs.sub with anyU := (by rw [e]; exact ⟨hpu, .inr ⟨_, _, _, _, rfl, rfl, putM_same⟩⟩) }⟩
    · skip
      have hk0 : ¬ d.anyU.k = 0 := by rw [hk]; decide
      have e : chU d.anyU = (some d.anyU.k, packSimple d.anyU.col) := (if_neg hk0).trans (if_pos hk)
      refine gk_true rfl (by rw [hk]; rfl) ?_
      refine gk_draw (fun w' => w'.heap[w.heap.size]? = some (.cells (cells52 d x) 52 (0, 0))) (by kernel_rfl) ?_
      have hS := hI.h1
      refine ga_take 0 rfl (by kernel_rfl) (fun _ _ => (ev_mv rfl)) hS ?_
      refine ga_take 1 rfl (by kernel_rfl) (fun _ _ => (ev_fa (j := 43) rfl Tryz.runUnderlying52 rfl Tryz.sizeOf47 rfl rfl)) hS ?_
      refine ga_take 2 rfl (by kernel_rfl) (fun _ _ => (ev_fa (j := 43) rfl Tryz.runUnderlying47 rfl Tryz.sizeOf5 rfl rfl)) hS ?_
      refine ga_take 3 rfl (by kernel_rfl) (fun _ hs => ev_ld rfl Tryz.isAgg5 hs (by rfl)) hS ?_
      refine ga_take 4 rfl (by kernel_rfl) (fun _ _ => (ev_fa (j := 43) rfl Tryz.runUnderlying52 rfl Tryz.sizeOf47 rfl rfl)) hS ?_
      refine ga_take 5 rfl (by kernel_rfl) (fun _ hs => ev_lda (s := 3) rfl Tryz.isAgg47 Tryz.sizeOf47 hs (by show 43 + 3 ≤ 51; decide)) hS ?_
      have hBd : Builds Mk wk wk.drew Mk := (Builds.refl hI.bl.has).step (Old.same rfl)
      refine ga_call 6 rfl (by kernel_rfl) (ec_func Tryz.call56 rfl) (u56s hk hBd.has) ?_
      rintro _ w6 ⟨M', q, hb6, rfl, hp6⟩
      refine ⟨hb6.old _ _ hS, fun hS => ?_⟩
      refine ga_take 7 rfl (by kernel_rfl) (fun _ _ => (ev_build (cs := #[B d.anyU.k, .iface 234 (ptr q)]) rfl (by kernel_rfl))) hS ?_
      refine ga_box 8 rfl (by kernel_rfl) rfl (fun _ ho => ho _ _ hS) ?_
      intro w7 ho7 hb7 hs7
      replace hS := ho7 _ _ hS
      have hbs : Builds Mk wk w7 (putM M' w6.heap.size _) := ((hBd.trans hb6).step ho7).add hb7 (hb6.has.none (Nat.le_refl _)) (Nat.le_trans hBd.old.size hb6.old.size)
      have hI7 := hI.more hbs
      refine ga_take 9 rfl (by kernel_rfl) (fun _ _ => (ev_nil rfl)) hS ?_
      refine ga_take 10 rfl (by kernel_rfl) (fun _ _ => (ev_fa (j := 41) rfl Tryz.runUnderlying131 rfl Tryz.sizeOf127 rfl rfl)) hS ?_
      refine ga_s 11 rfl (by kernel_rfl) (es_st (cs' := cells131 (toMD d) { X with anyU := ptr w6.heap.size }) rfl rfl (by rfl) Tryz.sizeOf127 hI7.h3 (by rfl) (by rfl)) (sb_ne hI7.ne hS) ?_
      refine ga_nil (by kernel_rfl) ?_
      refine gk_fin fun a ha => ?_
      have hsub2 : Sub M' (putM M' w6.heap.size (.cells #[B d.anyU.k, .iface 234 (ptr q)] 149 (0, 0))) := fun c y hc => putM_old hc (fun e' => by rw [e', hb6.has.none (Nat.le_refl _)] at hc; cases hc)
      have hpu : Packs 85 (putM M' w6.heap.size (.cells #[B d.anyU.k, .iface 234 (ptr q)] 149 (0, 0))) (ptr w6.heap.size) (packSimple d.anyU.col) := u85_2 (fz := (0, 0)) (by rw [putM_same, hk]; rfl) (hp6.old hsub2)
      exact ⟨(_, { X with anyU := ptr w6.heap.size }), ha.keep ⟨rfl, rfl, trivial⟩, hI7.put _, { hO.sub hbs.sub with anyU := (by rw [e]; exact ⟨hpu, .inr ⟨_, _, _, _, rfl, rfl, putM_same⟩⟩) }⟩
  clear hI hO
  rintro ⟨Mk, X⟩ wk ⟨hI, hO⟩
  simp only at hI hO
  exact s17_9 h hc hs hI hO

set_option maxHeartbeats 4000000 in
theorem s17_7 {M : Mem} {d : SD} {x : SV} (h : SrcR ImplOK M d x) (hc : Clean d) {M1 : Mem} {w : World} (hs : Sub M M1) {B3 : Nat} {Mk : Mem} {X : MV} {wk : World} (hI : OI M1 w w.heap.size B3 d x wk Mk X) (hO : ObjR Mk ({ { { { { { { toMD0 d with pos := lastPK vecPK d.pos } with tables := d.tables } with enemy := lastPK (fun p => p) d.enemy } with stat := lastPK statPK d.stat } with abil := d.abil } with doubles := d.doubles.map Int.toNat } with parent := if d.parent then packParent else retV 0 }) X) :
    GK 304 Tryz.prog (Post17 M1 w d) [.code (nthc (bodyc Tryz.f17) 9)] [(1, ptr w.heap.size), (3, ptr B3)] wk := by
  refine gk_seqs (by rfl) ?_
  refine gk_seq ?_
  refine gk_region ?_
  refine gr_v (ev_fa (j := 6) rfl Tryz.runUnderlying52 rfl Tryz.sizeOf47 rfl rfl) ?_
  refine gr_v (ev_fa (j := 6) rfl Tryz.runUnderlying47 rfl Tryz.sizeOf5 rfl rfl) ?_
  refine gr_v (ev_ld rfl Tryz.isAgg5 hI.h1 (by rfl)) ?_
  refine gr_v (ev_neq rfl rfl) ?_
  refine gr_nil ?_
  refine gk_cutf (ι := Mem × MV) (fun _ => [(1, ptr w.heap.size), (3, ptr B3)]) (fun i w' => OI M1 w w.heap.size B3 d x w' i.1 i.2 ∧ ObjR i.1 ({ { { { { { { { toMD0 d with pos := lastPK vecPK d.pos } with tables := d.tables } with enemy := lastPK (fun p => p) d.enemy } with stat := lastPK statPK d.stat } with abil := d.abil } with doubles := d.doubles.map Int.toNat } with parent := if d.parent then packParent else retV 0 } with test := chU d.test }) i.2) ?_ ?_
  · intro Q0 k0
    rcases hc.test with hk | ⟨hk, pm, hsub⟩ | hk
    · skip
      have e : chU d.test = (none, retV 0) := if_pos hk
      refine gk_false rfl (by rw [hk]; rfl) ?_
      refine gk_skip ?_
      refine gk_fin fun a ha => ?_
      exact ⟨(Mk, X), ha.keep ⟨rfl, rfl, trivial⟩, hI, (by rw [e]; exact hO)⟩
    · skip
      have hk0 : ¬ d.test.k = 0 := by rw [hk]; decide
      have e : chU d.test = (some d.test.k, pm) := (if_neg hk0).trans ((if_neg (by rw [hk]; decide)).trans (by rw [hsub]; rfl))
      have hrow := h.test
      rw [hsub] at hrow
      refine gk_true rfl (by rw [hk]; rfl) ?_
      refine gk_draw (fun w' => w'.heap[w.heap.size]? = some (.cells (cells52 d x) 52 (0, 0))) (by kernel_rfl) ?_
      have hS := hI.h1
      refine ga_take 0 rfl (by kernel_rfl) (fun _ _ => (ev_mv rfl)) hS ?_
      refine ga_take 1 rfl (by kernel_rfl) (fun _ _ => (ev_fa (j := 6) rfl Tryz.runUnderlying52 rfl Tryz.sizeOf47 rfl rfl)) hS ?_
      refine ga_take 2 rfl (by kernel_rfl) (fun _ _ => (ev_fa (j := 6) rfl Tryz.runUnderlying47 rfl Tryz.sizeOf5 rfl rfl)) hS ?_
      refine ga_take 3 rfl (by kernel_rfl) (fun _ hs => ev_ld rfl Tryz.isAgg5 hs (by rfl)) hS ?_
      refine ga_take 4 rfl (by kernel_rfl) (fun _ _ => (ev_fa (j := 6) rfl Tryz.runUnderlying52 rfl Tryz.sizeOf47 rfl rfl)) hS ?_
      refine ga_take 5 rfl (by kernel_rfl) (fun _ hs => ev_lda (s := 3) rfl Tryz.isAgg47 Tryz.sizeOf47 hs (by show 6 + 3 ≤ 51; decide)) hS ?_
      have hBd : Builds Mk wk wk.drew Mk := (Builds.refl hI.bl.has).step (Old.same rfl)
      refine ga_call 6 rfl (by kernel_rfl) (ec_func Tryz.call56 rfl) (u56m (by rw [hk]; decide) hrow (hs.trans hI.bl.sub) hBd.has) ?_
      rintro _ w6 ⟨M', y, hb6, rfl, hp6⟩
      refine ⟨hb6.old _ _ hS, fun hS => ?_⟩
      refine ga_take 7 rfl (by kernel_rfl) (fun _ _ => (ev_build (cs := #[B d.test.k, .iface 66 y]) rfl (by kernel_rfl))) hS ?_
      refine ga_box 8 rfl (by kernel_rfl) rfl (fun _ ho => ho _ _ hS) ?_
      intro w7 ho7 hb7 hs7
      replace hS := ho7 _ _ hS
      have hbs : Builds Mk wk w7 (putM M' w6.heap.size _) := ((hBd.trans hb6).step ho7).add hb7 (hb6.has.none (Nat.le_refl _)) (Nat.le_trans hBd.old.size hb6.old.size)
      have hI7 := hI.more hbs
      refine ga_take 9 rfl (by kernel_rfl) (fun _ _ => (ev_nil rfl)) hS ?_
      refine ga_take 10 rfl (by kernel_rfl) (fun _ _ => (ev_fa (j := 6) rfl Tryz.runUnderlying131 rfl Tryz.sizeOf121 rfl rfl)) hS ?_
      refine ga_s 11 rfl (by kernel_rfl) (es_st (cs' := cells131 (toMD d) { X with test := ptr w6.heap.size }) rfl rfl (by rfl) Tryz.sizeOf121 hI7.h3 (by rfl) (by rfl)) (sb_ne hI7.ne hS) ?_
      refine ga_nil (by kernel_rfl) ?_
      refine gk_fin fun a ha => ?_
      have hsub2 : Sub M' (putM M' w6.heap.size (.cells #[B d.test.k, .iface 66 y] 146 (0, 0))) := fun c y hc => putM_old hc (fun e' => by rw [e', hb6.has.none (Nat.le_refl _)] at hc; cases hc)
      have hpu : Packs 60 (putM M' w6.heap.size (.cells #[B d.test.k, .iface 66 y] 146 (0, 0))) (ptr w6.heap.size) (pm) := u60_1 (fz := (0, 0)) (by rw [putM_same, hk]; rfl) (hp6.old hsub2)
      exact ⟨(_, { X with test := ptr w6.heap.size }), ha.keep ⟨rfl, rfl, trivial⟩, hI7.put _, { hO.sub hbs.sub with test := (by rw [e]; exact ⟨hpu, .inr ⟨_, _, _, _, rfl, rfl, putM_same⟩⟩) }⟩
    · skip
      have hk0 : ¬ d.test.k = 0 := by rw [hk]; decide
      have e : chU d.test = (some d.test.k, packSimple d.test.col) := (if_neg hk0).trans (if_pos hk)
      refine gk_true rfl (by rw [hk]; rfl) ?_
      refine gk_draw (fun w' => w'.heap[w.heap.size]? = some (.cells (cells52 d x) 52 (0, 0))) (by kernel_rfl) ?_
      have hS := hI.h1
      refine ga_take 0 rfl (by kernel_rfl) (fun _ _ => (ev_mv rfl)) hS ?_
      refine ga_take 1 rfl (by kernel_rfl) (fun _ _ => (ev_fa (j := 6) rfl Tryz.runUnderlying52 rfl Tryz.sizeOf47 rfl rfl)) hS ?_
      refine ga_take 2 rfl (by kernel_rfl) (fun _ _ => (ev_fa (j := 6) rfl Tryz.runUnderlying47 rfl Tryz.sizeOf5 rfl rfl)) hS ?_
      refine ga_take 3 rfl (by kernel_rfl) (fun _ hs => ev_ld rfl Tryz.isAgg5 hs (by rfl)) hS ?_
      refine ga_take 4 rfl (by kernel_rfl) (fun _ _ => (ev_fa (j := 6) rfl Tryz.runUnderlying52 rfl Tryz.sizeOf47 rfl rfl)) hS ?_
      refine ga_take 5 rfl (by kernel_rfl) (fun _ hs => ev_lda (s := 3) rfl Tryz.isAgg47 Tryz.sizeOf47 hs (by show 6 + 3 ≤ 51; decide)) hS ?_
      have hBd : Builds Mk wk wk.drew Mk := (Builds.refl hI.bl.has).step (Old.same rfl)
      refine ga_call 6 rfl (by kernel_rfl) (ec_func Tryz.call56 rfl) (u56s hk hBd.has) ?_
      rintro _ w6 ⟨M', q, hb6, rfl, hp6⟩
      refine ⟨hb6.old _ _ hS, fun hS => ?_⟩
      refine ga_take 7 rfl (by kernel_rfl) (fun _ _ => (ev_build (cs := #[B d.test.k, .iface 234 (ptr q)]) rfl (by kernel_rfl))) hS ?_
      refine ga_box 8 rfl (by kernel_rfl) rfl (fun _ ho => ho _ _ hS) ?_
      intro w7 ho7 hb7 hs7
      replace hS := ho7 _ _ hS
      have hbs : Builds Mk wk w7 (putM M' w6.heap.size _) := ((hBd.trans hb6).step ho7).add hb7 (hb6.has.none (Nat.le_refl _)) (Nat.le_trans hBd.old.size hb6.old.size)
      have hI7 := hI.more hbs
      refine ga_take 9 rfl (by kernel_rfl) (fun _ _ => (ev_nil rfl)) hS ?_
      refine ga_take 10 rfl (by kernel_rfl) (fun _ _ => (ev_fa (j := 6) rfl Tryz.runUnderlying131 rfl Tryz.sizeOf121 rfl rfl)) hS ?_
      refine ga_s 11 rfl (by kernel_rfl) (es_st (cs' := cells131 (toMD d) { X with test := ptr w6.heap.size }) rfl rfl (by rfl) Tryz.sizeOf121 hI7.h3 (by rfl) (by rfl)) (sb_ne hI7.ne hS) ?_
      refine ga_nil (by kernel_rfl) ?_
      refine gk_fin fun a ha => ?_
      have hsub2 : Sub M' (putM M' w6.heap.size (.cells #[B d.test.k, .iface 234 (ptr q)] 146 (0, 0))) := fun c y hc => putM_old hc (fun e' => by rw [e', hb6.has.none (Nat.le_refl _)] at hc; cases hc)
      have hpu : Packs 60 (putM M' w6.heap.size (.cells #[B d.test.k, .iface 234 (ptr q)] 146 (0, 0))) (ptr w6.heap.size) (packSimple d.test.col) := u60_2 (fz := (0, 0)) (by rw [putM_same, hk]; rfl) (hp6.old hsub2)
      exact ⟨(_, { X with test := ptr w6.heap.size }), ha.keep ⟨rfl, rfl, trivial⟩, hI7.put _, { hO.sub hbs.sub with test := (by rw [e]; exact ⟨hpu, .inr ⟨_, _, _, _, rfl, rfl, putM_same⟩⟩) }⟩
  clear hI hO
  rintro ⟨Mk, X⟩ wk ⟨hI, hO⟩
  simp only at hI hO
  exact s17_8 h hc hs hI hO

set_option maxHeartbeats 4000000 in
theorem s17_6 {M : Mem} {d : SD} {x : SV} (h : SrcR ImplOK M d x) (hc : Clean d) {M1 : Mem} {w : World} (hs : Sub M M1) {B3 : Nat} {Mk : Mem} {X : MV} {wk : World} (hI : OI M1 w w.heap.size B3 d x wk Mk X) (hO : ObjR Mk ({ { { { { { toMD0 d with pos := lastPK vecPK d.pos } with tables := d.tables } with enemy := lastPK (fun p => p) d.enemy } with stat := lastPK statPK d.stat } with abil := d.abil } with doubles := d.doubles.map Int.toNat }) X) :
    GK 304 Tryz.prog (Post17 M1 w d) [.code (nthc (bodyc Tryz.f17) 8)] [(1, ptr w.heap.size), (3, ptr B3)] wk := by
  refine gk_seqs (by rfl) ?_
  refine gk_seq ?_
  refine gk_region ?_
  refine gr_v (ev_fa (j := 34) rfl Tryz.runUnderlying52 rfl Tryz.sizeOf4 rfl rfl) ?_
  refine gr_v (ev_ld rfl Tryz.isAgg4 hI.h1 (by rfl)) ?_
  refine gr_nil ?_
  refine gk_cutf (ι := Mem × MV) (fun _ => [(1, ptr w.heap.size), (3, ptr B3)]) (fun i w' => OI M1 w w.heap.size B3 d x w' i.1 i.2 ∧ ObjR i.1 ({ { { { { { { toMD0 d with pos := lastPK vecPK d.pos } with tables := d.tables } with enemy := lastPK (fun p => p) d.enemy } with stat := lastPK statPK d.stat } with abil := d.abil } with doubles := d.doubles.map Int.toNat } with parent := if d.parent then packParent else retV 0 }) i.2) ?_ ?_
  · intro Q0 k0
    cases hp : d.parent
    · skip
      refine gk_false rfl hp ?_
      refine gk_skip ?_
      refine gk_fin fun a ha => ?_
      exact ⟨(Mk, X), ha.keep ⟨rfl, rfl, trivial⟩, hI, hO⟩
    · skip
      refine gk_true rfl hp ?_
      refine gk_region ?_
      refine gr_v (ev_mv rfl) ?_
      refine gr_v (ev_build (ps := []) (vs := []) (cs := #[]) rfl (by kernel_rfl)) ?_
      refine gr_box rfl ?_
      intro w5 ho5 hb5 hs5
      have hbs := (Builds.refl hI.bl.has).step ho5
      have hI5 := hI.more hbs
      refine gr_v (ev_nil rfl) ?_
      refine gr_v (ev_fa (j := 32) rfl Tryz.runUnderlying131 rfl Tryz.sizeOf126 rfl rfl) ?_
      refine gr_s (es_st (cs' := cells131 (toMD d) { X with parent := ptr wk.heap.size }) rfl rfl (by rfl) Tryz.sizeOf126 hI5.h3 (by rfl) (by rfl)) ?_
      refine gr_nil ?_
      refine gk_fin fun a ha => ?_
      exact ⟨(Mk, { X with parent := ptr wk.heap.size }), ha.keep ⟨rfl, rfl, trivial⟩, hI5.put _, { hO.sub hbs.sub with parent := p77 }⟩
  clear hI hO
  rintro ⟨Mk, X⟩ wk ⟨hI, hO⟩
  simp only at hI hO
  exact s17_7 h hc hs hI hO

set_option maxHeartbeats 4000000 in
theorem s17_5 {M : Mem} {d : SD} {x : SV} (h : SrcR ImplOK M d x) (hc : Clean d) {M1 : Mem} {w : World} (hs : Sub M M1) {B3 : Nat} {Mk : Mem} {X : MV} {wk : World} (hI : OI M1 w w.heap.size B3 d x wk Mk X) (hO : ObjR Mk ({ { { { { toMD0 d with pos := lastPK vecPK d.pos } with tables := d.tables } with enemy := lastPK (fun p => p) d.enemy } with stat := lastPK statPK d.stat } with abil := d.abil }) X) :
    GK 304 Tryz.prog (Post17 M1 w d) [.code (nthc (bodyc Tryz.f17) 7)] [(1, ptr w.heap.size), (3, ptr B3)] wk := by
  refine gk_seqs (by rfl) ?_
  refine gk_seq ?_
  refine gk_region ?_
  refine gr_v (ev_fa (j := 33) rfl Tryz.runUnderlying52 rfl Tryz.sizeOf35 rfl rfl) ?_
  refine gr_v (ev_ld rfl Tryz.isAgg35 hI.h1 (by rfl)) ?_
  refine gr_v (ev_lenL h.doubles.len rfl ⟨_, rfl, _, Tryz.runUnderlying35⟩) ?_
  refine gr_v (ev_mv rfl) ?_
  refine gr_nil ?_
  refine gk_cutf (ι := Mem × MV) (fun _ => [(1, ptr w.heap.size), (3, ptr B3)]) (fun i w' => OI M1 w w.heap.size B3 d x w' i.1 i.2 ∧ ObjR i.1 ({ { { { { { toMD0 d with pos := lastPK vecPK d.pos } with tables := d.tables } with enemy := lastPK (fun p => p) d.enemy } with stat := lastPK statPK d.stat } with abil := d.abil } with doubles := d.doubles.map Int.toNat }) i.2) ?_ ?_
  · intro Q0 k0
    have hcl : d.doubles.length ≤ 50 := hc.doubles
    have hX : { X with doubles := .slice none 0 0 } = X := by
      rcases hO.doubles with ⟨_, h2⟩ | ⟨h2, _⟩
      · cases X; simp only at h2; rw [h2]
      · exact absurd rfl h2
    refine gk_block ?_
    refine gk_loop (fun i : Nat × Mem × Value × List Value => [(1, ptr w.heap.size), (3, ptr B3), (212, x.doubles), (213, .int .i64 d.doubles.length), (214, .int .i64 (i.1 : Int))]) (fun i w' => OI M1 w w.heap.size B3 d x w' i.2.1 { X with doubles := i.2.2.1 } ∧ ObjR i.2.1 ({ { { { { toMD0 d with pos := lastPK vecPK d.pos } with tables := d.tables } with enemy := lastPK (fun p => p) d.enemy } with stat := lastPK statPK d.stat } with abil := d.abil }) X ∧ GRow 132 1 M1 w w' i.2.1 i.2.2.1 i.1 i.2.2.2 ∧ SoFar (fun y n => isF64 y n.toNat) d.doubles i.1 i.2.2.2 ∧ i.1 ≤ d.doubles.length) (fun i => d.doubles.length - i.1) (0, Mk, .slice none 0 0, []) ⟨rfl, rfl, rfl, rfl, rfl, trivial⟩ ⟨(by rw [hX]; exact hI), hO, GRow.nil hI.bl, SoFar.nil, Nat.zero_le _⟩ ?_
    clear hI hO hX
    rintro ⟨i, Mk, vc, fs⟩ wl ⟨hI, hO, hG, hF, hil⟩
    simp only at hI hO hG hF hil
    rcases Nat.lt_or_ge i d.doubles.length with hi | hge
    · skip
      obtain ⟨b, o, c, cs, e, fz, ye, hvv, hcs, hle, hy, rfl⟩ := h.doubles.get hi
      refine gk_seq ?_
      refine gk_region ?_
      refine gr_v (ev_lss rfl rfl) ?_
      refine gr_nil ?_
      refine gk_seq ?_
      refine gk_true rfl (decide_eq_true (by omega)) ?_
      refine gk_skip ?_
      refine gk_seq ?_
      refine gk_block ?_
      refine gk_seq ?_
      refine gk_region ?_
      refine gr_v (ev_ix (len := d.doubles.length) (a' := o + i) (by rw [← hvv]; rfl) rfl Tryz.runUnderlying35 Tryz.sizeOf31 (by omega) (by omega) (by omega)) ?_
      refine gr_v (ev_ld rfl Tryz.isAgg31 (hI.bl.has _ _ (hI.bl.sub _ _ (hs _ _ hcs))) hy) ?_
      refine gr_v (ev_as rfl) ?_
      refine gr_nil ?_
      refine gt_draw 11 (fun w' => w'.heap[B3]? = some (.cells (cells131 (toMD d) { X with doubles := vc }) 131 (0, 0))) (by kernel_rfl) ?_
      have hS := hI.h3
      refine gt_take 0 rfl (by kernel_rfl) (fun _ _ => (ev_mv rfl)) hS ?_
      refine gt_take 1 rfl (by kernel_rfl) (fun _ _ => (ev_mv rfl)) hS ?_
      refine gt_take 2 rfl (by kernel_rfl) (fun _ _ => (ev_nil rfl)) hS ?_
      refine gt_take 3 rfl (by kernel_rfl) (fun _ _ => (ev_fa (j := 31) rfl Tryz.runUnderlying131 rfl Tryz.sizeOf125 rfl rfl)) hS ?_
      refine gt_take 4 rfl (by kernel_rfl) (fun _ hs => ev_ld rfl Tryz.isAgg125 hs (by rfl)) hS ?_
      refine gt_take 5 rfl (by kernel_rfl) (fun _ _ => (ev_mv rfl)) hS ?_
      refine gt_take 6 rfl (by kernel_rfl) (fun _ _ => (ev_ext rfl (x55 _ _))) hS ?_
      refine gt_bs 7 (ys := [.float .f64 d.doubles[i].toNat]) (sz := 1) rfl (by kernel_rfl) rfl rfl rfl Tryz.runUnderlying125 Tryz.sizeOf132 Tryz.zeroValue132 (by decide) rfl (fun _ ho => ho _ _ hS) ?_
      intro w7 ho7 hb7 hs7
      replace hS := ho7 _ _ hS
      have hbs : Builds Mk wl w7 Mk := (Builds.refl hI.bl.has).step (show Old wl w7 from ho7)
      have hI7 := hI.more hbs
      have hG7 := hG.more hbs
      obtain ⟨v', w8, hap, hG8, hfr⟩ := hG7.step (t := 125) (T := 125) Tryz.runUnderlying125 Tryz.typeInfo132 Tryz.sizeOf132 Tryz.zeroValue132 rfl rfl rfl (by omega) hb7 rfl (fun y' hy' => by rw [List.mem_singleton.1 hy']; exact rfl)
      refine gt_v 8 rfl (by kernel_rfl) (ev_append rfl rfl hap) (hfr _ _ (hG7.off hS rfl) hS) ?_
      replace hS := (hfr _ _ (hG7.off hS rfl) hS)
      refine gt_v 9 rfl (by kernel_rfl) (ev_nil rfl) hS ?_
      refine gt_take 10 rfl (by kernel_rfl) (fun _ _ => (ev_fa (j := 31) rfl Tryz.runUnderlying131 rfl Tryz.sizeOf125 rfl rfl)) hS ?_
      refine gt_sq rfl (by kernel_rfl) (es_st (cs' := cells131 (toMD d) { X with doubles := v' }) rfl rfl hG8.one Tryz.sizeOf125 hS (by rfl) (by rfl)) ?_
      refine gt_nil (by kernel_rfl) ?_
      have hI8 : OI M1 w w.heap.size B3 d x w8 _ { X with doubles := vc } := ⟨hG8.bl, hfr _ _ (hG7.off hI7.h1 rfl) hI7.h1, hS, hI7.n3, hI7.lo⟩
      have hG9 := hG8.put (o := .cells (cells131 (toMD d) { X with doubles := v' }) 131 (0, 0)) hI8.h3 rfl hI8.n3 hI8.lo
      have hI9 := hI8.put { X with doubles := v' }
      refine gk_endblk ?_
      refine gk_region ?_
      refine gr_v (ev_add (r := ((i + 1 : Nat) : Int)) rfl rfl (by rw [w_i64 (by omega) (by omega)]; omega)) ?_
      refine gr_v (ev_mv rfl) ?_
      refine gr_nil ?_
      refine gk_fin fun a ha => ?_
      exact ⟨(i + 1, _, v', fs ++ [.float .f64 d.doubles[i].toNat]), ha.keep ⟨rfl, rfl, rfl, rfl, rfl, trivial⟩, ⟨hI9, hO.sub hbs.sub, hG9, hF.step hi (show isF64 (.float .f64 d.doubles[i].toNat) d.doubles[i].toNat from rfl), hi⟩, (by show d.doubles.length - (i + 1) < d.doubles.length - i; omega)⟩
    · skip
      obtain rfl : i = d.doubles.length := by omega
      refine gk_seq ?_
      refine gk_region ?_
      refine gr_v (ev_lss rfl rfl) ?_
      refine gr_nil ?_
      refine gk_seq ?_
      refine gk_false rfl (decide_eq_false (by omega)) ?_
      refine gk_exit rfl ?_
      obtain ⟨M', hd1, hd2, hd3, hd4⟩ := hG.done (R := fun y n => isF64 y n.toNat) hF.all
      refine gk_fin fun a ha => ?_
      exact ⟨(M', { X with doubles := vc }), ha.keep ⟨rfl, rfl, trivial⟩, ⟨hd1, hI.h1, hI.h3, hd4 _ hI.n3 (hG.off hI.h3 rfl), hI.lo⟩, { hO.sub hd2 with doubles := rowR_map hd3 }⟩
  clear hI hO
  rintro ⟨Mk, X⟩ wk ⟨hI, hO⟩
  simp only at hI hO
  exact s17_6 h hc hs hI hO

set_option maxHeartbeats 4000000 in
theorem s17_4 {M : Mem} {d : SD} {x : SV} (h : SrcR ImplOK M d x) (hc : Clean d) {M1 : Mem} {w : World} (hs : Sub M M1) {B3 : Nat} {Mk : Mem} {X : MV} {wk : World} (hI : OI M1 w w.heap.size B3 d x wk Mk X) (hO : ObjR Mk ({ { { { toMD0 d with pos := lastPK vecPK d.pos } with tables := d.tables } with enemy := lastPK (fun p => p) d.enemy } with stat := lastPK statPK d.stat }) X) :
    GK 304 Tryz.prog (Post17 M1 w d) [.code (nthc (bodyc Tryz.f17) 6)] [(1, ptr w.heap.size), (3, ptr B3)] wk := by
  refine gk_seqs (by rfl) ?_
  refine gk_seq ?_
  refine gk_region ?_
  refine gr_v (ev_fa (j := 29) rfl Tryz.runUnderlying52 rfl Tryz.sizeOf50 rfl rfl) ?_
  refine gr_v (ev_ld rfl Tryz.isAgg50 hI.h1 (by rfl)) ?_
  refine gr_v (ev_lenL h.abil.len rfl ⟨_, rfl, _, Tryz.runUnderlying50⟩) ?_
  refine gr_v (ev_mv rfl) ?_
  refine gr_nil ?_
  refine gk_cutf (ι := Mem × MV) (fun _ => [(1, ptr w.heap.size), (3, ptr B3)]) (fun i w' => OI M1 w w.heap.size B3 d x w' i.1 i.2 ∧ ObjR i.1 ({ { { { { toMD0 d with pos := lastPK vecPK d.pos } with tables := d.tables } with enemy := lastPK (fun p => p) d.enemy } with stat := lastPK statPK d.stat } with abil := d.abil }) i.2) ?_ ?_
  · intro Q0 k0
    have hcl : d.abil.length ≤ 50 := hc.abil
    have hX : { X with abil := .slice none 0 0 } = X := by
      rcases hO.abil with ⟨_, h2⟩ | ⟨h2, _⟩
      · cases X; simp only at h2; rw [h2]
      · exact absurd rfl h2
    refine gk_block ?_
    refine gk_loop (fun i : Nat × Mem × Value × List Value => [(1, ptr w.heap.size), (3, ptr B3), (189, x.abil), (190, .int .i64 d.abil.length), (191, .int .i64 (i.1 : Int))]) (fun i w' => OI M1 w w.heap.size B3 d x w' i.2.1 { X with abil := i.2.2.1 } ∧ ObjR i.2.1 ({ { { { toMD0 d with pos := lastPK vecPK d.pos } with tables := d.tables } with enemy := lastPK (fun p => p) d.enemy } with stat := lastPK statPK d.stat }) X ∧ GRow 139 1 M1 w w' i.2.1 i.2.2.1 i.1 i.2.2.2 ∧ SoFar (fun y ab => Packs 71 i.2.1 y (abilPK ab)) d.abil i.1 i.2.2.2 ∧ i.1 ≤ d.abil.length) (fun i => d.abil.length - i.1) (0, Mk, .slice none 0 0, []) ⟨rfl, rfl, rfl, rfl, rfl, trivial⟩ ⟨(by rw [hX]; exact hI), hO, GRow.nil hI.bl, SoFar.nil, Nat.zero_le _⟩ ?_
    clear hI hO hX
    rintro ⟨i, Mk, vc, fs⟩ wl ⟨hI, hO, hG, hF, hil⟩
    simp only at hI hO hG hF hil
    rcases Nat.lt_or_ge i d.abil.length with hi | hge
    · skip
      obtain ⟨b, o, c, cs, e, fz, hvv, hcs, hle, he⟩ := h.abil.get hi
      unfold isAbil at he
      refine gk_seq ?_
      refine gk_region ?_
      refine gr_v (ev_lss rfl rfl) ?_
      refine gr_nil ?_
      refine gk_seq ?_
      refine gk_true rfl (decide_eq_true (by omega)) ?_
      refine gk_skip ?_
      refine gk_seq ?_
      refine gk_block ?_
      refine gk_seq ?_
      refine gk_region ?_
      refine gr_v (ev_ix (len := d.abil.length) (a' := o + i * 2) (by rw [← hvv]; rfl) rfl Tryz.runUnderlying50 Tryz.sizeOf93 (by omega) (by omega) (by omega)) ?_
      refine gr_v (ev_lda rfl Tryz.isAgg93 Tryz.sizeOf93 (hI.bl.has _ _ (hI.bl.sub _ _ (hs _ _ hcs))) (mul_lt_ext hi hle)) ?_
      rw [he]
      refine gr_var Tryz.zeroValue93 Tryz.sizeOf93 rfl rfl rfl (ones_lit rfl) ?_
      intro w5 ho5 hb5 hs5
      refine gr_nil ?_
      refine gt_draw 15 (fun w' => w'.heap[B3]? = some (.cells (cells131 (toMD d) { X with abil := vc }) 131 (0, 0)) ∧ w'.heap[wl.heap.size]? = some (.cells #[.int .u32 d.abil[i].1, .int .u32 d.abil[i].2] 93 (0, 0))) (by kernel_rfl) ?_
      have hS := And.intro (ho5 _ _ hI.h3) hb5
      refine gt_take 0 rfl (by kernel_rfl) (fun _ _ => (ev_mv rfl)) hS ?_
      refine gt_take 1 rfl (by kernel_rfl) (fun _ _ => (ev_mv rfl)) hS ?_
      refine gt_take 2 rfl (by kernel_rfl) (fun _ _ => (ev_nil rfl)) hS ?_
      refine gt_take 3 rfl (by kernel_rfl) (fun _ _ => (ev_fa (j := 27) rfl Tryz.runUnderlying131 rfl Tryz.sizeOf124 rfl rfl)) hS ?_
      refine gt_take 4 rfl (by kernel_rfl) (fun _ hs => ev_ld rfl Tryz.isAgg124 hs.1 (by rfl)) hS ?_
      refine gt_take 5 rfl (by kernel_rfl) (fun _ _ => (ev_fa (j := 0) rfl Tryz.runUnderlying93 rfl Tryz.sizeOf30 rfl rfl)) hS ?_
      refine gt_take 6 rfl (by kernel_rfl) (fun _ hs => ev_ld rfl Tryz.isAgg30 hs.2 (by rfl)) hS ?_
      refine gt_take 7 rfl (by kernel_rfl) (fun _ _ => (ev_fa (j := 1) rfl Tryz.runUnderlying93 rfl Tryz.sizeOf30 rfl rfl)) hS ?_
      refine gt_take 8 rfl (by kernel_rfl) (fun _ hs => ev_ld rfl Tryz.isAgg30 hs.2 (by rfl)) hS ?_
      refine gt_take 9 rfl (by kernel_rfl) (fun _ _ => (ev_build (cs := #[.int .u32 d.abil[i].1, .int .u32 d.abil[i].2]) rfl (by kernel_rfl))) hS ?_
      refine gt_box 10 rfl (by kernel_rfl) rfl (fun _ ho => ⟨ho _ _ hS.1, ho _ _ hS.2⟩) ?_
      intro w6 ho6 hb6 hs6
      replace hS := And.intro (ho6 _ _ hS.1) (ho6 _ _ hS.2)
      refine gt_bs 11 (ys := [ptr w5.heap.size]) (sz := 1) rfl (by kernel_rfl) rfl rfl rfl Tryz.runUnderlying124 Tryz.sizeOf139 Tryz.zeroValue139 (by decide) rfl (fun _ ho => ⟨ho _ _ hS.1, ho _ _ hS.2⟩) ?_
      intro w7 ho7 hb7 hs7
      replace hS := And.intro (ho7 _ _ hS.1) (ho7 _ _ hS.2)
      have hbs : Builds Mk wl w7 (putM Mk w5.heap.size _) := ((Builds.refl hI.bl.has).step ((ho5.trans (show Old w5 w6 from ho6)).trans ho7)).add (ho7 _ _ hb6) (hI.bl.has.none (by omega)) (by omega)
      have hI7 := hI.more hbs
      have hG7 := hG.more hbs
      obtain ⟨v', w8, hap, hG8, hfr⟩ := hG7.step (t := 124) (T := 124) Tryz.runUnderlying124 Tryz.typeInfo139 Tryz.sizeOf139 Tryz.zeroValue139 rfl rfl rfl (by omega) hb7 rfl (fun y' hy' => by rw [List.mem_singleton.1 hy']; exact rfl)
      refine gt_v 12 rfl (by kernel_rfl) (ev_append rfl rfl hap) ⟨hfr _ _ (hG7.off hS.1 rfl) hS.1, hfr _ _ (hG7.off hS.2 rfl) hS.2⟩ ?_
      replace hS := And.intro (hfr _ _ (hG7.off hS.1 rfl) hS.1) (hfr _ _ (hG7.off hS.2 rfl) hS.2)
      refine gt_v 13 rfl (by kernel_rfl) (ev_nil rfl) hS ?_
      refine gt_take 14 rfl (by kernel_rfl) (fun _ _ => (ev_fa (j := 27) rfl Tryz.runUnderlying131 rfl Tryz.sizeOf124 rfl rfl)) hS ?_
      refine gt_sq rfl (by kernel_rfl) (es_st (cs' := cells131 (toMD d) { X with abil := v' }) rfl rfl hG8.one Tryz.sizeOf124 hS.1 (by rfl) (by rfl)) ?_
      refine gt_nil (by kernel_rfl) ?_
      have hI8 : OI M1 w w.heap.size B3 d x w8 _ { X with abil := vc } := ⟨hG8.bl, hfr _ _ (hG7.off hI7.h1 rfl) hI7.h1, hS.1, hI7.n3, hI7.lo⟩
      have hG9 := hG8.put (o := .cells (cells131 (toMD d) { X with abil := v' }) 131 (0, 0)) hI8.h3 rfl hI8.n3 hI8.lo
      have hI9 := hI8.put { X with abil := v' }
      refine gk_endblk ?_
      refine gk_region ?_
      refine gr_v (ev_add (r := ((i + 1 : Nat) : Int)) rfl rfl (by rw [w_i64 (by omega) (by omega)]; omega)) ?_
      refine gr_v (ev_mv rfl) ?_
      refine gr_nil ?_
      refine gk_fin fun a ha => ?_
      exact ⟨(i + 1, _, v', fs ++ [ptr w5.heap.size]), ha.keep ⟨rfl, rfl, rfl, rfl, rfl, trivial⟩, ⟨hI9, hO.sub hbs.sub, hG9, (hF.mono fun y a h => h.old hbs.sub).step hi (p71 _ _ putM_same), hi⟩, (by show d.abil.length - (i + 1) < d.abil.length - i; omega)⟩
    · skip
      obtain rfl : i = d.abil.length := by omega
      refine gk_seq ?_
      refine gk_region ?_
      refine gr_v (ev_lss rfl rfl) ?_
      refine gr_nil ?_
      refine gk_seq ?_
      refine gk_false rfl (decide_eq_false (by omega)) ?_
      refine gk_exit rfl ?_
      obtain ⟨M', hd1, hd2, hd3, hd4⟩ := hG.done (R := fun y ab => Packs 71 Mk y (abilPK ab)) hF.all
      refine gk_fin fun a ha => ?_
      exact ⟨(M', { X with abil := vc }), ha.keep ⟨rfl, rfl, trivial⟩, ⟨hd1, hI.h1, hI.h3, hd4 _ hI.n3 (hG.off hI.h3 rfl), hI.lo⟩, { hO.sub hd2 with abil := hd3.sub Sub.refl fun _ _ k => k.old hd2 }⟩
  clear hI hO
  rintro ⟨Mk, X⟩ wk ⟨hI, hO⟩
  simp only at hI hO
  exact s17_5 h hc hs hI hO

set_option maxHeartbeats 4000000 in
theorem s17_3 {M : Mem} {d : SD} {x : SV} (h : SrcR ImplOK M d x) (hc : Clean d) {M1 : Mem} {w : World} (hs : Sub M M1) {B3 : Nat} {Mk : Mem} {X : MV} {wk : World} (hI : OI M1 w w.heap.size B3 d x wk Mk X) (hO : ObjR Mk ({ { { toMD0 d with pos := lastPK vecPK d.pos } with tables := d.tables } with enemy := lastPK (fun p => p) d.enemy }) X) :
    GK 304 Tryz.prog (Post17 M1 w d) [.code (nthc (bodyc Tryz.f17) 5)] [(1, ptr w.heap.size), (3, ptr B3)] wk := by
  refine gk_seqs (by rfl) ?_
  refine gk_seq ?_
  refine gk_region ?_
  refine gr_v (ev_fa (j := 14) rfl Tryz.runUnderlying52 rfl Tryz.sizeOf49 rfl rfl) ?_
  refine gr_v (ev_ld rfl Tryz.isAgg49 hI.h1 (by rfl)) ?_
  refine gr_v (ev_lenL h.stat.len rfl ⟨_, rfl, _, Tryz.runUnderlying49⟩) ?_
  refine gr_v (ev_mv rfl) ?_
  refine gr_nil ?_
  refine gk_cutf (ι := Mem × MV) (fun _ => [(1, ptr w.heap.size), (3, ptr B3)]) (fun i w' => OI M1 w w.heap.size B3 d x w' i.1 i.2 ∧ ObjR i.1 ({ { { { toMD0 d with pos := lastPK vecPK d.pos } with tables := d.tables } with enemy := lastPK (fun p => p) d.enemy } with stat := lastPK statPK d.stat }) i.2) ?_ ?_
  · intro Q0 k0
    have hcl : d.stat.length ≤ 50 := Nat.le_trans hc.stat (by decide)
    refine gk_block ?_
    refine gk_loop (fun i : Nat × Mem × MV => [(1, ptr w.heap.size), (3, ptr B3), (170, x.stat), (171, .int .i64 d.stat.length), (172, .int .i64 (i.1 : Int))]) (fun i w' => OI M1 w w.heap.size B3 d x w' i.2.1 i.2.2 ∧ ObjR i.2.1 ({ { { { toMD0 d with pos := lastPK vecPK d.pos } with tables := d.tables } with enemy := lastPK (fun p => p) d.enemy } with stat := lastPK statPK (d.stat.take i.1) }) i.2.2 ∧ i.1 ≤ d.stat.length) (fun i => d.stat.length - i.1) (0, Mk, X) ⟨rfl, rfl, rfl, rfl, rfl, trivial⟩ ⟨hI, hO, Nat.zero_le _⟩ ?_
    clear hI hO
    rintro ⟨i, Mk, X⟩ wl ⟨hI, hO, hil⟩
    simp only at hI hO hil
    rcases Nat.lt_or_ge i d.stat.length with hi | hge
    · skip
      obtain ⟨b, o, c, cs, e, fz, hvv, hcs, hle, he⟩ := h.stat.get hi
      unfold isStat at he
      refine gk_seq ?_
      refine gk_region ?_
      refine gr_v (ev_lss rfl rfl) ?_
      refine gr_nil ?_
      refine gk_seq ?_
      refine gk_true rfl (decide_eq_true (by omega)) ?_
      refine gk_skip ?_
      refine gk_seq ?_
      refine gk_block ?_
      refine gk_seq ?_
      refine gk_region ?_
      refine gr_v (ev_ix (len := d.stat.length) (a' := o + i * 3) (by rw [← hvv]; rfl) rfl Tryz.runUnderlying49 Tryz.sizeOf87 (by omega) (by omega) (by omega)) ?_
      refine gr_v (ev_lda rfl Tryz.isAgg87 Tryz.sizeOf87 (hI.bl.has _ _ (hI.bl.sub _ _ (hs _ _ hcs))) (mul_lt_ext hi hle)) ?_
      rw [he]
      refine gr_var Tryz.zeroValue87 Tryz.sizeOf87 rfl rfl rfl (ones_lit rfl) ?_
      intro w5 ho5 hb5 hs5
      refine gr_nil ?_
      refine gk_region ?_
      refine gr_v (ev_mv rfl) ?_
      refine gr_v (ev_fa (j := 0) rfl Tryz.runUnderlying87 rfl Tryz.sizeOf9 rfl rfl) ?_
      refine gr_v (ev_ld rfl Tryz.isAgg9 hb5 (by rfl)) ?_
      refine gr_v (ev_fa (j := 1) rfl Tryz.runUnderlying87 rfl Tryz.sizeOf2 rfl rfl) ?_
      refine gr_v (ev_ld rfl Tryz.isAgg2 hb5 (by rfl)) ?_
      refine gr_v (ev_fa (j := 2) rfl Tryz.runUnderlying87 rfl Tryz.sizeOf39 rfl rfl) ?_
      refine gr_v (ev_ld rfl Tryz.isAgg39 hb5 (by rfl)) ?_
      refine gr_v (ev_build (cs := #[.string d.stat[i].1, .int .i64 d.stat[i].2.1, .int .u16 d.stat[i].2.2]) rfl (by kernel_rfl)) ?_
      refine gr_box rfl ?_
      intro w6 ho6 hb6 hs6
      have hbs : Builds Mk wl w6 (putM Mk w5.heap.size _) := ((Builds.refl hI.bl.has).step (ho5.trans ho6)).add hb6 (hI.bl.has.none (by omega)) (by omega)
      have hI6 := hI.more hbs
      refine gr_v (ev_nil rfl) ?_
      refine gr_v (ev_fa (j := 12) rfl Tryz.runUnderlying131 rfl Tryz.sizeOf123 rfl rfl) ?_
      refine gr_s (es_st (cs' := cells131 (toMD d) { X with stat := ptr w5.heap.size }) rfl rfl (by rfl) Tryz.sizeOf123 hI6.h3 (by rfl) (by rfl)) ?_
      refine gr_nil ?_
      refine gk_endblk ?_
      refine gk_region ?_
      refine gr_v (ev_add (r := ((i + 1 : Nat) : Int)) rfl rfl (by rw [w_i64 (by omega) (by omega)]; omega)) ?_
      refine gr_v (ev_mv rfl) ?_
      refine gr_nil ?_
      refine gk_fin fun a ha => ?_
      exact ⟨(i + 1, _, { X with stat := ptr w5.heap.size }), ha.keep ⟨rfl, rfl, rfl, rfl, rfl, trivial⟩, ⟨hI6.put _, { hO.sub hbs.sub with stat := (by rw [lastPK_take hi]; exact p66 _ _ _ putM_same) }, hi⟩, (by show d.stat.length - (i + 1) < d.stat.length - i; omega)⟩
    · skip
      obtain rfl : i = d.stat.length := by omega
      rw [List.take_length] at hO
      refine gk_seq ?_
      refine gk_region ?_
      refine gr_v (ev_lss rfl rfl) ?_
      refine gr_nil ?_
      refine gk_seq ?_
      refine gk_false rfl (decide_eq_false (by omega)) ?_
      refine gk_exit rfl ?_
      refine gk_fin fun a ha => ?_
      exact ⟨(Mk, X), ha.keep ⟨rfl, rfl, trivial⟩, hI, hO⟩
  clear hI hO
  rintro ⟨Mk, X⟩ wk ⟨hI, hO⟩
  simp only at hI hO
  exact s17_4 h hc hs hI hO

set_option maxHeartbeats 4000000 in
theorem s17_2 {M : Mem} {d : SD} {x : SV} (h : SrcR ImplOK M d x) (hc : Clean d) {M1 : Mem} {w : World} (hs : Sub M M1) {B3 : Nat} {Mk : Mem} {X : MV} {wk : World} (hI : OI M1 w w.heap.size B3 d x wk Mk X) (hO : ObjR Mk ({ { toMD0 d with pos := lastPK vecPK d.pos } with tables := d.tables }) X) :
    GK 304 Tryz.prog (Post17 M1 w d) [.code (nthc (bodyc Tryz.f17) 4)] [(1, ptr w.heap.size), (3, ptr B3)] wk := by
  refine gk_seqs (by rfl) ?_
  refine gk_seq ?_
  refine gk_region ?_
  refine gr_v (ev_fa (j := 12) rfl Tryz.runUnderlying52 rfl Tryz.sizeOf45 rfl rfl) ?_
  refine gr_v (ev_ld rfl Tryz.isAgg45 hI.h1 (by rfl)) ?_
  refine gr_v (ev_lenL h.enemy.len rfl ⟨_, rfl, _, Tryz.runUnderlying45⟩) ?_
  refine gr_v (ev_mv rfl) ?_
  refine gr_nil ?_
  refine gk_cutf (ι := Mem × MV) (fun _ => [(1, ptr w.heap.size), (3, ptr B3)]) (fun i w' => OI M1 w w.heap.size B3 d x w' i.1 i.2 ∧ ObjR i.1 ({ { { toMD0 d with pos := lastPK vecPK d.pos } with tables := d.tables } with enemy := lastPK (fun p => p) d.enemy }) i.2) ?_ ?_
  · intro Q0 k0
    have hcl : d.enemy.length ≤ 50 := Nat.le_trans hc.enemy (by decide)
    refine gk_block ?_
    refine gk_loop (fun i : Nat × Mem × MV => [(1, ptr w.heap.size), (3, ptr B3), (157, x.enemy), (158, .int .i64 d.enemy.length), (159, .int .i64 (i.1 : Int))]) (fun i w' => OI M1 w w.heap.size B3 d x w' i.2.1 i.2.2 ∧ ObjR i.2.1 ({ { { toMD0 d with pos := lastPK vecPK d.pos } with tables := d.tables } with enemy := lastPK (fun p => p) (d.enemy.take i.1) }) i.2.2 ∧ i.1 ≤ d.enemy.length) (fun i => d.enemy.length - i.1) (0, Mk, X) ⟨rfl, rfl, rfl, rfl, rfl, trivial⟩ ⟨hI, hO, Nat.zero_le _⟩ ?_
    clear hI hO
    rintro ⟨i, Mk, X⟩ wl ⟨hI, hO, hil⟩
    simp only at hI hO hil
    rcases Nat.lt_or_ge i d.enemy.length with hi | hge
    · skip
      obtain ⟨b, o, c, cs, e, fz, hvv, hcs, hle, he⟩ := h.enemy.get hi
      refine gk_seq ?_
      refine gk_region ?_
      refine gr_v (ev_lss rfl rfl) ?_
      refine gr_nil ?_
      refine gk_seq ?_
      refine gk_true rfl (decide_eq_true (by omega)) ?_
      refine gk_skip ?_
      refine gk_seq ?_
      refine gk_block ?_
      refine gk_seq ?_
      refine gk_region ?_
      refine gr_v (ev_ix (len := d.enemy.length) (a' := o + i * 51) (by rw [← hvv]; rfl) rfl Tryz.runUnderlying45 Tryz.sizeOf52 (by omega) (by omega) (by omega)) ?_
      refine gr_v (ev_lda rfl Tryz.isAgg52 Tryz.sizeOf52 (hI.bl.has _ _ (hI.bl.sub _ _ (hs _ _ hcs))) (mul_lt_ext hi hle)) ?_
      refine gr_var Tryz.zeroValue52 Tryz.sizeOf52 rfl rfl he.1 he.2.1 ?_
      intro w5 ho5 hb5 hs5
      refine gr_nil ?_
      refine gk_region ?_
      refine gr_v (ev_mv rfl) ?_
      refine gr_v (ev_ldall rfl Tryz.isAgg52 Tryz.sizeOf52 hb5 he.1) ?_
      have hB5 := (Builds.refl hI.bl.has).step ho5
      have hI5 := hI.more hB5
      refine gr_call (ec_func Tryz.call17 rfl) (he.2.2 Mk w5 (hs.trans hI.bl.sub) hB5.has) ?_
      rintro y w6 ⟨hy1, M', hb6, hp6⟩
      have hI6 := hI5.more hb6
      refine gr_v (ev_nil rfl) ?_
      refine gr_v (ev_fa (j := 10) rfl Tryz.runUnderlying131 rfl Tryz.sizeOf66 rfl rfl) ?_
      refine gr_s (es_st (cs' := cells131 (toMD d) { X with enemy := y }) rfl rfl hy1 Tryz.sizeOf66 hI6.h3 (by rfl) (by rfl)) ?_
      refine gr_nil ?_
      refine gk_endblk ?_
      refine gk_region ?_
      refine gr_v (ev_add (r := ((i + 1 : Nat) : Int)) rfl rfl (by rw [w_i64 (by omega) (by omega)]; omega)) ?_
      refine gr_v (ev_mv rfl) ?_
      refine gr_nil ?_
      refine gk_fin fun a ha => ?_
      exact ⟨(i + 1, M', { X with enemy := y }), ha.keep ⟨rfl, rfl, rfl, rfl, rfl, trivial⟩, ⟨hI6.put _, { hO.sub hb6.sub with enemy := (by rw [lastPK_take hi]; exact hp6) }, hi⟩, (by show d.enemy.length - (i + 1) < d.enemy.length - i; omega)⟩
    · skip
      obtain rfl : i = d.enemy.length := by omega
      rw [List.take_length] at hO
      refine gk_seq ?_
      refine gk_region ?_
      refine gr_v (ev_lss rfl rfl) ?_
      refine gr_nil ?_
      refine gk_seq ?_
      refine gk_false rfl (decide_eq_false (by omega)) ?_
      refine gk_exit rfl ?_
      refine gk_fin fun a ha => ?_
      exact ⟨(Mk, X), ha.keep ⟨rfl, rfl, trivial⟩, hI, hO⟩
  clear hI hO
  rintro ⟨Mk, X⟩ wk ⟨hI, hO⟩
  simp only at hI hO
  exact s17_3 h hc hs hI hO

set_option maxHeartbeats 4000000 in
theorem s17_1 {M : Mem} {d : SD} {x : SV} (h : SrcR ImplOK M d x) (hc : Clean d) {M1 : Mem} {w : World} (hs : Sub M M1) {B3 : Nat} {Mk : Mem} {X : MV} {wk : World} (hI : OI M1 w w.heap.size B3 d x wk Mk X) (hO : ObjR Mk ({ toMD0 d with pos := lastPK vecPK d.pos }) X) :
    GK 304 Tryz.prog (Post17 M1 w d) [.code (nthc (bodyc Tryz.f17) 3)] [(1, ptr w.heap.size), (3, ptr B3)] wk := by
  refine gk_seqs (by rfl) ?_
  refine gk_seq ?_
  refine gk_region ?_
  refine gr_v (ev_fa (j := 11) rfl Tryz.runUnderlying52 rfl Tryz.sizeOf45 rfl rfl) ?_
  refine gr_v (ev_ld rfl Tryz.isAgg45 hI.h1 (by rfl)) ?_
  refine gr_v (ev_lenL h.tables.len rfl ⟨_, rfl, _, Tryz.runUnderlying45⟩) ?_
  refine gr_v (ev_mv rfl) ?_
  refine gr_nil ?_
  refine gk_cutf (ι := Mem × MV) (fun _ => [(1, ptr w.heap.size), (3, ptr B3)]) (fun i w' => OI M1 w w.heap.size B3 d x w' i.1 i.2 ∧ ObjR i.1 ({ { toMD0 d with pos := lastPK vecPK d.pos } with tables := d.tables }) i.2) ?_ ?_
  · intro Q0 k0
    have hcl : d.tables.length ≤ 50 := hc.tables
    have hX : { X with tables := .slice none 0 0 } = X := by
      rcases hO.tables with ⟨_, h2⟩ | ⟨h2, _⟩
      · cases X; simp only at h2; rw [h2]
      · exact absurd rfl h2
    refine gk_block ?_
    refine gk_loop (fun i : Nat × Mem × Value × List Value => [(1, ptr w.heap.size), (3, ptr B3), (138, x.tables), (139, .int .i64 d.tables.length), (140, .int .i64 (i.1 : Int))]) (fun i w' => OI M1 w w.heap.size B3 d x w' i.2.1 { X with tables := i.2.2.1 } ∧ ObjR i.2.1 ({ toMD0 d with pos := lastPK vecPK d.pos }) X ∧ GRow 66 1 M1 w w' i.2.1 i.2.2.1 i.1 i.2.2.2 ∧ SoFar (Packs 18 i.2.1) d.tables i.1 i.2.2.2 ∧ i.1 ≤ d.tables.length) (fun i => d.tables.length - i.1) (0, Mk, .slice none 0 0, []) ⟨rfl, rfl, rfl, rfl, rfl, trivial⟩ ⟨(by rw [hX]; exact hI), hO, GRow.nil hI.bl, SoFar.nil, Nat.zero_le _⟩ ?_
    clear hI hO hX
    rintro ⟨i, Mk, vc, fs⟩ wl ⟨hI, hO, hG, hF, hil⟩
    simp only at hI hO hG hF hil
    rcases Nat.lt_or_ge i d.tables.length with hi | hge
    · skip
      obtain ⟨b, o, c, cs, e, fz, hvv, hcs, hle, he⟩ := h.tables.get hi
      refine gk_seq ?_
      refine gk_region ?_
      refine gr_v (ev_lss rfl rfl) ?_
      refine gr_nil ?_
      refine gk_seq ?_
      refine gk_true rfl (decide_eq_true (by omega)) ?_
      refine gk_skip ?_
      refine gk_seq ?_
      refine gk_block ?_
      refine gk_seq ?_
      refine gk_region ?_
      refine gr_v (ev_ix (len := d.tables.length) (a' := o + i * 51) (by rw [← hvv]; rfl) rfl Tryz.runUnderlying45 Tryz.sizeOf52 (by omega) (by omega) (by omega)) ?_
      refine gr_v (ev_lda rfl Tryz.isAgg52 Tryz.sizeOf52 (hI.bl.has _ _ (hI.bl.sub _ _ (hs _ _ hcs))) (mul_lt_ext hi hle)) ?_
      refine gr_var Tryz.zeroValue52 Tryz.sizeOf52 rfl rfl he.1 he.2.1 ?_
      intro w5 ho5 hb5 hs5
      refine gr_nil ?_
      refine gt_draw 11 (fun w' => w'.heap[B3]? = some (.cells (cells131 (toMD d) { X with tables := vc }) 131 (0, 0)) ∧ w'.heap[wl.heap.size]? = some (.cells (cs.extract (o + i * 51) (o + i * 51 + 51)) 52 (0, 0))) (by kernel_rfl) ?_
      have hS := And.intro (ho5 _ _ hI.h3) hb5
      refine gt_take 0 rfl (by kernel_rfl) (fun _ _ => (ev_mv rfl)) hS ?_
      refine gt_take 1 rfl (by kernel_rfl) (fun _ _ => (ev_mv rfl)) hS ?_
      refine gt_take 2 rfl (by kernel_rfl) (fun _ _ => (ev_nil rfl)) hS ?_
      refine gt_take 3 rfl (by kernel_rfl) (fun _ _ => (ev_fa (j := 9) rfl Tryz.runUnderlying131 rfl Tryz.sizeOf122 rfl rfl)) hS ?_
      refine gt_take 4 rfl (by kernel_rfl) (fun _ hs => ev_ld rfl Tryz.isAgg122 hs.1 (by rfl)) hS ?_
      refine gt_take 5 rfl (by kernel_rfl) (fun _ hs => ev_ldall rfl Tryz.isAgg52 Tryz.sizeOf52 hs.2 he.1) hS ?_
      have hB5 : Builds Mk wl w5.drew Mk := ((Builds.refl hI.bl.has).step ho5).step (Old.same rfl)
      refine gt_call 6 rfl (by kernel_rfl) (ec_func Tryz.call17 rfl) (he.2.2 Mk w5.drew (hs.trans hI.bl.sub) hB5.has) ?_
      rintro y w6 ⟨hy1, M', hb6, hp6⟩
      refine ⟨⟨hb6.old _ _ hS.1, hb6.old _ _ hS.2⟩, fun hS => ?_⟩
      refine gt_bs 7 (ys := [y]) (sz := 1) rfl (by kernel_rfl) rfl (cells_one hy1) rfl Tryz.runUnderlying122 Tryz.sizeOf66 Tryz.zeroValue66 (by decide) rfl (fun _ ho => ⟨ho _ _ hS.1, ho _ _ hS.2⟩) ?_
      intro w7 ho7 hb7 hs7
      replace hS := And.intro (ho7 _ _ hS.1) (ho7 _ _ hS.2)
      have hbs : Builds Mk wl w7 M' := (hB5.trans hb6).step ho7
      have hI7 := hI.more hbs
      have hG7 := hG.more hbs
      obtain ⟨v', w8, hap, hG8, hfr⟩ := hG7.step (t := 122) (T := 122) Tryz.runUnderlying122 Tryz.typeInfo66 Tryz.sizeOf66 Tryz.zeroValue66 rfl rfl rfl (by omega) hb7 rfl (fun y' hy' => by rw [List.mem_singleton.1 hy']; exact hy1)
      refine gt_v 8 rfl (by kernel_rfl) (ev_append rfl rfl hap) ⟨hfr _ _ (hG7.off hS.1 rfl) hS.1, hfr _ _ (hG7.off hS.2 rfl) hS.2⟩ ?_
      replace hS := And.intro (hfr _ _ (hG7.off hS.1 rfl) hS.1) (hfr _ _ (hG7.off hS.2 rfl) hS.2)
      refine gt_v 9 rfl (by kernel_rfl) (ev_nil rfl) hS ?_
      refine gt_take 10 rfl (by kernel_rfl) (fun _ _ => (ev_fa (j := 9) rfl Tryz.runUnderlying131 rfl Tryz.sizeOf122 rfl rfl)) hS ?_
      refine gt_sq rfl (by kernel_rfl) (es_st (cs' := cells131 (toMD d) { X with tables := v' }) rfl rfl hG8.one Tryz.sizeOf122 hS.1 (by rfl) (by rfl)) ?_
      refine gt_nil (by kernel_rfl) ?_
      have hI8 : OI M1 w w.heap.size B3 d x w8 _ { X with tables := vc } := ⟨hG8.bl, hfr _ _ (hG7.off hI7.h1 rfl) hI7.h1, hS.1, hI7.n3, hI7.lo⟩
      have hG9 := hG8.put (o := .cells (cells131 (toMD d) { X with tables := v' }) 131 (0, 0)) hI8.h3 rfl hI8.n3 hI8.lo
      have hI9 := hI8.put { X with tables := v' }
      refine gk_endblk ?_
      refine gk_region ?_
      refine gr_v (ev_add (r := ((i + 1 : Nat) : Int)) rfl rfl (by rw [w_i64 (by omega) (by omega)]; omega)) ?_
      refine gr_v (ev_mv rfl) ?_
      refine gr_nil ?_
      refine gk_fin fun a ha => ?_
      exact ⟨(i + 1, _, v', fs ++ [y]), ha.keep ⟨rfl, rfl, rfl, rfl, rfl, trivial⟩, ⟨hI9, hO.sub hbs.sub, hG9, (hF.mono fun y a h => h.old hbs.sub).step hi hp6, hi⟩, (by show d.tables.length - (i + 1) < d.tables.length - i; omega)⟩
    · skip
      obtain rfl : i = d.tables.length := by omega
      refine gk_seq ?_
      refine gk_region ?_
      refine gr_v (ev_lss rfl rfl) ?_
      refine gr_nil ?_
      refine gk_seq ?_
      refine gk_false rfl (decide_eq_false (by omega)) ?_
      refine gk_exit rfl ?_
      obtain ⟨M', hd1, hd2, hd3, hd4⟩ := hG.done (R := Packs 18 Mk) hF.all
      refine gk_fin fun a ha => ?_
      exact ⟨(M', { X with tables := vc }), ha.keep ⟨rfl, rfl, trivial⟩, ⟨hd1, hI.h1, hI.h3, hd4 _ hI.n3 (hG.off hI.h3 rfl), hI.lo⟩, { hO.sub hd2 with tables := hd3.sub Sub.refl fun _ _ k => k.old hd2 }⟩
  clear hI hO
  rintro ⟨Mk, X⟩ wk ⟨hI, hO⟩
  simp only at hI hO
  exact s17_2 h hc hs hI hO

set_option maxHeartbeats 4000000 in
theorem s17_0 {M : Mem} {d : SD} {x : SV} (h : SrcR ImplOK M d x) (hc : Clean d) {M1 : Mem} {w : World} (hs : Sub M M1) {B3 : Nat} {Mk : Mem} {X : MV} {wk : World} (hI : OI M1 w w.heap.size B3 d x wk Mk X) (hO : ObjR Mk (toMD0 d) X) :
    GK 304 Tryz.prog (Post17 M1 w d) [.code (nthc (bodyc Tryz.f17) 2)] [(1, ptr w.heap.size), (3, ptr B3)] wk := by
  refine gk_seqs (by rfl) ?_
  refine gk_seq ?_
  refine gk_region ?_
  refine gr_v (ev_fa (j := 0) rfl Tryz.runUnderlying52 rfl Tryz.sizeOf44 rfl rfl) ?_
  refine gr_v (ev_ld rfl Tryz.isAgg44 hI.h1 (by rfl)) ?_
  refine gr_v (ev_lenL h.pos.len rfl ⟨_, rfl, _, Tryz.runUnderlying44⟩) ?_
  refine gr_v (ev_mv rfl) ?_
  refine gr_nil ?_
  refine gk_cutf (ι := Mem × MV) (fun _ => [(1, ptr w.heap.size), (3, ptr B3)]) (fun i w' => OI M1 w w.heap.size B3 d x w' i.1 i.2 ∧ ObjR i.1 ({ toMD0 d with pos := lastPK vecPK d.pos }) i.2) ?_ ?_
  · intro Q0 k0
    have hcl : d.pos.length ≤ 50 := Nat.le_trans hc.pos (by decide)
    refine gk_block ?_
    refine gk_loop (fun i : Nat × Mem × MV => [(1, ptr w.heap.size), (3, ptr B3), (105, x.pos), (106, .int .i64 d.pos.length), (107, .int .i64 (i.1 : Int))]) (fun i w' => OI M1 w w.heap.size B3 d x w' i.2.1 i.2.2 ∧ ObjR i.2.1 ({ toMD0 d with pos := lastPK vecPK (d.pos.take i.1) }) i.2.2 ∧ i.1 ≤ d.pos.length) (fun i => d.pos.length - i.1) (0, Mk, X) ⟨rfl, rfl, rfl, rfl, rfl, trivial⟩ ⟨hI, hO, Nat.zero_le _⟩ ?_
    clear hI hO
    rintro ⟨i, Mk, X⟩ wl ⟨hI, hO, hil⟩
    simp only at hI hO hil
    rcases Nat.lt_or_ge i d.pos.length with hi | hge
    · skip
      obtain ⟨b, o, c, cs, e, fz, hvv, hcs, hle, he⟩ := h.pos.get hi
      unfold isVec at he
      refine gk_seq ?_
      refine gk_region ?_
      refine gr_v (ev_lss rfl rfl) ?_
      refine gr_nil ?_
      refine gk_seq ?_
      refine gk_true rfl (decide_eq_true (by omega)) ?_
      refine gk_skip ?_
      refine gk_seq ?_
      refine gk_block ?_
      refine gk_seq ?_
      refine gk_region ?_
      refine gr_v (ev_ix (len := d.pos.length) (a' := o + i * 7) (by rw [← hvv]; rfl) rfl Tryz.runUnderlying44 Tryz.sizeOf76 (by omega) (by omega) (by omega)) ?_
      refine gr_v (ev_lda rfl Tryz.isAgg76 Tryz.sizeOf76 (hI.bl.has _ _ (hI.bl.sub _ _ (hs _ _ hcs))) (mul_lt_ext hi hle)) ?_
      rw [he]
      refine gr_var Tryz.zeroValue76 Tryz.sizeOf76 rfl rfl rfl (ones_lit rfl) ?_
      intro w5 ho5 hb5 hs5
      refine gr_nil ?_
      refine gk_draw (fun w' => w'.heap[wl.heap.size]? = some (.cells #[.int .u32 d.pos[i].x, .int .u32 d.pos[i].y, .int .u32 d.pos[i].z, .int .u64 d.pos[i].t1, B d.pos[i].t2, .int .i16 d.pos[i].a, .int .i8 d.pos[i].b] 76 (0, 0))) (by kernel_rfl) ?_
      have hS := hb5
      refine ga_take 0 rfl (by kernel_rfl) (fun _ _ => (ev_mv rfl)) hS ?_
      refine ga_take 1 rfl (by kernel_rfl) (fun _ _ => (ev_fa (j := 0) rfl Tryz.runUnderlying76 rfl Tryz.sizeOf30 rfl rfl)) hS ?_
      refine ga_take 2 rfl (by kernel_rfl) (fun _ hs => ev_ld rfl Tryz.isAgg30 hs (by rfl)) hS ?_
      refine ga_take 3 rfl (by kernel_rfl) (fun _ _ => (ev_ext rfl (x51 _ _))) hS ?_
      refine ga_take 4 rfl (by kernel_rfl) (fun _ _ => (ev_fa (j := 1) rfl Tryz.runUnderlying76 rfl Tryz.sizeOf30 rfl rfl)) hS ?_
      refine ga_take 5 rfl (by kernel_rfl) (fun _ hs => ev_ld rfl Tryz.isAgg30 hs (by rfl)) hS ?_
      refine ga_take 6 rfl (by kernel_rfl) (fun _ _ => (ev_ext rfl (x51 _ _))) hS ?_
      refine ga_take 7 rfl (by kernel_rfl) (fun _ _ => (ev_fa (j := 2) rfl Tryz.runUnderlying76 rfl Tryz.sizeOf30 rfl rfl)) hS ?_
      refine ga_take 8 rfl (by kernel_rfl) (fun _ hs => ev_ld rfl Tryz.isAgg30 hs (by rfl)) hS ?_
      refine ga_take 9 rfl (by kernel_rfl) (fun _ _ => (ev_ext rfl (x51 _ _))) hS ?_
      refine ga_take 10 rfl (by kernel_rfl) (fun _ _ => (ev_fa (j := 3) rfl Tryz.runUnderlying76 rfl Tryz.sizeOf31 rfl rfl)) hS ?_
      refine ga_take 11 rfl (by kernel_rfl) (fun _ hs => ev_ld rfl Tryz.isAgg31 hs (by rfl)) hS ?_
      refine ga_take 12 rfl (by kernel_rfl) (fun _ _ => (ev_ext rfl (x55 _ _))) hS ?_
      refine ga_take 13 rfl (by kernel_rfl) (fun _ _ => (ev_fa (j := 4) rfl Tryz.runUnderlying76 rfl Tryz.sizeOf5 rfl rfl)) hS ?_
      refine ga_take 14 rfl (by kernel_rfl) (fun _ hs => ev_ld rfl Tryz.isAgg5 hs (by rfl)) hS ?_
      refine ga_take 15 rfl (by kernel_rfl) (fun _ _ => (ev_fa (j := 5) rfl Tryz.runUnderlying76 rfl Tryz.sizeOf23 rfl rfl)) hS ?_
      refine ga_take 16 rfl (by kernel_rfl) (fun _ hs => ev_ld rfl Tryz.isAgg23 hs (by rfl)) hS ?_
      refine ga_take 17 rfl (by kernel_rfl) (fun _ _ => (ev_fa (j := 6) rfl Tryz.runUnderlying76 rfl Tryz.sizeOf36 rfl rfl)) hS ?_
      refine ga_take 18 rfl (by kernel_rfl) (fun _ hs => ev_ld rfl Tryz.isAgg36 hs (by rfl)) hS ?_
      refine ga_take 19 rfl (by kernel_rfl) (fun _ _ => (ev_build (cs := #[.int .i16 d.pos[i].a, .int .i8 d.pos[i].b]) rfl (by kernel_rfl))) hS ?_
      refine ga_box 20 rfl (by kernel_rfl) rfl (fun _ ho => ho _ _ hS) ?_
      intro w7 ho7 hb7 hs7
      replace hS := ho7 _ _ hS
      refine ga_take 21 rfl (by kernel_rfl) (fun _ _ => (ev_build (cs := #[.float .f32 d.pos[i].x.toNat, .float .f32 d.pos[i].y.toNat, .float .f32 d.pos[i].z.toNat, .float .f64 d.pos[i].t1.toNat, B d.pos[i].t2, ptr w5.heap.size]) rfl (by kernel_rfl))) hS ?_
      refine ga_box 22 rfl (by kernel_rfl) rfl (fun _ ho => ho _ _ hS) ?_
      intro w8 ho8 hb8 hs8
      replace hS := ho8 _ _ hS
      have hbs1 : Builds Mk wl w8 (putM Mk w5.heap.size _) := ((Builds.refl hI.bl.has).step ((ho5.trans (show Old w5 w7 from ho7)).trans ho8)).add (ho8 _ _ hb7) (hI.bl.has.none (by omega)) (by omega)
      have hsz7 : w7.heap.size = w5.heap.size + 1 := hs7
      have hbs : Builds Mk wl w8 (putM (putM Mk w5.heap.size _) w7.heap.size _) := hbs1.add hb8 ((if_neg (by omega)).trans (hI.bl.has.none (by omega))) (by omega)
      have hI8 := hI.more hbs
      refine ga_take 23 rfl (by kernel_rfl) (fun _ _ => (ev_nil rfl)) hS ?_
      refine ga_take 24 rfl (by kernel_rfl) (fun _ _ => (ev_fa (j := 0) rfl Tryz.runUnderlying131 rfl Tryz.sizeOf120 rfl rfl)) hS ?_
      refine ga_s 25 rfl (by kernel_rfl) (es_st (cs' := cells131 (toMD d) { X with pos := ptr w7.heap.size }) rfl rfl (by rfl) Tryz.sizeOf120 hI8.h3 (by rfl) (by rfl)) (sb_ne (fun e' => by have := lt_of_heap hI.h3; omega) hS) ?_
      refine ga_nil (by kernel_rfl) ?_
      refine gk_endblk ?_
      refine gk_region ?_
      refine gr_v (ev_add (r := ((i + 1 : Nat) : Int)) rfl rfl (by rw [w_i64 (by omega) (by omega)]; omega)) ?_
      refine gr_v (ev_mv rfl) ?_
      refine gr_nil ?_
      refine gk_fin fun a ha => ?_
      exact ⟨(i + 1, _, { X with pos := ptr w7.heap.size }), ha.keep ⟨rfl, rfl, rfl, rfl, rfl, trivial⟩, ⟨hI8.put _, { hO.sub hbs.sub with pos := (by rw [lastPK_take hi]; exact p90 _ _ _ _ _ _ _ putM_same (putM_old putM_same (by omega))) }, hi⟩, (by show d.pos.length - (i + 1) < d.pos.length - i; omega)⟩
    · skip
      obtain rfl : i = d.pos.length := by omega
      rw [List.take_length] at hO
      refine gk_seq ?_
      refine gk_region ?_
      refine gr_v (ev_lss rfl rfl) ?_
      refine gr_nil ?_
      refine gk_seq ?_
      refine gk_false rfl (decide_eq_false (by omega)) ?_
      refine gk_exit rfl ?_
      refine gk_fin fun a ha => ?_
      exact ⟨(Mk, X), ha.keep ⟨rfl, rfl, trivial⟩, hI, hO⟩
  clear hI hO
  rintro ⟨Mk, X⟩ wk ⟨hI, hO⟩
  simp only at hI hO
  exact s17_1 h hc hs hI hO

set_option maxHeartbeats 8000000 in
theorem o17 {M : Mem} {d : SD} {x : SV} (h : SrcR ImplOK M d x) (hc : Clean d) : ImplOK M (cells52 d x) (packM (toMD d)) := by
  refine ⟨rfl, h.ones, fun M1 w hs hM => ?_⟩
  refine cr_enter Tryz.func17 rfl Tryz.ntmps17 ?_
  refine gk_seq ?_
  refine gk_region ?_
  refine gr_box rfl ?_
  intro w1 ho1 hb1 hs1
  refine gr_v (ev_as rfl) ?_
  refine gr_nil ?_
  refine gk_seq ?_
  refine gk_cutf (ι := Nat × Mem × MV) (fun i => [(1, ptr w.heap.size), (3, ptr i.1)]) (fun i w' => OI M1 w w.heap.size i.1 d x w' i.2.1 i.2.2 ∧ ObjR i.2.1 (toMD0 d) i.2.2) ?_ ?_
  · intro Q0 k0
    have hB0 : Builds M1 w w1.drew M1 := ((Builds.refl hM).step ho1).step (Old.same rfl)
    have hb1c : w1.heap[w.heap.size]? = some (.cells (cells52 d x) 52 (0, 0)) := hb1
    refine gk_draw (fun w' => w'.heap[w.heap.size]? = some (.cells (cells52 d x) 52 (0, 0))) (by kernel_rfl) ?_
    have hS := hb1c
    refine ga_norm2 (listed' := (bl 88 0)) (fuel' := 88) (by kernel_rfl) (by kernel_rfl) ?_
    refine ga_ns [(some 17, [1], []), (some 18, [17], [0]), (some 19, [1], []), (some 20, [19], [2]), (some 21, [1], []), (some 22, [21], [4]), (some 23, [1], []), (some 24, [23], [6]), (some 25, [24], [7]), (some 26, [1], []), (some 27, [26], [9]), (some 28, [1], []), (some 29, [28], [11]), (some 30, [29], [12, 8]), (some 31, [1], []), (some 32, [31], [14]), (some 33, [32], [15, 13]), (some 34, [1], []), (some 35, [34], [17]), (some 36, [35], [18, 16]), (some 37, [1], []), (some 38, [37], [20]), (some 39, [1], []), (some 40, [39], [22]), (some 41, [1], []), (some 42, [41], [24]), (some 43, [1], []), (some 44, [43], [26]), (some 45, [1], []), (some 46, [45], [28]), (some 47, [1], []), (some 48, [47], [30]), (some 49, [1], []), (some 50, [49], [32]), (some 51, [1], []), (some 52, [51], [34]), (some 53, [1], []), (some 54, [53], [36]), (some 55, [1], []), (some 56, [55], [38]), (some 57, [56], [39, 19]), (some 58, [1], []), (some 59, [58], [41]), (some 60, [59], [42, 40]), (some 61, [1], []), (some 62, [61], [44]), (some 63, [62], [45, 43]), (some 64, [1], []), (some 65, [64], [47]), (some 66, [65], [48, 46]), (some 67, [1], []), (some 68, [67], [50]), (some 69, [68], [51, 49]), (some 70, [1], []), (some 71, [70], [53]), (some 72, [71], [54, 52]), (some 73, [1], []), (some 74, [73], [56]), (some 75, [74], [57, 55]), (some 76, [1], []), (some 77, [76], [59]), (some 78, [77], [60, 58]), (some 79, [1], []), (some 80, [79], [62]), (some 81, [80], [63, 61]), (some 82, [1], []), (some 83, [82], [65]), (some 84, [1], []), (some 85, [84], [67]), (some 86, [85], [68, 64]), (some 87, [1], []), (some 88, [87], [70]), (some 89, [88], [71, 69]), (some 90, [1], []), (some 91, [90], [73]), (some 92, [1], []), (some 93, [92], [75]), (some 94, [93], [76, 72]), (some 95, [1], []), (some 96, [95], [78]), (some 97, [1], []), (some 98, [97], [80]), (some 99, [98], [81, 77]), (some 100, [1], []), (some 101, [100], [83]), (some 102, [18, 20, 22, 25, 27, 30, 33, 36, 38, 40, 42, 44, 46, 48, 50, 52, 54, 57, 60, 63, 66, 69, 72, 75, 78, 81, 83, 86, 89, 91, 94, 96, 99, 101], [1, 3, 5, 8, 10, 13, 16, 19, 21, 23, 25, 27, 29, 31, 33, 35, 37, 40, 43, 46, 49, 52, 55, 58, 61, 64, 66, 69, 72, 74, 77, 79, 82, 84]), (some 103, [102], [85]), (some 3, [103], [86, 82, 0, 1, 2, 3, 4, 5, 6, 7, 8, 9, 10, 11, 12, 13, 14, 15, 16, 17, 18, 19, 20, 21, 22, 23, 24, 25, 26, 27, 28, 29, 30, 31, 32, 33, 34, 35, 36, 37, 38, 39, 40, 41, 42, 43, 44, 45, 46, 47, 48, 49, 50, 51, 52, 53, 54, 55, 56, 57, 58, 59, 60, 61, 62, 63, 64, 65, 66, 67, 68, 69, 70, 71, 72, 73, 74, 75, 76, 77, 78, 79, 80, 81, 82, 83, 84, 85, 86])] (by kernel_rfl) (by kernel_rfl) fun hns hsm => ?_
    refine ga_takef 0 (bl 88 1) hns hsm rfl (by kernel_rfl) (by kernel_rfl) (fun _ _ => (ev_fa (j := 1) rfl Tryz.runUnderlying52 rfl Tryz.sizeOf23 rfl rfl)) hS ?_
    refine ga_takef 1 (bl 88 3) hns hsm rfl (by kernel_rfl) (by kernel_rfl) (fun _ hs => ev_ld rfl Tryz.isAgg23 hs (by rfl)) hS ?_
    refine ga_takef 2 (bl 88 7) hns hsm rfl (by kernel_rfl) (by kernel_rfl) (fun _ _ => (ev_fa (j := 2) rfl Tryz.runUnderlying52 rfl Tryz.sizeOf23 rfl rfl)) hS ?_
    refine ga_takef 3 (bl 88 15) hns hsm rfl (by kernel_rfl) (by kernel_rfl) (fun _ hs => ev_ld rfl Tryz.isAgg23 hs (by rfl)) hS ?_
    refine ga_takef 4 (bl 88 31) hns hsm rfl (by kernel_rfl) (by kernel_rfl) (fun _ _ => (ev_fa (j := 3) rfl Tryz.runUnderlying52 rfl Tryz.sizeOf9 rfl rfl)) hS ?_
    refine ga_takef 5 (bl 88 63) hns hsm rfl (by kernel_rfl) (by kernel_rfl) (fun _ hs => ev_ld rfl Tryz.isAgg9 hs (by rfl)) hS ?_
    refine ga_takef 6 (bl 88 127) hns hsm rfl (by kernel_rfl) (by kernel_rfl) (fun _ _ => (ev_fa (j := 4) rfl Tryz.runUnderlying52 rfl Tryz.sizeOf9 rfl rfl)) hS ?_
    refine ga_takef 7 (bl 88 255) hns hsm rfl (by kernel_rfl) (by kernel_rfl) (fun _ hs => ev_ld rfl Tryz.isAgg9 hs (by rfl)) hS ?_
    refine ga_takef 9 (bl 88 767) hns hsm rfl (by kernel_rfl) (by kernel_rfl) (fun _ _ => (ev_fa (j := 5) rfl Tryz.runUnderlying52 rfl Tryz.sizeOf5 rfl rfl)) hS ?_
    refine ga_takef 10 (bl 88 1791) hns hsm rfl (by kernel_rfl) (by kernel_rfl) (fun _ hs => ev_ld rfl Tryz.isAgg5 hs (by rfl)) hS ?_
    refine ga_takef 11 (bl 88 3839) hns hsm rfl (by kernel_rfl) (by kernel_rfl) (fun _ _ => (ev_fa (j := 9) rfl Tryz.runUnderlying52 rfl Tryz.sizeOf48 rfl rfl)) hS ?_
    refine ga_takef 12 (bl 88 7935) hns hsm rfl (by kernel_rfl) (by kernel_rfl) (fun _ hs => ev_ld rfl Tryz.isAgg48 hs (by rfl)) hS ?_
    refine ga_takef 14 (bl 88 24319) hns hsm rfl (by kernel_rfl) (by kernel_rfl) (fun _ _ => (ev_fa (j := 10) rfl Tryz.runUnderlying52 rfl Tryz.sizeOf28 rfl rfl)) hS ?_
    refine ga_takef 15 (bl 88 57087) hns hsm rfl (by kernel_rfl) (by kernel_rfl) (fun _ hs => ev_ld rfl Tryz.isAgg28 hs (by rfl)) hS ?_
    refine ga_takef 17 (bl 88 188159) hns hsm rfl (by kernel_rfl) (by kernel_rfl) (fun _ _ => (ev_fa (j := 13) rfl Tryz.runUnderlying52 rfl Tryz.sizeOf9 rfl rfl)) hS ?_
    refine ga_takef 18 (bl 88 450303) hns hsm rfl (by kernel_rfl) (by kernel_rfl) (fun _ hs => ev_ld rfl Tryz.isAgg9 hs (by rfl)) hS ?_
    refine ga_takef 20 (bl 88 1498879) hns hsm rfl (by kernel_rfl) (by kernel_rfl) (fun _ _ => (ev_fa (j := 15) rfl Tryz.runUnderlying52 rfl Tryz.sizeOf4 rfl rfl)) hS ?_
    refine ga_takef 21 (bl 88 3596031) hns hsm rfl (by kernel_rfl) (by kernel_rfl) (fun _ hs => ev_ld rfl Tryz.isAgg4 hs (by rfl)) hS ?_
    refine ga_takef 22 (bl 88 7790335) hns hsm rfl (by kernel_rfl) (by kernel_rfl) (fun _ _ => (ev_fa (j := 16) rfl Tryz.runUnderlying52 rfl Tryz.sizeOf21 rfl rfl)) hS ?_
    refine ga_takef 23 (bl 88 16178943) hns hsm rfl (by kernel_rfl) (by kernel_rfl) (fun _ hs => ev_ld rfl Tryz.isAgg21 hs (by rfl)) hS ?_
    refine ga_takef 24 (bl 88 32956159) hns hsm rfl (by kernel_rfl) (by kernel_rfl) (fun _ _ => (ev_fa (j := 17) rfl Tryz.runUnderlying52 rfl Tryz.sizeOf30 rfl rfl)) hS ?_
    refine ga_takef 25 (bl 88 66510591) hns hsm rfl (by kernel_rfl) (by kernel_rfl) (fun _ hs => ev_ld rfl Tryz.isAgg30 hs (by rfl)) hS ?_
    refine ga_takef 26 (bl 88 133619455) hns hsm rfl (by kernel_rfl) (by kernel_rfl) (fun _ _ => (ev_fa (j := 18) rfl Tryz.runUnderlying52 rfl Tryz.sizeOf2 rfl rfl)) hS ?_
    refine ga_takef 27 (bl 88 267837183) hns hsm rfl (by kernel_rfl) (by kernel_rfl) (fun _ hs => ev_ld rfl Tryz.isAgg2 hs (by rfl)) hS ?_
    refine ga_takef 28 (bl 88 536272639) hns hsm rfl (by kernel_rfl) (by kernel_rfl) (fun _ _ => (ev_fa (j := 19) rfl Tryz.runUnderlying52 rfl Tryz.sizeOf31 rfl rfl)) hS ?_
    refine ga_takef 29 (bl 88 1073143551) hns hsm rfl (by kernel_rfl) (by kernel_rfl) (fun _ hs => ev_ld rfl Tryz.isAgg31 hs (by rfl)) hS ?_
    refine ga_takef 30 (bl 88 2146885375) hns hsm rfl (by kernel_rfl) (by kernel_rfl) (fun _ _ => (ev_fa (j := 20) rfl Tryz.runUnderlying52 rfl Tryz.sizeOf21 rfl rfl)) hS ?_
    refine ga_takef 31 (bl 88 4294369023) hns hsm rfl (by kernel_rfl) (by kernel_rfl) (fun _ hs => ev_ld rfl Tryz.isAgg21 hs (by rfl)) hS ?_
    refine ga_takef 32 (bl 88 8589336319) hns hsm rfl (by kernel_rfl) (by kernel_rfl) (fun _ _ => (ev_fa (j := 21) rfl Tryz.runUnderlying52 rfl Tryz.sizeOf30 rfl rfl)) hS ?_
    refine ga_takef 33 (bl 88 17179270911) hns hsm rfl (by kernel_rfl) (by kernel_rfl) (fun _ hs => ev_ld rfl Tryz.isAgg30 hs (by rfl)) hS ?_
    refine ga_takef 34 (bl 88 34359140095) hns hsm rfl (by kernel_rfl) (by kernel_rfl) (fun _ _ => (ev_fa (j := 22) rfl Tryz.runUnderlying52 rfl Tryz.sizeOf2 rfl rfl)) hS ?_
    refine ga_takef 35 (bl 88 68718878463) hns hsm rfl (by kernel_rfl) (by kernel_rfl) (fun _ hs => ev_ld rfl Tryz.isAgg2 hs (by rfl)) hS ?_
    refine ga_takef 36 (bl 88 137438355199) hns hsm rfl (by kernel_rfl) (by kernel_rfl) (fun _ _ => (ev_fa (j := 23) rfl Tryz.runUnderlying52 rfl Tryz.sizeOf31 rfl rfl)) hS ?_
    refine ga_takef 37 (bl 88 274877308671) hns hsm rfl (by kernel_rfl) (by kernel_rfl) (fun _ hs => ev_ld rfl Tryz.isAgg31 hs (by rfl)) hS ?_
    refine ga_takef 38 (bl 88 549755215615) hns hsm rfl (by kernel_rfl) (by kernel_rfl) (fun _ _ => (ev_fa (j := 24) rfl Tryz.runUnderlying52 rfl Tryz.sizeOf32 rfl rfl)) hS ?_
    refine ga_takef 39 (bl 88 1099511029503) hns hsm rfl (by kernel_rfl) (by kernel_rfl) (fun _ hs => ev_ld rfl Tryz.isAgg32 hs (by rfl)) hS ?_
    refine ga_takef 41 (bl 88 3298534285055) hns hsm rfl (by kernel_rfl) (by kernel_rfl) (fun _ _ => (ev_fa (j := 25) rfl Tryz.runUnderlying52 rfl Tryz.sizeOf30 rfl rfl)) hS ?_
    refine ga_takef 42 (bl 88 7696580796159) hns hsm rfl (by kernel_rfl) (by kernel_rfl) (fun _ hs => ev_ld rfl Tryz.isAgg30 hs (by rfl)) hS ?_
    refine ga_takef 44 (bl 88 25288766840575) hns hsm rfl (by kernel_rfl) (by kernel_rfl) (fun _ _ => (ev_fa (j := 26) rfl Tryz.runUnderlying52 rfl Tryz.sizeOf30 rfl rfl)) hS ?_
    refine ga_takef 45 (bl 88 60473138929407) hns hsm rfl (by kernel_rfl) (by kernel_rfl) (fun _ hs => ev_ld rfl Tryz.isAgg30 hs (by rfl)) hS ?_
    refine ga_takef 47 (bl 88 201210627284735) hns hsm rfl (by kernel_rfl) (by kernel_rfl) (fun _ _ => (ev_fa (j := 27) rfl Tryz.runUnderlying52 rfl Tryz.sizeOf30 rfl rfl)) hS ?_
    refine ga_takef 48 (bl 88 482685603995391) hns hsm rfl (by kernel_rfl) (by kernel_rfl) (fun _ hs => ev_ld rfl Tryz.isAgg30 hs (by rfl)) hS ?_
    refine ga_takef 50 (bl 88 1608585510838015) hns hsm rfl (by kernel_rfl) (by kernel_rfl) (fun _ _ => (ev_fa (j := 28) rfl Tryz.runUnderlying52 rfl Tryz.sizeOf28 rfl rfl)) hS ?_
    refine ga_takef 51 (bl 88 3860385324523263) hns hsm rfl (by kernel_rfl) (by kernel_rfl) (fun _ hs => ev_ld rfl Tryz.isAgg28 hs (by rfl)) hS ?_
    refine ga_takef 53 (bl 88 12867584579264255) hns hsm rfl (by kernel_rfl) (by kernel_rfl) (fun _ _ => (ev_fa (j := 30) rfl Tryz.runUnderlying52 rfl Tryz.sizeOf9 rfl rfl)) hS ?_
    refine ga_takef 54 (bl 88 30881983088746239) hns hsm rfl (by kernel_rfl) (by kernel_rfl) (fun _ hs => ev_ld rfl Tryz.isAgg9 hs (by rfl)) hS ?_
    refine ga_takef 56 (bl 88 102939577126674175) hns hsm rfl (by kernel_rfl) (by kernel_rfl) (fun _ _ => (ev_fa (j := 31) rfl Tryz.runUnderlying52 rfl Tryz.sizeOf48 rfl rfl)) hS ?_
    refine ga_takef 57 (bl 88 247054765202530047) hns hsm rfl (by kernel_rfl) (by kernel_rfl) (fun _ hs => ev_ld rfl Tryz.isAgg48 hs (by rfl)) hS ?_
    refine ga_takef 59 (bl 88 823515517505953535) hns hsm rfl (by kernel_rfl) (by kernel_rfl) (fun _ _ => (ev_fa (j := 32) rfl Tryz.runUnderlying52 rfl Tryz.sizeOf34 rfl rfl)) hS ?_
    refine ga_takef 60 (bl 88 1976437022112800511) hns hsm rfl (by kernel_rfl) (by kernel_rfl) (fun _ hs => ev_ld rfl Tryz.isAgg34 hs (by rfl)) hS ?_
    refine ga_takef 62 (bl 88 6588123040540188415) hns hsm rfl (by kernel_rfl) (by kernel_rfl) (fun _ _ => (ev_fa (j := 35) rfl Tryz.runUnderlying52 rfl Tryz.sizeOf35 rfl rfl)) hS ?_
    refine ga_takef 63 (bl 88 15811495077394964223) hns hsm rfl (by kernel_rfl) (by kernel_rfl) (fun _ hs => ev_ld rfl Tryz.isAgg35 hs (by rfl)) hS ?_
    refine ga_takef 65 (bl 88 52704983224814067455) hns hsm rfl (by kernel_rfl) (by kernel_rfl) (fun _ _ => (ev_fa (j := 36) rfl Tryz.runUnderlying52 rfl Tryz.sizeOf31 rfl rfl)) hS ?_
    refine ga_takef 66 (bl 88 126491959519652273919) hns hsm rfl (by kernel_rfl) (by kernel_rfl) (fun _ hs => ev_ld rfl Tryz.isAgg31 hs (by rfl)) hS ?_
    refine ga_takef 67 (bl 88 274065912109328686847) hns hsm rfl (by kernel_rfl) (by kernel_rfl) (fun _ _ => (ev_fa (j := 37) rfl Tryz.runUnderlying52 rfl Tryz.sizeOf35 rfl rfl)) hS ?_
    refine ga_takef 68 (bl 88 569213817288681512703) hns hsm rfl (by kernel_rfl) (by kernel_rfl) (fun _ hs => ev_ld rfl Tryz.isAgg35 hs (by rfl)) hS ?_
    refine ga_takef 70 (bl 88 1749805438006092816127) hns hsm rfl (by kernel_rfl) (by kernel_rfl) (fun _ _ => (ev_fa (j := 38) rfl Tryz.runUnderlying52 rfl Tryz.sizeOf35 rfl rfl)) hS ?_
    refine ga_takef 71 (bl 88 4110988679440915422975) hns hsm rfl (by kernel_rfl) (by kernel_rfl) (fun _ hs => ev_ld rfl Tryz.isAgg35 hs (by rfl)) hS ?_
    refine ga_takef 73 (bl 88 13555721645180205850367) hns hsm rfl (by kernel_rfl) (by kernel_rfl) (fun _ _ => (ev_fa (j := 39) rfl Tryz.runUnderlying52 rfl Tryz.sizeOf31 rfl rfl)) hS ?_
    refine ga_takef 74 (bl 88 32445187576658786705151) hns hsm rfl (by kernel_rfl) (by kernel_rfl) (fun _ hs => ev_ld rfl Tryz.isAgg31 hs (by rfl)) hS ?_
    refine ga_takef 75 (bl 88 70224119439615948414719) hns hsm rfl (by kernel_rfl) (by kernel_rfl) (fun _ _ => (ev_fa (j := 40) rfl Tryz.runUnderlying52 rfl Tryz.sizeOf35 rfl rfl)) hS ?_
    refine ga_takef 76 (bl 88 145781983165530271833855) hns hsm rfl (by kernel_rfl) (by kernel_rfl) (fun _ hs => ev_ld rfl Tryz.isAgg35 hs (by rfl)) hS ?_
    refine ga_takef 78 (bl 88 448013438069187565510399) hns hsm rfl (by kernel_rfl) (by kernel_rfl) (fun _ _ => (ev_fa (j := 41) rfl Tryz.runUnderlying52 rfl Tryz.sizeOf31 rfl rfl)) hS ?_
    refine ga_takef 79 (bl 88 1052476347876502152863487) hns hsm rfl (by kernel_rfl) (by kernel_rfl) (fun _ hs => ev_ld rfl Tryz.isAgg31 hs (by rfl)) hS ?_
    refine ga_takef 80 (bl 88 2261402167491131327569663) hns hsm rfl (by kernel_rfl) (by kernel_rfl) (fun _ _ => (ev_fa (j := 42) rfl Tryz.runUnderlying52 rfl Tryz.sizeOf35 rfl rfl)) hS ?_
    refine ga_takef 81 (bl 88 4679253806720389676982015) hns hsm rfl (by kernel_rfl) (by kernel_rfl) (fun _ hs => ev_ld rfl Tryz.isAgg35 hs (by rfl)) hS ?_
    refine ga_takef 83 (bl 88 14350660363637423074631423) hns hsm rfl (by kernel_rfl) (by kernel_rfl) (fun _ _ => (ev_fa (j := 50) rfl Tryz.runUnderlying52 rfl Tryz.sizeOf36 rfl rfl)) hS ?_
    refine ga_takef 84 (bl 88 33693473477471489869930239) hns hsm rfl (by kernel_rfl) (by kernel_rfl) (fun _ hs => ev_ld rfl Tryz.isAgg36 hs (by rfl)) hS ?_
    refine ga_call 8 rfl (by kernel_rfl) (ec_func Tryz.call47 rfl) (b47 d.inv hB0.has) ?_
    rintro v1 wq1 ⟨Mq1, hb1q, hf1⟩
    refine ⟨hb1q.old _ _ hS, fun hS => ?_⟩
    have hB1 := hB0.trans hb1q
    obtain ⟨a1, n1, c1, rfl⟩ := hf1.isS
    refine ga_norm (listed' := (bl 88 33693473477471489869930495)) (by kernel_rfl) ?_
    refine ga_call 13 rfl (by kernel_rfl) (ec_func Tryz.call48 rfl) (b48 (h.test4.sub (hs.trans hB1.sub) fun _ _ k => k) hB1.has (Nat.le_trans hc.test4 (by decide))) ?_
    rintro v2 wq2 ⟨Mq2, hb2q, hf2⟩
    refine ⟨hb2q.old _ _ hS, fun hS => ?_⟩
    have hB2 := hB1.trans hb2q
    obtain ⟨a2, n2, c2, rfl⟩ := hf2.isS
    refine ga_norm (listed' := (bl 88 33693473477471489869938687)) (by kernel_rfl) ?_
    refine ga_call 16 rfl (by kernel_rfl) (ec_func Tryz.call49 rfl) (i49 (h.strs.sub (hs.trans hB2.sub) fun _ _ k => k) _) ?_
    rintro v3 _ ⟨hf3, rfl⟩
    refine ⟨hS, fun hS => ?_⟩
    obtain ⟨a3, n3, c3, rfl⟩ := hf3.isS
    refine ga_norm (listed' := (bl 88 33693473477471489870004223)) (by kernel_rfl) ?_
    refine ga_call 19 rfl (by kernel_rfl) (ec_func Tryz.call47 rfl) (b47 d.nest hB2.has) ?_
    rintro v4 wq4 ⟨Mq4, hb4q, hf4⟩
    refine ⟨hb4q.old _ _ hS, fun hS => ?_⟩
    have hB4 := hB2.trans hb4q
    obtain ⟨a4, n4, c4, rfl⟩ := hf4.isS
    refine ga_norm (listed' := (bl 88 33693473477471489870528511)) (by kernel_rfl) ?_
    refine ga_call 40 rfl (by kernel_rfl) (ec_func Tryz.call50 rfl) (i50 (h.bools.sub (hs.trans hB4.sub) fun _ _ k => k) _) ?_
    rintro v5 _ ⟨hf5, rfl⟩
    refine ⟨hS, fun hS => ?_⟩
    obtain ⟨a5, n5, c5, rfl⟩ := hf5.isS
    refine ga_norm (listed' := (bl 88 33693473477472589382156287)) (by kernel_rfl) ?_
    refine ga_takef 43 (bl 88 33693473477481385475178495) hns hsm rfl (by kernel_rfl) (by kernel_rfl) (fun _ _ => (ev_ext rfl (x51 _ _))) hS ?_
    refine ga_takef 46 (bl 88 33693473477551754219356159) hns hsm rfl (by kernel_rfl) (by kernel_rfl) (fun _ _ => (ev_ext rfl (x51 _ _))) hS ?_
    refine ga_takef 49 (bl 88 33693473478114704172777471) hns hsm rfl (by kernel_rfl) (by kernel_rfl) (fun _ _ => (ev_ext rfl (x51 _ _))) hS ?_
    refine ga_call 52 rfl (by kernel_rfl) (ec_func Tryz.call49 rfl) (i49 (h.strs2.sub (hs.trans hB4.sub) fun _ _ k => k) _) ?_
    rintro v6 _ ⟨hf6, rfl⟩
    refine ⟨hS, fun hS => ?_⟩
    obtain ⟨a6, n6, c6, rfl⟩ := hf6.isS
    refine ga_norm (listed' := (bl 88 33693473482618303800147967)) (by kernel_rfl) ?_
    refine ga_call 55 rfl (by kernel_rfl) (ec_func Tryz.call47 rfl) (b47 d.flex hB4.has) ?_
    rintro v7 wq7 ⟨Mq7, hb7q, hf7⟩
    refine ⟨hb7q.old _ _ hS, fun hS => ?_⟩
    have hB7 := hB4.trans hb7q
    obtain ⟨a7, n7, c7, rfl⟩ := hf7.isS
    refine ga_norm (listed' := (bl 88 33693473518647100819111935)) (by kernel_rfl) ?_
    refine ga_call 58 rfl (by kernel_rfl) (ec_func Tryz.call48 rfl) (b48 (h.test5.sub (hs.trans hB7.sub) fun _ _ k => k) hB7.has (Nat.le_trans hc.test5 (by decide))) ?_
    rintro v8 wq8 ⟨Mq8, hb8q, hf8⟩
    refine ⟨hb8q.old _ _ hS, fun hS => ?_⟩
    have hB8 := hB7.trans hb8q
    obtain ⟨a8, n8, c8, rfl⟩ := hf8.isS
    refine ga_norm (listed' := (bl 88 33693473806877476970823679)) (by kernel_rfl) ?_
    refine ga_call 61 rfl (by kernel_rfl) (ec_func Tryz.call52 rfl) (i52 (h.longs.sub (hs.trans hB8.sub) fun _ _ k => k) _) ?_
    rintro v9 _ ⟨hf9, rfl⟩
    refine ⟨hS, fun hS => ?_⟩
    obtain ⟨a9, n9, c9, rfl⟩ := hf9.isS
    refine ga_norm (listed' := (bl 88 33693476112720486184517631)) (by kernel_rfl) ?_
    refine ga_call 64 rfl (by kernel_rfl) (ec_func Tryz.call53 rfl) (b53 (h.refs.sub (hs.trans hB8.sub) fun _ _ k => k) hB8.has (Nat.le_trans hc.refs (by decide))) ?_
    rintro v10 wq10 ⟨Mq10, hb10q, hf10⟩
    refine ⟨hb10q.old _ _ hS, fun hS => ?_⟩
    have hB10 := hB8.trans hb10q
    obtain ⟨a10, n10, c10, rfl⟩ := hf10.isS
    refine ga_norm (listed' := (bl 88 33693494559464559894069247)) (by kernel_rfl) ?_
    refine ga_call 69 rfl (by kernel_rfl) (ec_func Tryz.call54 rfl) (i54 (h.weak.sub (hs.trans hB10.sub) fun _ _ k => k) _) ?_
    rintro v11 _ ⟨hf11, rfl⟩
    refine ⟨hS, fun hS => ?_⟩
    obtain ⟨a11, n11, c11, rfl⟩ := hf11.isS
    refine ga_norm (listed' := (bl 88 33694084855274918599720959)) (by kernel_rfl) ?_
    refine ga_call 72 rfl (by kernel_rfl) (ec_func Tryz.call53 rfl) (b53 (h.strong.sub (hs.trans hB10.sub) fun _ _ k => k) hB10.has (Nat.le_trans hc.strong (by decide))) ?_
    rintro v12 wq12 ⟨Mq12, hb12q, hf12⟩
    refine ⟨hb12q.old _ _ hS, fun hS => ?_⟩
    have hB12 := hB10.trans hb12q
    obtain ⟨a12, n12, c12, rfl⟩ := hf12.isS
    refine ga_norm (listed' := (bl 88 33698807221757788244934655)) (by kernel_rfl) ?_
    refine ga_call 77 rfl (by kernel_rfl) (ec_func Tryz.call54 rfl) (i54 (h.coown.sub (hs.trans hB12.sub) fun _ _ k => k) _) ?_
    rintro v13 _ ⟨hf13, rfl⟩
    refine ⟨hS, fun hS => ?_⟩
    obtain ⟨a13, n13, c13, rfl⟩ := hf13.isS
    refine ga_norm (listed' := (bl 88 33849922949209616891772927)) (by kernel_rfl) ?_
    refine ga_call 82 rfl (by kernel_rfl) (ec_func Tryz.call54 rfl) (i54 (h.nonown.sub (hs.trans hB12.sub) fun _ _ k => k) _) ?_
    rintro v14 _ ⟨hf14, rfl⟩
    refine ⟨hS, fun hS => ?_⟩
    obtain ⟨a14, n14, c14, rfl⟩ := hf14.isS
    refine ga_norm (listed' := (bl 88 38685626227668133590597631)) (by kernel_rfl) ?_
    refine ga_takef 85 (bl 88 77371252455336267181195263) hns hsm rfl (by kernel_rfl) (by kernel_rfl) (fun _ _ => (ev_build (cs := cells131 (toMD d) ({ pos := .pointer none, inv := .slice a1 n1 c1, test := .pointer none, test4 := .slice a2 n2 c2, strs := .slice a3 n3 c3, tables := .slice none 0 0, enemy := .pointer none, nest := .slice a4 n4 c4, stat := .pointer none, bools := .slice a5 n5 c5, strs2 := .slice a6 n6 c6, abil := .slice none 0 0, flex := .slice a7 n7 c7, test5 := .slice a8 n8 c8, longs := .slice a9 n9 c9, doubles := .slice none 0 0, parent := .pointer none, refs := .slice a10 n10 c10, weak := .slice a11 n11 c11, strong := .slice a12 n12 c12, coown := .slice a13 n13 c13, nonown := .slice a14 n14 c14, anyU := .pointer none, anyA := .pointer none, enums := .slice none 0 0 } : MV)) rfl (by kernel_rfl))) hS ?_
    refine ga_box 86 rfl (by kernel_rfl) rfl (fun _ ho => ho _ _ hS) ?_
    intro w3 ho3 hb3 hs3
    replace hS := ho3 _ _ hS
    refine ga_norm (listed' := (bl 88 154742504910672534362390527)) (by kernel_rfl) ?_
    refine ga_takef 87 (bl 88 309485009821345068724781055) hns hsm rfl (by kernel_rfl) (by kernel_rfl) (fun _ _ => (ev_as rfl)) hS ?_
    refine ga_nil (by kernel_rfl) ?_
    have hsl : Sub Mq12 Mq12 := Sub.refl
    have hs_Mq10 : Sub Mq10 Mq12 := hb12q.sub.trans hsl
    have hs_Mq8 : Sub Mq8 Mq12 := hb10q.sub.trans hs_Mq10
    have hs_Mq7 : Sub Mq7 Mq12 := hb8q.sub.trans hs_Mq8
    have hs_Mq4 : Sub Mq4 Mq12 := hb7q.sub.trans hs_Mq7
    have hs_Mq2 : Sub Mq2 Mq12 := hb4q.sub.trans hs_Mq4
    have hs_Mq1 : Sub Mq1 Mq12 := hb2q.sub.trans hs_Mq2
    have hs_M1 : Sub M1 Mq12 := hb1q.sub.trans hs_Mq1
    refine gk_fin fun a ha => ?_
    have hO : ObjR Mq12 (toMD0 d) ({ pos := .pointer none, inv := .slice a1 n1 c1, test := .pointer none, test4 := .slice a2 n2 c2, strs := .slice a3 n3 c3, tables := .slice none 0 0, enemy := .pointer none, nest := .slice a4 n4 c4, stat := .pointer none, bools := .slice a5 n5 c5, strs2 := .slice a6 n6 c6, abil := .slice none 0 0, flex := .slice a7 n7 c7, test5 := .slice a8 n8 c8, longs := .slice a9 n9 c9, doubles := .slice none 0 0, parent := .pointer none, refs := .slice a10 n10 c10, weak := .slice a11 n11 c11, strong := .slice a12 n12 c12, coown := .slice a13 n13 c13, nonown := .slice a14 n14 c14, anyU := .pointer none, anyA := .pointer none, enums := .slice none 0 0 } : MV) := { pos := n90, inv := hf1.sub hs_Mq1 fun _ _ k => k, test := ⟨n60, .inl ⟨rfl, rfl⟩⟩, test4 := hf2.sub hs_Mq2 fun _ _ k => k.old hs_Mq2, strs := hf3.sub hs_Mq2 fun _ _ k => k, tables := .inl ⟨rfl, rfl⟩, enemy := n18, nest := hf4.sub hs_Mq4 fun _ _ k => k, stat := n66, bools := hf5.sub hs_Mq4 fun _ _ k => k, strs2 := hf6.sub hs_Mq4 fun _ _ k => k, abil := .inl ⟨rfl, rfl⟩, flex := hf7.sub hs_Mq7 fun _ _ k => k, test5 := hf8.sub hs_Mq8 fun _ _ k => k.old hs_Mq8, longs := hf9.sub hs_Mq8 fun _ _ k => k, doubles := .inl ⟨rfl, rfl⟩, parent := n77, refs := hf10.sub hs_Mq10 fun _ _ k => k.old hs_Mq10, weak := hf11.sub hs_Mq10 fun _ _ k => k, strong := hf12.sub hsl fun _ _ k => k.old hsl, coown := hf13.sub hsl fun _ _ k => k, nonown := hf14.sub hsl fun _ _ k => k, anyU := ⟨n85, .inl ⟨rfl, rfl⟩⟩, anyA := ⟨n86, .inl ⟨rfl, rfl⟩⟩, enums := .inl ⟨rfl, rfl⟩ }
    exact ⟨(wq12.heap.size, Mq12, _), ha.keep ⟨rfl, rfl, trivial⟩, ⟨hB12.step ho3, hS, hb3, hB12.has.none (Nat.le_refl _), hB12.old.size⟩, hO⟩
  rintro ⟨B3, Mk, X⟩ wk ⟨hI, hO⟩
  simp only at hI hO
  exact s17_0 h hc hs hI hO
end Go.Proofs.YtjaplgfgkigmiaaGreat