/-
  choiceClean, from what MonsterClean does at one depth less.
-/
import Derived.Test.YtjaplgfgkigmiaaGreatZf
namespace Go.Proofs.YtjaplgfgkigmiaaGreat
open Go Go.Proofs

/-- What a call leaves: a bool; all but the counter's block; if it is true, what is said of it. -/
def Said (lb : Nat) (w : World) (L : Nat) (P : Nat → Prop) (v : Value) (w' : World) : Prop :=
  ∃ b, v = .bool b ∧ KeepL lb w w' ∧ (b = true → ∃ L', L' ≤ L ∧ w'.heap[lb]? = some (.cells #[.int .i64 (L' : Nat)] 3 (0, 0)) ∧ P (L - L'))
def CleanAt (n : Nat) : Prop := ∀ (M : Mem) (cs : Array Value) (L : Nat) (w : World) (lb : Nat), MonR n M cs → Has M w → M lb = none → w.heap[lb]? = some (.cells #[.int .i64 (L : Nat)] 3 (0, 0)) → L ≤ 20 → n ≤ 10 →
  CR Tryz.prog 11 #[.agg cs, ptr lb, .int .i64 ((n : Int) - 1)] w (Said lb w L fun k => ∃ pk, SpecOK M cs pk ∧ TotV pk (130000 * k))
theorem u8_le {k : UInt8} {m : Nat} (h : decide ((k.toNat : Int) > (m : Nat)) = false) : k.toNat ≤ m := by
  have := of_decide_eq_false h; omega
theorem u8_cases3 {k : UInt8} (h : k.toNat ≤ 3) : k = 0 ∨ k = 1 ∨ k = 2 ∨ k = 3 := by
  have : k.toNat = 0 ∨ k.toNat = 1 ∨ k.toNat = 2 ∨ k.toNat = 3 := by omega
  rcases this with h | h | h | h
  · exact .inl (UInt8.toNat_inj.1 h)
  · exact .inr (.inl (UInt8.toNat_inj.1 h))
  · exact .inr (.inr (.inl (UInt8.toNat_inj.1 h)))
  · exact .inr (.inr (.inr (UInt8.toNat_inj.1 h)))
theorem eqIn_bool {P : Program} {t : TypeId} {a b : Bool} (hT : ∀ w, (underlying t).run P w = .ok .bool w) (w : World) : (Op.equal t (.bool a) (.bool b)).run P w = .ok (a == b) w := by
  unfold Op.equal
  rw [show Op.maxDepth = 9999 + 1 from rfl, Op.equalIn]
  simp [hT]
theorem ev_neqb {P : Program} {l : Slots} {w : World} {T t u : TypeId} {x y : Operand} {a b : Bool} (hx : ev l x = some (.bool a)) (hy : ev l y = some (.bool b)) (hT : ∀ w, (underlying t).run P w = .ok .bool w) :
    EV P l (.binOp .neq t x y u) T w (.bool (!(a == b))) w := ev_of <| fun ρ o ho _ hρ => by
  simp only [execOp, ho, hρ _ _ hx, hρ _ _ hy, eqGuard, binOp, Sem.run_bind, eqIn_bool hT, Result.andThen_ok, Sem.run_pure]
  simp
theorem len_one {m : Nat} (h : ((m : Int) == 1) = true) : m = 1 := by have := beq_iff_eq.1 h; omega
theorem len_none {α : Type} {l : List α} (h : decide ((l.length : Int) > 1) = false) (h1 : ((l.length : Int) == 1) = false) : l = [] := by
  have a := of_decide_eq_false h
  have b : ¬ (l.length : Int) = 1 := fun e => by rw [e] at h1; cases h1
  exact List.length_eq_zero_iff.1 (by omega)
theorem cc_nil {M : Mem} {v : Value} {l : List PK} {R : Array Value → PK → Prop} (hv : rowM 51 M v l R) (h : l = []) (c : Nat) : l.length ≤ 1 ∧ rowM 51 M v l (SpecOK M) ∧ TotL l c := by
  subst h
  exact ⟨Nat.zero_le _, hv.re rfl fun i hi => absurd hi (by simp), trivial⟩
theorem ccU_none {M : Mem} {v : Value} {subs : List PK} {R : Array Value → PK → Prop} {k col : UInt8} {c : Nat} (hv : rowM 51 M v subs R) (h16 : decide ((subs.length : Int) > 1) = false) (h2 : k.toNat ≤ 2) (h32 : ((k.toNat : Int) == 1) = false) (h43 : ((subs.length : Int) == 1) = false) :
    subs.length ≤ 1 ∧ rowM 51 M v subs (SpecOK M) ∧ wfU ⟨k, subs, col⟩ ∧ TotL subs c := by
  obtain ⟨h3, h4, h5⟩ := cc_nil hv (len_none h16 h43) c
  have b : ¬ (k.toNat : Int) = 1 := fun e => by rw [e] at h32; cases h32
  refine ⟨h3, h4, ?_, h5⟩
  rcases u8_cases3 (k := k) (by omega) with h | h | h | h
  · exact .inl h
  · exact absurd (by rw [h]; rfl) b
  · exact .inr (.inr h)
  · rw [h] at h2; exact absurd h2 (by decide)
theorem ccA_none {M : Mem} {v : Value} {subs : List PK} {R : Array Value → PK → Prop} {k col : UInt8} {c : Nat} (hv : rowM 51 M v subs R) (h16 : decide ((subs.length : Int) > 1) = false) (h38 : decide ((k.toNat : Int) > 0) = false) (h43 : ((subs.length : Int) == 1) = false) :
    subs.length ≤ 1 ∧ rowM 51 M v subs (SpecOK M) ∧ wfA ⟨k, subs, col⟩ ∧ TotL subs c := by
  obtain ⟨h3, h4, h5⟩ := cc_nil hv (len_none h16 h43) c
  have b := of_decide_eq_false h38
  refine ⟨h3, h4, .inl (UInt8.toNat_inj.1 (by show k.toNat = 0; omega)), h5⟩
theorem ccwf_U {k col : UInt8} {pk : PK} (h : ((k.toNat : Int) == 1) = true) : wfU ⟨k, [pk], col⟩ := by
  have := beq_iff_eq.1 h
  exact .inr (.inl ⟨UInt8.toNat_inj.1 (by show k.toNat = 1; omega), pk, rfl⟩)
theorem ccwf_A {k col : UInt8} {pk : PK} (h3 : k.toNat ≤ 3) (h : ((k.toNat : Int) == 1) = true ∨ decide ((k.toNat : Int) > 0) = true) : wfA ⟨k, [pk], col⟩ := by
  have h0 : 0 < k.toNat := by
    rcases h with h | h
    · have := beq_iff_eq.1 h; omega
    · have := of_decide_eq_true h; omega
  refine .inr ⟨?_, pk, rfl⟩
  rcases u8_cases3 h3 with e | e | e | e
  · rw [e] at h0; exact absurd h0 (by decide)
  · exact .inl e
  · exact .inr (.inl e)
  · exact .inr (.inr e)

theorem ccU {n : Nat} (ih : CleanAt n) {M : Mem} {k col : UInt8} {v : Value} {subs : List PK} {w : World} {lb L : Nat} (hv : rowM 51 M v subs (fun cs (_ : PK) => MonR n M cs)) (hM : Has M w) (hlb : M lb = none) (hL : w.heap[lb]? = some (.cells #[.int .i64 (L : Nat)] 3 (0, 0))) (hL20 : L ≤ 20) (hn : n ≤ 10) :
    CR Tryz.prog 38 #[.agg #[B k, v, B col], .bool false, ptr lb, .int .i64 (n : Nat)] w (Said lb w L fun c => ∃ subs' : List PK, subs'.length = subs.length ∧ subs'.length ≤ 1 ∧ rowM 51 M v subs' (SpecOK M) ∧ wfU ⟨k, subs', col⟩ ∧ TotL subs' (130000 * c)) := by
  obtain ⟨va, vc, hvs⟩ := hv.len
  have hlt := lt_of_heap hL
  refine cr_enter Tryz.func38 rfl Tryz.ntmps38 ?_
  refine gk_seq ?_
  refine gk_region ?_
  refine gr_box rfl ?_
  intro w1 ho1 hb1 hs1
  replace hL := ho1 _ _ hL
  refine gr_v (ev_as rfl) ?_
  refine gr_nil ?_
  refine gk_seq ?_
  refine gk_seq ?_
  refine gk_region ?_
  refine gr_v (ev_fa (j := 0) rfl Tryz.runUnderlying26 rfl Tryz.sizeOf5 rfl rfl) ?_
  refine gr_v (ev_ld rfl Tryz.isAgg5 (by first | exact hb1) (by rfl)) ?_
  refine gr_b (ev_gtr rfl rfl) (fun hd1_2 => ?_) (fun hd1_2 => ?_)
  · skip
    refine gr_v (ev_mv rfl) ?_
    refine gr_gs rfl rfl rfl ?_
    refine gr_gs rfl rfl rfl ?_
    refine gr_gs rfl rfl rfl ?_
    refine gr_gu rfl rfl ?_
    refine gr_gu rfl rfl ?_
    refine gr_gu rfl rfl ?_
    refine gr_gs rfl rfl rfl ?_
    refine gr_v (ev_pickT rfl rfl rfl) ?_
    refine gr_v (ev_mv rfl) ?_
    refine gr_gs rfl rfl rfl ?_
    refine gr_gs rfl rfl rfl ?_
    refine gr_gs rfl rfl rfl ?_
    refine gr_gs rfl rfl rfl ?_
    refine gr_v (ev_pickT rfl rfl rfl) ?_
    refine gr_nil ?_
    refine gk_true rfl rfl ?_
    refine gk_seq ?_
    refine gk_region ?_
    refine gr_v (ev_as rfl) ?_
    refine gr_nil ?_
    refine gk_ret1 Tryz.results38 rfl ?_
    first | exact ⟨_, rfl, false, rfl, KeepL.refl.old ho1, fun h => by cases h⟩ | exact ⟨_, rfl, false, rfl, (KeepL.refl.old ho1).trans hK2, fun h => by cases h⟩
  · skip
    refine gr_v (ev_mv rfl) ?_
    refine gr_gv rfl rfl rfl (ev_mv rfl) ?_
    refine gr_gv rfl rfl rfl (ev_not rfl) ?_
    refine gr_gv rfl rfl rfl (ev_mv rfl) ?_
    refine gr_gv rfl rfl rfl (ev_fa (j := 0) rfl Tryz.runUnderlying26 rfl Tryz.sizeOf5 rfl rfl) ?_
    refine gr_gv rfl rfl rfl (ev_ld rfl Tryz.isAgg5 (by first | exact hb1) (by rfl)) ?_
    refine gr_gb rfl rfl rfl (ev_gtr rfl rfl) (fun hd1_9 => ?_) (fun hd1_9 => ?_)
    · skip
      refine gr_gv rfl rfl rfl (ev_pickT rfl rfl rfl) ?_
      refine gr_v (ev_pickF rfl rfl rfl) ?_
      refine gr_v (ev_mv rfl) ?_
      refine gr_gs rfl rfl rfl ?_
      refine gr_gs rfl rfl rfl ?_
      refine gr_gs rfl rfl rfl ?_
      refine gr_gs rfl rfl rfl ?_
      refine gr_v (ev_pickT rfl rfl rfl) ?_
      refine gr_nil ?_
      refine gk_true rfl rfl ?_
      refine gk_seq ?_
      refine gk_region ?_
      refine gr_v (ev_as rfl) ?_
      refine gr_nil ?_
      refine gk_ret1 Tryz.results38 rfl ?_
      first | exact ⟨_, rfl, false, rfl, KeepL.refl.old ho1, fun h => by cases h⟩ | exact ⟨_, rfl, false, rfl, (KeepL.refl.old ho1).trans hK2, fun h => by cases h⟩
    · skip
      refine gr_gv rfl rfl rfl (ev_pickT rfl rfl rfl) ?_
      refine gr_v (ev_pickF rfl rfl rfl) ?_
      refine gr_v (ev_mv rfl) ?_
      refine gr_gv rfl rfl rfl (ev_fa (j := 1) rfl Tryz.runUnderlying26 rfl Tryz.sizeOf24 rfl rfl) ?_
      refine gr_gv rfl rfl rfl (ev_ld rfl Tryz.isAgg24 (by first | exact hb1) (by rfl)) ?_
      refine gr_gv rfl rfl rfl (ev_lenL hv.len rfl ⟨_, rfl, _, Tryz.runUnderlying24⟩) ?_
      refine gr_gb rfl rfl rfl (ev_gtr rfl rfl) (fun hd1_16 => ?_) (fun hd1_16 => ?_)
      · skip
        refine gr_v (ev_pickF rfl rfl rfl) ?_
        refine gr_nil ?_
        refine gk_true rfl rfl ?_
        refine gk_seq ?_
        refine gk_region ?_
        refine gr_v (ev_as rfl) ?_
        refine gr_nil ?_
        refine gk_ret1 Tryz.results38 rfl ?_
        first | exact ⟨_, rfl, false, rfl, KeepL.refl.old ho1, fun h => by cases h⟩ | exact ⟨_, rfl, false, rfl, (KeepL.refl.old ho1).trans hK2, fun h => by cases h⟩
      · skip
        refine gr_v (ev_pickF rfl rfl rfl) ?_
        refine gr_nil ?_
        refine gk_false rfl rfl ?_
        refine gk_skip ?_
        refine gk_seq ?_
        refine gk_region ?_
        refine gr_v (ev_fa (j := 0) rfl Tryz.runUnderlying26 rfl Tryz.sizeOf5 rfl rfl) ?_
        refine gr_v (ev_ld rfl Tryz.isAgg5 (by first | exact hb1) (by rfl)) ?_
        refine gr_b (ev_eql rfl rfl) (fun hd3_2 => ?_) (fun hd3_2 => ?_)
        · skip
          refine gr_v (ev_mv rfl) ?_
          refine gr_gs rfl rfl rfl ?_
          refine gr_gs rfl rfl rfl ?_
          refine gr_gu rfl rfl ?_
          refine gr_gu rfl rfl ?_
          refine gr_gu rfl rfl ?_
          refine gr_gs rfl rfl rfl ?_
          refine gr_v (ev_pickT rfl rfl rfl) ?_
          refine gr_v (ev_as rfl) ?_
          refine gr_nil ?_
          refine gk_seq ?_
          refine gk_seq ?_
          refine gk_region ?_
          refine gr_v (ev_fa (j := 1) rfl Tryz.runUnderlying26 rfl Tryz.sizeOf24 rfl rfl) ?_
          refine gr_v (ev_ld rfl Tryz.isAgg24 (by first | exact hb1) (by rfl)) ?_
          refine gr_v (ev_lenL hv.len rfl ⟨_, rfl, _, Tryz.runUnderlying24⟩) ?_
          refine gr_b (ev_eql rfl rfl) (fun hd4_3 => ?_) (fun hd4_3 => ?_)
          · skip
            refine gr_v (ev_mv rfl) ?_
            refine gr_v (ev_neqb rfl rfl Tryz.runUnderlying4) ?_
            refine gr_v (ev_mv rfl) ?_
            refine gr_gv rfl rfl rfl (ev_mv rfl) ?_
            refine gr_gv rfl rfl rfl (ev_mv rfl) ?_
            refine gr_gv rfl rfl rfl (ev_fa (j := 0) rfl Tryz.runUnderlying26 rfl Tryz.sizeOf5 rfl rfl) ?_
            refine gr_gv rfl rfl rfl (ev_ld rfl Tryz.isAgg5 (by first | exact hb1) (by rfl)) ?_
            refine gr_gb rfl rfl rfl (ev_neq rfl rfl) (fun hd4_11 => ?_) (fun hd4_11 => ?_)
            · skip
              refine gr_gv rfl rfl rfl (ev_pickF rfl rfl rfl) ?_
              refine gr_gv rfl rfl rfl (ev_mv rfl) ?_
              refine gr_gv rfl rfl rfl (ev_fa (j := 2) rfl Tryz.runUnderlying26 rfl Tryz.sizeOf5 rfl rfl) ?_
              refine gr_gv rfl rfl rfl (ev_ld rfl Tryz.isAgg5 (by first | exact hb1) (by rfl)) ?_
              refine gr_gb rfl rfl rfl (ev_neq rfl rfl) (fun hd4_16 => ?_) (fun hd4_16 => ?_)
              · skip
                refine gr_gv rfl rfl rfl (ev_pickT rfl rfl rfl) ?_
                refine gr_v (ev_pickF rfl rfl rfl) ?_
                refine gr_nil ?_
                refine gk_true rfl rfl ?_
                refine gk_seq ?_
                refine gk_region ?_
                refine gr_v (ev_as rfl) ?_
                refine gr_nil ?_
                refine gk_ret1 Tryz.results38 rfl ?_
                first | exact ⟨_, rfl, false, rfl, KeepL.refl.old ho1, fun h => by cases h⟩ | exact ⟨_, rfl, false, rfl, (KeepL.refl.old ho1).trans hK2, fun h => by cases h⟩
              · skip
                refine gr_gv rfl rfl rfl (ev_pickT rfl rfl rfl) ?_
                refine gr_v (ev_pickF rfl rfl rfl) ?_
                refine gr_nil ?_
                refine gk_false rfl rfl ?_
                refine gk_skip ?_
                refine gk_seq ?_
                refine gk_region ?_
                refine gr_v (ev_mv rfl) ?_
                refine gr_v (ev_not rfl) ?_
                refine gr_v (ev_mv rfl) ?_
                refine gr_gv rfl rfl rfl (ev_fa (j := 1) rfl Tryz.runUnderlying26 rfl Tryz.sizeOf24 rfl rfl) ?_
                refine gr_gv rfl rfl rfl (ev_ld rfl Tryz.isAgg24 (by first | exact hb1) (by rfl)) ?_
                have hl1 : subs.length = 1 := len_one hd4_3
                obtain ⟨b, o, c, cs, e, fz, hvv, hcs, hle, hel, he⟩ := hv.elt (i := 0) (by omega)
                refine gr_gv rfl rfl rfl (ev_ix (len := subs.length) (a' := o + 0 * 51) (by rw [← hvv]; rfl) rfl Tryz.runUnderlying24 Tryz.sizeOf38 (by omega) (by omega) (by omega)) ?_
                refine gr_gv rfl rfl rfl (show EV _ _ _ _ _ (.agg (elA 51 M v 0)) _ from hel ▸ ev_lda rfl Tryz.isAgg38 Tryz.sizeOf38 (ho1 _ _ (hM _ _ hcs)) (mul_lt_ext (by omega) hle)) ?_
                refine gr_gv rfl rfl rfl (ev_mv rfl) ?_
                refine gr_gv rfl rfl rfl (ev_mv rfl) ?_
                refine gr_gv rfl rfl rfl (ev_sub (r := (n : Int) - 1) rfl rfl (w_i64 (by omega) (by omega))) ?_
                refine gr_gcall rfl rfl rfl (ec_func Tryz.call11 rfl) (ih M _ L w1 lb he (fun b x h => ho1 _ _ (hM b x h)) hlb hL hL20 hn) ?_
                rintro _ w2 ⟨b2, rfl, hK2, h2⟩
                cases b2
                · skip
                  refine gr_v (ev_pickF rfl rfl rfl) ?_
                  refine gr_v (ev_as rfl) ?_
                  refine gr_nil ?_
                  refine gk_ret1 Tryz.results38 rfl ?_
                  first | exact ⟨_, rfl, false, rfl, KeepL.refl.old ho1, fun h => by cases h⟩ | exact ⟨_, rfl, false, rfl, (KeepL.refl.old ho1).trans hK2, fun h => by cases h⟩
                · skip
                  refine gr_v (ev_pickF rfl rfl rfl) ?_
                  refine gr_v (ev_as rfl) ?_
                  refine gr_nil ?_
                  refine gk_ret1 Tryz.results38 rfl ?_
                  obtain ⟨L', h3, h4, pk, h5, h6⟩ := h2 rfl
                  refine ⟨_, rfl, true, rfl, (KeepL.refl.old ho1).trans hK2, fun _ => ⟨L', h3, h4, [pk], by rw [hl1]; rfl, Nat.le_refl _, hv.re (by rw [hl1]; rfl) (fun i hi => ?_), ?_, ?_⟩⟩
                  · obtain rfl : i = 0 := by simp at hi; exact hi
                    exact h5
                  · exact ccwf_U (by assumption)
                  · exact ⟨_, 0, Nat.le_refl _, h6, trivial⟩
            · skip
              refine gr_gv rfl rfl rfl (ev_pickF rfl rfl rfl) ?_
              refine gr_gv rfl rfl rfl (ev_mv rfl) ?_
              refine gr_gs rfl rfl rfl ?_
              refine gr_gs rfl rfl rfl ?_
              refine gr_gs rfl rfl rfl ?_
              refine gr_gv rfl rfl rfl (ev_pickF rfl rfl rfl) ?_
              refine gr_v (ev_pickF rfl rfl rfl) ?_
              refine gr_nil ?_
              refine gk_false rfl rfl ?_
              refine gk_skip ?_
              refine gk_seq ?_
              refine gk_region ?_
              refine gr_v (ev_mv rfl) ?_
              refine gr_v (ev_not rfl) ?_
              refine gr_v (ev_mv rfl) ?_
              refine gr_gv rfl rfl rfl (ev_fa (j := 1) rfl Tryz.runUnderlying26 rfl Tryz.sizeOf24 rfl rfl) ?_
              refine gr_gv rfl rfl rfl (ev_ld rfl Tryz.isAgg24 (by first | exact hb1) (by rfl)) ?_
              have hl1 : subs.length = 1 := len_one hd4_3
              obtain ⟨b, o, c, cs, e, fz, hvv, hcs, hle, hel, he⟩ := hv.elt (i := 0) (by omega)
              refine gr_gv rfl rfl rfl (ev_ix (len := subs.length) (a' := o + 0 * 51) (by rw [← hvv]; rfl) rfl Tryz.runUnderlying24 Tryz.sizeOf38 (by omega) (by omega) (by omega)) ?_
              refine gr_gv rfl rfl rfl (show EV _ _ _ _ _ (.agg (elA 51 M v 0)) _ from hel ▸ ev_lda rfl Tryz.isAgg38 Tryz.sizeOf38 (ho1 _ _ (hM _ _ hcs)) (mul_lt_ext (by omega) hle)) ?_
              refine gr_gv rfl rfl rfl (ev_mv rfl) ?_
              refine gr_gv rfl rfl rfl (ev_mv rfl) ?_
              refine gr_gv rfl rfl rfl (ev_sub (r := (n : Int) - 1) rfl rfl (w_i64 (by omega) (by omega))) ?_
              refine gr_gcall rfl rfl rfl (ec_func Tryz.call11 rfl) (ih M _ L w1 lb he (fun b x h => ho1 _ _ (hM b x h)) hlb hL hL20 hn) ?_
              rintro _ w2 ⟨b2, rfl, hK2, h2⟩
              cases b2
              · skip
                refine gr_v (ev_pickF rfl rfl rfl) ?_
                refine gr_v (ev_as rfl) ?_
                refine gr_nil ?_
                refine gk_ret1 Tryz.results38 rfl ?_
                first | exact ⟨_, rfl, false, rfl, KeepL.refl.old ho1, fun h => by cases h⟩ | exact ⟨_, rfl, false, rfl, (KeepL.refl.old ho1).trans hK2, fun h => by cases h⟩
              · skip
                refine gr_v (ev_pickF rfl rfl rfl) ?_
                refine gr_v (ev_as rfl) ?_
                refine gr_nil ?_
                refine gk_ret1 Tryz.results38 rfl ?_
                obtain ⟨L', h3, h4, pk, h5, h6⟩ := h2 rfl
                refine ⟨_, rfl, true, rfl, (KeepL.refl.old ho1).trans hK2, fun _ => ⟨L', h3, h4, [pk], by rw [hl1]; rfl, Nat.le_refl _, hv.re (by rw [hl1]; rfl) (fun i hi => ?_), ?_, ?_⟩⟩
                · obtain rfl : i = 0 := by simp at hi; exact hi
                  exact h5
                · exact ccwf_U (by assumption)
                · exact ⟨_, 0, Nat.le_refl _, h6, trivial⟩
          · skip
            refine gr_v (ev_mv rfl) ?_
            refine gr_v (ev_neqb rfl rfl Tryz.runUnderlying4) ?_
            refine gr_v (ev_mv rfl) ?_
            refine gr_gs rfl rfl rfl ?_
            refine gr_gs rfl rfl rfl ?_
            refine gr_gu rfl rfl ?_
            refine gr_gu rfl rfl ?_
            refine gr_gu rfl rfl ?_
            refine gr_gs rfl rfl rfl ?_
            refine gr_gs rfl rfl rfl ?_
            refine gr_gu rfl rfl ?_
            refine gr_gu rfl rfl ?_
            refine gr_gu rfl rfl ?_
            refine gr_gs rfl rfl rfl ?_
            refine gr_v (ev_pickT rfl rfl rfl) ?_
            refine gr_nil ?_
            refine gk_true rfl rfl ?_
            refine gk_seq ?_
            refine gk_region ?_
            refine gr_v (ev_as rfl) ?_
            refine gr_nil ?_
            refine gk_ret1 Tryz.results38 rfl ?_
            first | exact ⟨_, rfl, false, rfl, KeepL.refl.old ho1, fun h => by cases h⟩ | exact ⟨_, rfl, false, rfl, (KeepL.refl.old ho1).trans hK2, fun h => by cases h⟩
        · skip
          refine gr_v (ev_mv rfl) ?_
          refine gr_gv rfl rfl rfl (ev_mv rfl) ?_
          refine gr_gv rfl rfl rfl (ev_mv rfl) ?_
          refine gr_gs rfl rfl rfl ?_
          refine gr_gs rfl rfl rfl ?_
          refine gr_gs rfl rfl rfl ?_
          refine gr_gv rfl rfl rfl (ev_pickF rfl rfl rfl) ?_
          refine gr_v (ev_pickF rfl rfl rfl) ?_
          refine gr_v (ev_as rfl) ?_
          refine gr_nil ?_
          refine gk_seq ?_
          refine gk_seq ?_
          refine gk_region ?_
          refine gr_v (ev_fa (j := 1) rfl Tryz.runUnderlying26 rfl Tryz.sizeOf24 rfl rfl) ?_
          refine gr_v (ev_ld rfl Tryz.isAgg24 (by first | exact hb1) (by rfl)) ?_
          refine gr_v (ev_lenL hv.len rfl ⟨_, rfl, _, Tryz.runUnderlying24⟩) ?_
          refine gr_b (ev_eql rfl rfl) (fun hd4_3 => ?_) (fun hd4_3 => ?_)
          · skip
            refine gr_v (ev_mv rfl) ?_
            refine gr_v (ev_neqb rfl rfl Tryz.runUnderlying4) ?_
            refine gr_v (ev_mv rfl) ?_
            refine gr_gs rfl rfl rfl ?_
            refine gr_gs rfl rfl rfl ?_
            refine gr_gu rfl rfl ?_
            refine gr_gu rfl rfl ?_
            refine gr_gu rfl rfl ?_
            refine gr_gs rfl rfl rfl ?_
            refine gr_gs rfl rfl rfl ?_
            refine gr_gu rfl rfl ?_
            refine gr_gu rfl rfl ?_
            refine gr_gu rfl rfl ?_
            refine gr_gs rfl rfl rfl ?_
            refine gr_v (ev_pickT rfl rfl rfl) ?_
            refine gr_nil ?_
            refine gk_true rfl rfl ?_
            refine gk_seq ?_
            refine gk_region ?_
            refine gr_v (ev_as rfl) ?_
            refine gr_nil ?_
            refine gk_ret1 Tryz.results38 rfl ?_
            first | exact ⟨_, rfl, false, rfl, KeepL.refl.old ho1, fun h => by cases h⟩ | exact ⟨_, rfl, false, rfl, (KeepL.refl.old ho1).trans hK2, fun h => by cases h⟩
          · skip
            refine gr_v (ev_mv rfl) ?_
            refine gr_v (ev_neqb rfl rfl Tryz.runUnderlying4) ?_
            refine gr_v (ev_mv rfl) ?_
            refine gr_gv rfl rfl rfl (ev_mv rfl) ?_
            refine gr_gv rfl rfl rfl (ev_mv rfl) ?_
            refine gr_gv rfl rfl rfl (ev_fa (j := 0) rfl Tryz.runUnderlying26 rfl Tryz.sizeOf5 rfl rfl) ?_
            refine gr_gv rfl rfl rfl (ev_ld rfl Tryz.isAgg5 (by first | exact hb1) (by rfl)) ?_
            refine gr_gb rfl rfl rfl (ev_neq rfl rfl) (fun hd4_11 => ?_) (fun hd4_11 => ?_)
            · skip
              refine gr_gv rfl rfl rfl (ev_pickF rfl rfl rfl) ?_
              refine gr_gv rfl rfl rfl (ev_mv rfl) ?_
              refine gr_gv rfl rfl rfl (ev_fa (j := 2) rfl Tryz.runUnderlying26 rfl Tryz.sizeOf5 rfl rfl) ?_
              refine gr_gv rfl rfl rfl (ev_ld rfl Tryz.isAgg5 (by first | exact hb1) (by rfl)) ?_
              refine gr_gb rfl rfl rfl (ev_neq rfl rfl) (fun hd4_16 => ?_) (fun hd4_16 => ?_)
              · skip
                refine gr_gv rfl rfl rfl (ev_pickT rfl rfl rfl) ?_
                refine gr_v (ev_pickF rfl rfl rfl) ?_
                refine gr_nil ?_
                refine gk_true rfl rfl ?_
                refine gk_seq ?_
                refine gk_region ?_
                refine gr_v (ev_as rfl) ?_
                refine gr_nil ?_
                refine gk_ret1 Tryz.results38 rfl ?_
                first | exact ⟨_, rfl, false, rfl, KeepL.refl.old ho1, fun h => by cases h⟩ | exact ⟨_, rfl, false, rfl, (KeepL.refl.old ho1).trans hK2, fun h => by cases h⟩
              · skip
                refine gr_gv rfl rfl rfl (ev_pickT rfl rfl rfl) ?_
                refine gr_v (ev_pickF rfl rfl rfl) ?_
                refine gr_nil ?_
                refine gk_false rfl rfl ?_
                refine gk_skip ?_
                refine gk_seq ?_
                refine gk_region ?_
                refine gr_v (ev_mv rfl) ?_
                refine gr_v (ev_not rfl) ?_
                refine gr_v (ev_mv rfl) ?_
                refine gr_gs rfl rfl rfl ?_
                refine gr_gs rfl rfl rfl ?_
                refine gr_gs rfl rfl rfl ?_
                refine gr_gs rfl rfl rfl ?_
                refine gr_gs rfl rfl rfl ?_
                refine gr_gs rfl rfl rfl ?_
                refine gr_gs rfl rfl rfl ?_
                refine gr_gs rfl rfl rfl ?_
                refine gr_v (ev_pickT rfl rfl rfl) ?_
                refine gr_v (ev_as rfl) ?_
                refine gr_nil ?_
                refine gk_ret1 Tryz.results38 rfl ?_
                refine ⟨_, rfl, true, rfl, KeepL.refl.old ho1, fun _ => ⟨L, Nat.le_refl _, hL, subs, rfl, ?_⟩⟩
                exact ccU_none hv (by assumption) (u8_le hd1_9) (by assumption) (by assumption)
            · skip
              refine gr_gv rfl rfl rfl (ev_pickF rfl rfl rfl) ?_
              refine gr_gv rfl rfl rfl (ev_mv rfl) ?_
              refine gr_gs rfl rfl rfl ?_
              refine gr_gs rfl rfl rfl ?_
              refine gr_gs rfl rfl rfl ?_
              refine gr_gv rfl rfl rfl (ev_pickF rfl rfl rfl) ?_
              refine gr_v (ev_pickF rfl rfl rfl) ?_
              refine gr_nil ?_
              refine gk_false rfl rfl ?_
              refine gk_skip ?_
              refine gk_seq ?_
              refine gk_region ?_
              refine gr_v (ev_mv rfl) ?_
              refine gr_v (ev_not rfl) ?_
              refine gr_v (ev_mv rfl) ?_
              refine gr_gs rfl rfl rfl ?_
              refine gr_gs rfl rfl rfl ?_
              refine gr_gs rfl rfl rfl ?_
              refine gr_gs rfl rfl rfl ?_
              refine gr_gs rfl rfl rfl ?_
              refine gr_gs rfl rfl rfl ?_
              refine gr_gs rfl rfl rfl ?_
              refine gr_gs rfl rfl rfl ?_
              refine gr_v (ev_pickT rfl rfl rfl) ?_
              refine gr_v (ev_as rfl) ?_
              refine gr_nil ?_
              refine gk_ret1 Tryz.results38 rfl ?_
              refine ⟨_, rfl, true, rfl, KeepL.refl.old ho1, fun _ => ⟨L, Nat.le_refl _, hL, subs, rfl, ?_⟩⟩
              exact ccU_none hv (by assumption) (u8_le hd1_9) (by assumption) (by assumption)

theorem ccA {n : Nat} (ih : CleanAt n) {M : Mem} {k col : UInt8} {v : Value} {subs : List PK} {w : World} {lb L : Nat} (hv : rowM 51 M v subs (fun cs (_ : PK) => MonR n M cs)) (hM : Has M w) (hlb : M lb = none) (hL : w.heap[lb]? = some (.cells #[.int .i64 (L : Nat)] 3 (0, 0))) (hL20 : L ≤ 20) (hn : n ≤ 10) :
    CR Tryz.prog 38 #[.agg #[B k, v, B col], .bool true, ptr lb, .int .i64 (n : Nat)] w (Said lb w L fun c => ∃ subs' : List PK, subs'.length = subs.length ∧ subs'.length ≤ 1 ∧ rowM 51 M v subs' (SpecOK M) ∧ wfA ⟨k, subs', col⟩ ∧ TotL subs' (130000 * c)) := by
  obtain ⟨va, vc, hvs⟩ := hv.len
  have hlt := lt_of_heap hL
  refine cr_enter Tryz.func38 rfl Tryz.ntmps38 ?_
  refine gk_seq ?_
  refine gk_region ?_
  refine gr_box rfl ?_
  intro w1 ho1 hb1 hs1
  replace hL := ho1 _ _ hL
  refine gr_v (ev_as rfl) ?_
  refine gr_nil ?_
  refine gk_seq ?_
  refine gk_seq ?_
  refine gk_region ?_
  refine gr_v (ev_fa (j := 0) rfl Tryz.runUnderlying26 rfl Tryz.sizeOf5 rfl rfl) ?_
  refine gr_v (ev_ld rfl Tryz.isAgg5 (by first | exact hb1) (by rfl)) ?_
  refine gr_b (ev_gtr rfl rfl) (fun hd1_2 => ?_) (fun hd1_2 => ?_)
  · skip
    refine gr_v (ev_mv rfl) ?_
    refine gr_gs rfl rfl rfl ?_
    refine gr_gs rfl rfl rfl ?_
    refine gr_gs rfl rfl rfl ?_
    refine gr_gu rfl rfl ?_
    refine gr_gu rfl rfl ?_
    refine gr_gu rfl rfl ?_
    refine gr_gs rfl rfl rfl ?_
    refine gr_v (ev_pickT rfl rfl rfl) ?_
    refine gr_v (ev_mv rfl) ?_
    refine gr_gs rfl rfl rfl ?_
    refine gr_gs rfl rfl rfl ?_
    refine gr_gs rfl rfl rfl ?_
    refine gr_gs rfl rfl rfl ?_
    refine gr_v (ev_pickT rfl rfl rfl) ?_
    refine gr_nil ?_
    refine gk_true rfl rfl ?_
    refine gk_seq ?_
    refine gk_region ?_
    refine gr_v (ev_as rfl) ?_
    refine gr_nil ?_
    refine gk_ret1 Tryz.results38 rfl ?_
    first | exact ⟨_, rfl, false, rfl, KeepL.refl.old ho1, fun h => by cases h⟩ | exact ⟨_, rfl, false, rfl, (KeepL.refl.old ho1).trans hK2, fun h => by cases h⟩
  · skip
    refine gr_v (ev_mv rfl) ?_
    refine gr_gv rfl rfl rfl (ev_mv rfl) ?_
    refine gr_gv rfl rfl rfl (ev_not rfl) ?_
    refine gr_gv rfl rfl rfl (ev_mv rfl) ?_
    refine gr_gs rfl rfl rfl ?_
    refine gr_gs rfl rfl rfl ?_
    refine gr_gs rfl rfl rfl ?_
    refine gr_gv rfl rfl rfl (ev_pickF rfl rfl rfl) ?_
    refine gr_v (ev_pickF rfl rfl rfl) ?_
    refine gr_v (ev_mv rfl) ?_
    refine gr_gv rfl rfl rfl (ev_fa (j := 1) rfl Tryz.runUnderlying26 rfl Tryz.sizeOf24 rfl rfl) ?_
    refine gr_gv rfl rfl rfl (ev_ld rfl Tryz.isAgg24 (by first | exact hb1) (by rfl)) ?_
    refine gr_gv rfl rfl rfl (ev_lenL hv.len rfl ⟨_, rfl, _, Tryz.runUnderlying24⟩) ?_
    refine gr_gb rfl rfl rfl (ev_gtr rfl rfl) (fun hd1_16 => ?_) (fun hd1_16 => ?_)
    · skip
      refine gr_v (ev_pickF rfl rfl rfl) ?_
      refine gr_nil ?_
      refine gk_true rfl rfl ?_
      refine gk_seq ?_
      refine gk_region ?_
      refine gr_v (ev_as rfl) ?_
      refine gr_nil ?_
      refine gk_ret1 Tryz.results38 rfl ?_
      first | exact ⟨_, rfl, false, rfl, KeepL.refl.old ho1, fun h => by cases h⟩ | exact ⟨_, rfl, false, rfl, (KeepL.refl.old ho1).trans hK2, fun h => by cases h⟩
    · skip
      refine gr_v (ev_pickF rfl rfl rfl) ?_
      refine gr_nil ?_
      refine gk_false rfl rfl ?_
      refine gk_skip ?_
      refine gk_seq ?_
      refine gk_region ?_
      refine gr_v (ev_fa (j := 0) rfl Tryz.runUnderlying26 rfl Tryz.sizeOf5 rfl rfl) ?_
      refine gr_v (ev_ld rfl Tryz.isAgg5 (by first | exact hb1) (by rfl)) ?_
      refine gr_b (ev_eql rfl rfl) (fun hd3_2 => ?_) (fun hd3_2 => ?_)
      · skip
        refine gr_v (ev_mv rfl) ?_
        refine gr_gs rfl rfl rfl ?_
        refine gr_gs rfl rfl rfl ?_
        refine gr_gu rfl rfl ?_
        refine gr_gu rfl rfl ?_
        refine gr_gu rfl rfl ?_
        refine gr_gs rfl rfl rfl ?_
        refine gr_v (ev_pickT rfl rfl rfl) ?_
        refine gr_v (ev_as rfl) ?_
        refine gr_nil ?_
        refine gk_seq ?_
        refine gk_seq ?_
        refine gk_region ?_
        refine gr_v (ev_fa (j := 1) rfl Tryz.runUnderlying26 rfl Tryz.sizeOf24 rfl rfl) ?_
        refine gr_v (ev_ld rfl Tryz.isAgg24 (by first | exact hb1) (by rfl)) ?_
        refine gr_v (ev_lenL hv.len rfl ⟨_, rfl, _, Tryz.runUnderlying24⟩) ?_
        refine gr_b (ev_eql rfl rfl) (fun hd4_3 => ?_) (fun hd4_3 => ?_)
        · skip
          refine gr_v (ev_mv rfl) ?_
          refine gr_v (ev_neqb rfl rfl Tryz.runUnderlying4) ?_
          refine gr_v (ev_mv rfl) ?_
          refine gr_gv rfl rfl rfl (ev_mv rfl) ?_
          refine gr_gv rfl rfl rfl (ev_mv rfl) ?_
          refine gr_gs rfl rfl rfl ?_
          refine gr_gs rfl rfl rfl ?_
          refine gr_gs rfl rfl rfl ?_
          refine gr_gv rfl rfl rfl (ev_pickT rfl rfl rfl) ?_
          refine gr_gv rfl rfl rfl (ev_mv rfl) ?_
          refine gr_gv rfl rfl rfl (ev_fa (j := 2) rfl Tryz.runUnderlying26 rfl Tryz.sizeOf5 rfl rfl) ?_
          refine gr_gv rfl rfl rfl (ev_ld rfl Tryz.isAgg5 (by first | exact hb1) (by rfl)) ?_
          refine gr_gb rfl rfl rfl (ev_neq rfl rfl) (fun hd4_16 => ?_) (fun hd4_16 => ?_)
          · skip
            refine gr_gv rfl rfl rfl (ev_pickT rfl rfl rfl) ?_
            refine gr_v (ev_pickF rfl rfl rfl) ?_
            refine gr_nil ?_
            refine gk_true rfl rfl ?_
            refine gk_seq ?_
            refine gk_region ?_
            refine gr_v (ev_as rfl) ?_
            refine gr_nil ?_
            refine gk_ret1 Tryz.results38 rfl ?_
            first | exact ⟨_, rfl, false, rfl, KeepL.refl.old ho1, fun h => by cases h⟩ | exact ⟨_, rfl, false, rfl, (KeepL.refl.old ho1).trans hK2, fun h => by cases h⟩
          · skip
            refine gr_gv rfl rfl rfl (ev_pickT rfl rfl rfl) ?_
            refine gr_v (ev_pickF rfl rfl rfl) ?_
            refine gr_nil ?_
            refine gk_false rfl rfl ?_
            refine gk_skip ?_
            refine gk_seq ?_
            refine gk_region ?_
            refine gr_v (ev_mv rfl) ?_
            refine gr_v (ev_not rfl) ?_
            refine gr_v (ev_mv rfl) ?_
            refine gr_gv rfl rfl rfl (ev_fa (j := 1) rfl Tryz.runUnderlying26 rfl Tryz.sizeOf24 rfl rfl) ?_
            refine gr_gv rfl rfl rfl (ev_ld rfl Tryz.isAgg24 (by first | exact hb1) (by rfl)) ?_
            have hl1 : subs.length = 1 := len_one hd4_3
            obtain ⟨b, o, c, cs, e, fz, hvv, hcs, hle, hel, he⟩ := hv.elt (i := 0) (by omega)
            refine gr_gv rfl rfl rfl (ev_ix (len := subs.length) (a' := o + 0 * 51) (by rw [← hvv]; rfl) rfl Tryz.runUnderlying24 Tryz.sizeOf38 (by omega) (by omega) (by omega)) ?_
            refine gr_gv rfl rfl rfl (show EV _ _ _ _ _ (.agg (elA 51 M v 0)) _ from hel ▸ ev_lda rfl Tryz.isAgg38 Tryz.sizeOf38 (ho1 _ _ (hM _ _ hcs)) (mul_lt_ext (by omega) hle)) ?_
            refine gr_gv rfl rfl rfl (ev_mv rfl) ?_
            refine gr_gv rfl rfl rfl (ev_mv rfl) ?_
            refine gr_gv rfl rfl rfl (ev_sub (r := (n : Int) - 1) rfl rfl (w_i64 (by omega) (by omega))) ?_
            refine gr_gcall rfl rfl rfl (ec_func Tryz.call11 rfl) (ih M _ L w1 lb he (fun b x h => ho1 _ _ (hM b x h)) hlb hL hL20 hn) ?_
            rintro _ w2 ⟨b2, rfl, hK2, h2⟩
            cases b2
            · skip
              refine gr_v (ev_pickF rfl rfl rfl) ?_
              refine gr_v (ev_as rfl) ?_
              refine gr_nil ?_
              refine gk_ret1 Tryz.results38 rfl ?_
              first | exact ⟨_, rfl, false, rfl, KeepL.refl.old ho1, fun h => by cases h⟩ | exact ⟨_, rfl, false, rfl, (KeepL.refl.old ho1).trans hK2, fun h => by cases h⟩
            · skip
              refine gr_v (ev_pickF rfl rfl rfl) ?_
              refine gr_v (ev_as rfl) ?_
              refine gr_nil ?_
              refine gk_ret1 Tryz.results38 rfl ?_
              obtain ⟨L', h3, h4, pk, h5, h6⟩ := h2 rfl
              refine ⟨_, rfl, true, rfl, (KeepL.refl.old ho1).trans hK2, fun _ => ⟨L', h3, h4, [pk], by rw [hl1]; rfl, Nat.le_refl _, hv.re (by rw [hl1]; rfl) (fun i hi => ?_), ?_, ?_⟩⟩
              · obtain rfl : i = 0 := by simp at hi; exact hi
                exact h5
              · exact ccwf_A (u8_le hd1_2) (by first | exact .inl (by assumption) | exact .inr (by assumption))
              · exact ⟨_, 0, Nat.le_refl _, h6, trivial⟩
        · skip
          refine gr_v (ev_mv rfl) ?_
          refine gr_v (ev_neqb rfl rfl Tryz.runUnderlying4) ?_
          refine gr_v (ev_mv rfl) ?_
          refine gr_gs rfl rfl rfl ?_
          refine gr_gs rfl rfl rfl ?_
          refine gr_gu rfl rfl ?_
          refine gr_gu rfl rfl ?_
          refine gr_gu rfl rfl ?_
          refine gr_gs rfl rfl rfl ?_
          refine gr_gs rfl rfl rfl ?_
          refine gr_gu rfl rfl ?_
          refine gr_gu rfl rfl ?_
          refine gr_gu rfl rfl ?_
          refine gr_gs rfl rfl rfl ?_
          refine gr_v (ev_pickT rfl rfl rfl) ?_
          refine gr_nil ?_
          refine gk_true rfl rfl ?_
          refine gk_seq ?_
          refine gk_region ?_
          refine gr_v (ev_as rfl) ?_
          refine gr_nil ?_
          refine gk_ret1 Tryz.results38 rfl ?_
          first | exact ⟨_, rfl, false, rfl, KeepL.refl.old ho1, fun h => by cases h⟩ | exact ⟨_, rfl, false, rfl, (KeepL.refl.old ho1).trans hK2, fun h => by cases h⟩
      · skip
        refine gr_v (ev_mv rfl) ?_
        refine gr_gv rfl rfl rfl (ev_mv rfl) ?_
        refine gr_gv rfl rfl rfl (ev_mv rfl) ?_
        refine gr_gv rfl rfl rfl (ev_fa (j := 0) rfl Tryz.runUnderlying26 rfl Tryz.sizeOf5 rfl rfl) ?_
        refine gr_gv rfl rfl rfl (ev_ld rfl Tryz.isAgg5 (by first | exact hb1) (by rfl)) ?_
        refine gr_gb rfl rfl rfl (ev_gtr rfl rfl) (fun hd3_8 => ?_) (fun hd3_8 => ?_)
        · skip
          refine gr_gv rfl rfl rfl (ev_pickT rfl rfl rfl) ?_
          refine gr_v (ev_pickF rfl rfl rfl) ?_
          refine gr_v (ev_as rfl) ?_
          refine gr_nil ?_
          refine gk_seq ?_
          refine gk_seq ?_
          refine gk_region ?_
          refine gr_v (ev_fa (j := 1) rfl Tryz.runUnderlying26 rfl Tryz.sizeOf24 rfl rfl) ?_
          refine gr_v (ev_ld rfl Tryz.isAgg24 (by first | exact hb1) (by rfl)) ?_
          refine gr_v (ev_lenL hv.len rfl ⟨_, rfl, _, Tryz.runUnderlying24⟩) ?_
          refine gr_b (ev_eql rfl rfl) (fun hd4_3 => ?_) (fun hd4_3 => ?_)
          · skip
            refine gr_v (ev_mv rfl) ?_
            refine gr_v (ev_neqb rfl rfl Tryz.runUnderlying4) ?_
            refine gr_v (ev_mv rfl) ?_
            refine gr_gv rfl rfl rfl (ev_mv rfl) ?_
            refine gr_gv rfl rfl rfl (ev_mv rfl) ?_
            refine gr_gs rfl rfl rfl ?_
            refine gr_gs rfl rfl rfl ?_
            refine gr_gs rfl rfl rfl ?_
            refine gr_gv rfl rfl rfl (ev_pickT rfl rfl rfl) ?_
            refine gr_gv rfl rfl rfl (ev_mv rfl) ?_
            refine gr_gv rfl rfl rfl (ev_fa (j := 2) rfl Tryz.runUnderlying26 rfl Tryz.sizeOf5 rfl rfl) ?_
            refine gr_gv rfl rfl rfl (ev_ld rfl Tryz.isAgg5 (by first | exact hb1) (by rfl)) ?_
            refine gr_gb rfl rfl rfl (ev_neq rfl rfl) (fun hd4_16 => ?_) (fun hd4_16 => ?_)
            · skip
              refine gr_gv rfl rfl rfl (ev_pickT rfl rfl rfl) ?_
              refine gr_v (ev_pickF rfl rfl rfl) ?_
              refine gr_nil ?_
              refine gk_true rfl rfl ?_
              refine gk_seq ?_
              refine gk_region ?_
              refine gr_v (ev_as rfl) ?_
              refine gr_nil ?_
              refine gk_ret1 Tryz.results38 rfl ?_
              first | exact ⟨_, rfl, false, rfl, KeepL.refl.old ho1, fun h => by cases h⟩ | exact ⟨_, rfl, false, rfl, (KeepL.refl.old ho1).trans hK2, fun h => by cases h⟩
            · skip
              refine gr_gv rfl rfl rfl (ev_pickT rfl rfl rfl) ?_
              refine gr_v (ev_pickF rfl rfl rfl) ?_
              refine gr_nil ?_
              refine gk_false rfl rfl ?_
              refine gk_skip ?_
              refine gk_seq ?_
              refine gk_region ?_
              refine gr_v (ev_mv rfl) ?_
              refine gr_v (ev_not rfl) ?_
              refine gr_v (ev_mv rfl) ?_
              refine gr_gv rfl rfl rfl (ev_fa (j := 1) rfl Tryz.runUnderlying26 rfl Tryz.sizeOf24 rfl rfl) ?_
              refine gr_gv rfl rfl rfl (ev_ld rfl Tryz.isAgg24 (by first | exact hb1) (by rfl)) ?_
              have hl1 : subs.length = 1 := len_one hd4_3
              obtain ⟨b, o, c, cs, e, fz, hvv, hcs, hle, hel, he⟩ := hv.elt (i := 0) (by omega)
              refine gr_gv rfl rfl rfl (ev_ix (len := subs.length) (a' := o + 0 * 51) (by rw [← hvv]; rfl) rfl Tryz.runUnderlying24 Tryz.sizeOf38 (by omega) (by omega) (by omega)) ?_
              refine gr_gv rfl rfl rfl (show EV _ _ _ _ _ (.agg (elA 51 M v 0)) _ from hel ▸ ev_lda rfl Tryz.isAgg38 Tryz.sizeOf38 (ho1 _ _ (hM _ _ hcs)) (mul_lt_ext (by omega) hle)) ?_
              refine gr_gv rfl rfl rfl (ev_mv rfl) ?_
              refine gr_gv rfl rfl rfl (ev_mv rfl) ?_
              refine gr_gv rfl rfl rfl (ev_sub (r := (n : Int) - 1) rfl rfl (w_i64 (by omega) (by omega))) ?_
              refine gr_gcall rfl rfl rfl (ec_func Tryz.call11 rfl) (ih M _ L w1 lb he (fun b x h => ho1 _ _ (hM b x h)) hlb hL hL20 hn) ?_
              rintro _ w2 ⟨b2, rfl, hK2, h2⟩
              cases b2
              · skip
                refine gr_v (ev_pickF rfl rfl rfl) ?_
                refine gr_v (ev_as rfl) ?_
                refine gr_nil ?_
                refine gk_ret1 Tryz.results38 rfl ?_
                first | exact ⟨_, rfl, false, rfl, KeepL.refl.old ho1, fun h => by cases h⟩ | exact ⟨_, rfl, false, rfl, (KeepL.refl.old ho1).trans hK2, fun h => by cases h⟩
              · skip
                refine gr_v (ev_pickF rfl rfl rfl) ?_
                refine gr_v (ev_as rfl) ?_
                refine gr_nil ?_
                refine gk_ret1 Tryz.results38 rfl ?_
                obtain ⟨L', h3, h4, pk, h5, h6⟩ := h2 rfl
                refine ⟨_, rfl, true, rfl, (KeepL.refl.old ho1).trans hK2, fun _ => ⟨L', h3, h4, [pk], by rw [hl1]; rfl, Nat.le_refl _, hv.re (by rw [hl1]; rfl) (fun i hi => ?_), ?_, ?_⟩⟩
                · obtain rfl : i = 0 := by simp at hi; exact hi
                  exact h5
                · exact ccwf_A (u8_le hd1_2) (by first | exact .inl (by assumption) | exact .inr (by assumption))
                · exact ⟨_, 0, Nat.le_refl _, h6, trivial⟩
          · skip
            refine gr_v (ev_mv rfl) ?_
            refine gr_v (ev_neqb rfl rfl Tryz.runUnderlying4) ?_
            refine gr_v (ev_mv rfl) ?_
            refine gr_gs rfl rfl rfl ?_
            refine gr_gs rfl rfl rfl ?_
            refine gr_gu rfl rfl ?_
            refine gr_gu rfl rfl ?_
            refine gr_gu rfl rfl ?_
            refine gr_gs rfl rfl rfl ?_
            refine gr_gs rfl rfl rfl ?_
            refine gr_gu rfl rfl ?_
            refine gr_gu rfl rfl ?_
            refine gr_gu rfl rfl ?_
            refine gr_gs rfl rfl rfl ?_
            refine gr_v (ev_pickT rfl rfl rfl) ?_
            refine gr_nil ?_
            refine gk_true rfl rfl ?_
            refine gk_seq ?_
            refine gk_region ?_
            refine gr_v (ev_as rfl) ?_
            refine gr_nil ?_
            refine gk_ret1 Tryz.results38 rfl ?_
            first | exact ⟨_, rfl, false, rfl, KeepL.refl.old ho1, fun h => by cases h⟩ | exact ⟨_, rfl, false, rfl, (KeepL.refl.old ho1).trans hK2, fun h => by cases h⟩
        · skip
          refine gr_gv rfl rfl rfl (ev_pickT rfl rfl rfl) ?_
          refine gr_v (ev_pickF rfl rfl rfl) ?_
          refine gr_v (ev_as rfl) ?_
          refine gr_nil ?_
          refine gk_seq ?_
          refine gk_seq ?_
          refine gk_region ?_
          refine gr_v (ev_fa (j := 1) rfl Tryz.runUnderlying26 rfl Tryz.sizeOf24 rfl rfl) ?_
          refine gr_v (ev_ld rfl Tryz.isAgg24 (by first | exact hb1) (by rfl)) ?_
          refine gr_v (ev_lenL hv.len rfl ⟨_, rfl, _, Tryz.runUnderlying24⟩) ?_
          refine gr_b (ev_eql rfl rfl) (fun hd4_3 => ?_) (fun hd4_3 => ?_)
          · skip
            refine gr_v (ev_mv rfl) ?_
            refine gr_v (ev_neqb rfl rfl Tryz.runUnderlying4) ?_
            refine gr_v (ev_mv rfl) ?_
            refine gr_gs rfl rfl rfl ?_
            refine gr_gs rfl rfl rfl ?_
            refine gr_gu rfl rfl ?_
            refine gr_gu rfl rfl ?_
            refine gr_gu rfl rfl ?_
            refine gr_gs rfl rfl rfl ?_
            refine gr_gs rfl rfl rfl ?_
            refine gr_gu rfl rfl ?_
            refine gr_gu rfl rfl ?_
            refine gr_gu rfl rfl ?_
            refine gr_gs rfl rfl rfl ?_
            refine gr_v (ev_pickT rfl rfl rfl) ?_
            refine gr_nil ?_
            refine gk_true rfl rfl ?_
            refine gk_seq ?_
            refine gk_region ?_
            refine gr_v (ev_as rfl) ?_
            refine gr_nil ?_
            refine gk_ret1 Tryz.results38 rfl ?_
            first | exact ⟨_, rfl, false, rfl, KeepL.refl.old ho1, fun h => by cases h⟩ | exact ⟨_, rfl, false, rfl, (KeepL.refl.old ho1).trans hK2, fun h => by cases h⟩
          · skip
            refine gr_v (ev_mv rfl) ?_
            refine gr_v (ev_neqb rfl rfl Tryz.runUnderlying4) ?_
            refine gr_v (ev_mv rfl) ?_
            refine gr_gv rfl rfl rfl (ev_mv rfl) ?_
            refine gr_gv rfl rfl rfl (ev_mv rfl) ?_
            refine gr_gs rfl rfl rfl ?_
            refine gr_gs rfl rfl rfl ?_
            refine gr_gs rfl rfl rfl ?_
            refine gr_gv rfl rfl rfl (ev_pickT rfl rfl rfl) ?_
            refine gr_gv rfl rfl rfl (ev_mv rfl) ?_
            refine gr_gv rfl rfl rfl (ev_fa (j := 2) rfl Tryz.runUnderlying26 rfl Tryz.sizeOf5 rfl rfl) ?_
            refine gr_gv rfl rfl rfl (ev_ld rfl Tryz.isAgg5 (by first | exact hb1) (by rfl)) ?_
            refine gr_gb rfl rfl rfl (ev_neq rfl rfl) (fun hd4_16 => ?_) (fun hd4_16 => ?_)
            · skip
              refine gr_gv rfl rfl rfl (ev_pickT rfl rfl rfl) ?_
              refine gr_v (ev_pickF rfl rfl rfl) ?_
              refine gr_nil ?_
              refine gk_true rfl rfl ?_
              refine gk_seq ?_
              refine gk_region ?_
              refine gr_v (ev_as rfl) ?_
              refine gr_nil ?_
              refine gk_ret1 Tryz.results38 rfl ?_
              first | exact ⟨_, rfl, false, rfl, KeepL.refl.old ho1, fun h => by cases h⟩ | exact ⟨_, rfl, false, rfl, (KeepL.refl.old ho1).trans hK2, fun h => by cases h⟩
            · skip
              refine gr_gv rfl rfl rfl (ev_pickT rfl rfl rfl) ?_
              refine gr_v (ev_pickF rfl rfl rfl) ?_
              refine gr_nil ?_
              refine gk_false rfl rfl ?_
              refine gk_skip ?_
              refine gk_seq ?_
              refine gk_region ?_
              refine gr_v (ev_mv rfl) ?_
              refine gr_v (ev_not rfl) ?_
              refine gr_v (ev_mv rfl) ?_
              refine gr_gs rfl rfl rfl ?_
              refine gr_gs rfl rfl rfl ?_
              refine gr_gs rfl rfl rfl ?_
              refine gr_gs rfl rfl rfl ?_
              refine gr_gs rfl rfl rfl ?_
              refine gr_gs rfl rfl rfl ?_
              refine gr_gs rfl rfl rfl ?_
              refine gr_gs rfl rfl rfl ?_
              refine gr_v (ev_pickT rfl rfl rfl) ?_
              refine gr_v (ev_as rfl) ?_
              refine gr_nil ?_
              refine gk_ret1 Tryz.results38 rfl ?_
              refine ⟨_, rfl, true, rfl, KeepL.refl.old ho1, fun _ => ⟨L, Nat.le_refl _, hL, subs, rfl, ?_⟩⟩
              exact ccA_none hv (by assumption) (by assumption) (by assumption)

end Go.Proofs.YtjaplgfgkigmiaaGreat