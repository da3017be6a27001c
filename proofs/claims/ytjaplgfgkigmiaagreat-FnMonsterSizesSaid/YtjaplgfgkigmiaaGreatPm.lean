/-
  A monster packed: one level.
-/
import Derived.Test.YtjaplgfgkigmiaaGreatPd
namespace Go.Proofs.YtjaplgfgkigmiaaGreat
open Go Go.Proofs

theorem startVector_bd {es n al r : Nat} {S S' : St} (h : startVectorV es n al S = some (r, S')) : es * n ≤ 268435456 := by
  obtain ⟨S2, h1, _⟩ := map_some' h
  unfold startVector at h1
  split at h1
  · cases h1
  · obtain ⟨S1, h2, h3⟩ := bind_some h1
    have := prep_bd h2
    omega
theorem ev_unionneq {P : Program} {l : Slots} {w : World} {f : FuncId} {TT : TypeId} {M : Mem} {v : Value} {uu : Option UInt8 × PK} {t u e : TypeId} {x : Operand} {T : TypeId} (hr : unionR f TT M v uu) (hx : ev l x = some v) (hT : ∀ w, (underlying t).run P w = .ok (.pointer e) w) :
    EV P l (.binOp .neq t x (.const (.pointer none)) u) T w (.bool uu.1.isSome) w := by
  rcases hr.2 with ⟨h1, h2⟩ | ⟨p, k, y, fz, h1, h2, _⟩
  · rw [h1]; subst h2; exact ev_pointerneq hx rfl hT
  · rw [h1]; subst h2; exact ev_pointerneq hx rfl hT

def packM (m : MD) : PK :=
  withV (createString m.name.data.toList) fun r1 =>
  withV (bytesV m.inv) fun r2 =>
  withV (m.test.2) fun r3 =>
  withV (vecI 4 2 (fun ab => dropV (testPK ab)) m.test4) fun r4 =>
  withV (offV strPK m.strs) fun r5 =>
  withV (offV (fun p => p) m.tables) fun r6 =>
  withV (m.enemy) fun r7 =>
  withV (bytesV m.nest) fun r8 =>
  withV (m.stat) fun r9 =>
  withV (vecI 1 1 (fun b => prepend 1 [bb1 b]) m.bools) fun r10 =>
  withV (offV strPK m.strs2) fun r11 =>
  withV (vecI 8 4 (fun ab => dropV (abilPK ab)) m.abil) fun r12 =>
  withV (bytesV m.flex) fun r13 =>
  withV (vecI 4 2 (fun ab => dropV (testPK ab)) m.test5) fun r14 =>
  withV (vecI 8 8 (fun n => prepend 8 (le8 n)) m.longs) fun r15 =>
  withV (vecI 8 8 (fun n : Nat => prepend 8 (le8 n)) m.doubles) fun r16 =>
  withV (m.parent) fun r17 =>
  withV (offV packRef m.refs) fun r18 =>
  withV (vecI 8 8 (fun n => prepend 8 (le8 n)) m.weak) fun r19 =>
  withV (offV packRef m.strong) fun r20 =>
  withV (vecI 8 8 (fun n => prepend 8 (le8 n)) m.coown) fun r21 =>
  withV (vecI 8 8 (fun n => prepend 8 (le8 n)) m.nonown) fun r22 =>
  withV (m.anyU.2) fun r23 =>
  withV (m.anyA.2) fun r24 =>
  withV (vecI 1 1 (fun u => prepend 1 [u]) m.enums) fun r25 =>
  thn (startObject 49) <|
  withV (m.pos) fun r27 =>
  thn (structSlot 0 r27 0) <|
  thn (slotOp ((m.mana : Int) != 150) (prepend 2 (le2 m.mana)) 1) <|
  thn (slotOp ((m.hp : Int) != 100) (prepend 2 (le2 m.hp)) 2) <|
  thn (slotOp ((r1 : Int) != ((0 : Nat) : Int)) (prependU r1) 3) <|
  thn (slotOp ((r2 : Int) != ((0 : Nat) : Int)) (prependU r2) 5) <|
  thn (slotOp (((m.color : UInt8).toNat : Int) != ((8 : UInt8).toNat : Int)) (prepend 1 [m.color]) 6) <|
  thn (typeSlot 7 m.test.1) <|
  thn (slotOp ((r3 : Int) != ((0 : Nat) : Int)) (prependU r3) 8) <|
  thn (slotOp ((r4 : Int) != ((0 : Nat) : Int)) (prependU r4) 9) <|
  thn (slotOp ((r5 : Int) != ((0 : Nat) : Int)) (prependU r5) 10) <|
  thn (slotOp ((r6 : Int) != ((0 : Nat) : Int)) (prependU r6) 11) <|
  thn (slotOp ((r7 : Int) != ((0 : Nat) : Int)) (prependU r7) 12) <|
  thn (slotOp ((r8 : Int) != ((0 : Nat) : Int)) (prependU r8) 13) <|
  thn (slotOp ((r9 : Int) != ((0 : Nat) : Int)) (prependU r9) 14) <|
  thn (slotOp (((bb1 m.tbool).toNat : Int) != ((bb1 false).toNat : Int)) (prepend 1 [bb1 m.tbool]) 15) <|
  thn (slotOp ((m.s32 : Int) != 0) (prepend 4 (le4 m.s32)) 16) <|
  thn (slotOp ((m.u32 : Int) != 0) (prepend 4 (le4 m.u32)) 17) <|
  thn (slotOp ((m.s64 : Int) != 0) (prepend 8 (le8 m.s64)) 18) <|
  thn (slotOp ((m.u64 : Int) != 0) (prepend 8 (le8 m.u64)) 19) <|
  thn (slotOp ((m.s32a : Int) != 0) (prepend 4 (le4 m.s32a)) 20) <|
  thn (slotOp ((m.u32a : Int) != 0) (prepend 4 (le4 m.u32a)) 21) <|
  thn (slotOp ((m.s64a : Int) != 0) (prepend 8 (le8 m.s64a)) 22) <|
  thn (slotOp ((m.u64a : Int) != 0) (prepend 8 (le8 m.u64a)) 23) <|
  thn (slotOp ((r10 : Int) != ((0 : Nat) : Int)) (prependU r10) 24) <|
  thn (slotOp (fne .f32 m.f1 1078530000) (prepend 4 (le4 m.f1)) 25) <|
  thn (slotOp (fne .f32 m.f2 1077936128) (prepend 4 (le4 m.f2)) 26) <|
  thn (slotOp (fne .f32 m.f3 0) (prepend 4 (le4 m.f3)) 27) <|
  thn (slotOp ((r11 : Int) != ((0 : Nat) : Int)) (prependU r11) 28) <|
  thn (slotOp ((r12 : Int) != ((0 : Nat) : Int)) (prependU r12) 29) <|
  thn (slotOp ((r13 : Int) != ((0 : Nat) : Int)) (prependU r13) 30) <|
  thn (slotOp ((r14 : Int) != ((0 : Nat) : Int)) (prependU r14) 31) <|
  thn (slotOp ((r15 : Int) != ((0 : Nat) : Int)) (prependU r15) 32) <|
  thn (slotOp ((r16 : Int) != ((0 : Nat) : Int)) (prependU r16) 33) <|
  thn (slotOp ((r17 : Int) != ((0 : Nat) : Int)) (prependU r17) 34) <|
  thn (slotOp ((r18 : Int) != ((0 : Nat) : Int)) (prependU r18) 35) <|
  thn (slotOp ((m.single : Int) != 0) (prepend 8 (le8 m.single)) 36) <|
  thn (slotOp ((r19 : Int) != ((0 : Nat) : Int)) (prependU r19) 37) <|
  thn (slotOp ((r20 : Int) != ((0 : Nat) : Int)) (prependU r20) 38) <|
  thn (slotOp ((m.co : Int) != 0) (prepend 8 (le8 m.co)) 39) <|
  thn (slotOp ((r21 : Int) != ((0 : Nat) : Int)) (prependU r21) 40) <|
  thn (slotOp ((m.non : Int) != 0) (prepend 8 (le8 m.non)) 41) <|
  thn (slotOp ((r22 : Int) != ((0 : Nat) : Int)) (prependU r22) 42) <|
  thn (typeSlot 43 m.anyU.1) <|
  thn (slotOp ((r23 : Int) != ((0 : Nat) : Int)) (prependU r23) 44) <|
  thn (typeSlot 45 m.anyA.1) <|
  thn (slotOp ((r24 : Int) != ((0 : Nat) : Int)) (prependU r24) 46) <|
  thn (slotOp ((r25 : Int) != ((0 : Nat) : Int)) (prependU r25) 47) <|
  thn (slotOp ((m.signed : Int) != (-1)) (prepend 1 [lb m.signed]) 48) <|
  endObject

set_option maxHeartbeats 8000000 in
theorem p18 {M : Mem} {p : Nat} {m : MD} {x : MV} {fz : Nat × Nat} (hp : M p = some (.cells (cells131 m x) 131 fz)) (hO : ObjR M m x) : Packs 18 M (ptr p) (packM m) := by
  intro F w bb S r S' hE h hm
  unfold packM at hm
  refine cr_enter Tryz.func18 rfl Tryz.ntmps18 ?_
  refine gk_seq ?_
  refine gk_region ?_
  refine gr_v (ev_as rfl) ?_
  refine gr_nil ?_
  refine gk_seq ?_
  refine gk_seq ?_
  refine gk_region ?_
  refine gr_v (ev_mv rfl) ?_
  refine gr_v (ev_pointereql rfl rfl Tryz.runUnderlying66) ?_
  refine gr_nil ?_
  refine gk_false rfl (rfl) ?_
  refine gk_skip ?_
  refine gk_seq ?_
  refine gk_region ?_
  refine gr_v (ev_mv rfl) ?_
  refine gr_v (ev_mv rfl) ?_
  refine gr_v (ev_nil rfl) ?_
  refine gr_v (ev_fa (j := 3) rfl Tryz.runUnderlying131 rfl Tryz.sizeOf9 rfl rfl) ?_
  refine gr_v (ev_ld rfl Tryz.isAgg9 (hE _ _ hp).2 (by rfl)) ?_
  obtain ⟨r1, S1, h1, hm⟩ := withV_some hm
  refine gr_call (ec_func Tryz.call58 rfl) (c58 (m.name) F _ bb _ _ _ h h1) ?_
  rintro _ w1 ⟨rfl, hB1, hK1⟩
  have hE1 := hE.keep hK1
  replace hK1 := hK1
  clear h h1
  refine gr_v (ev_as rfl) ?_
  refine gr_nil ?_
  refine gk_seq ?_
  refine gk_region ?_
  refine gr_v (ev_as rfl) ?_
  refine gr_nil ?_
  refine gk_seq ?_
  refine gk_seq ?_
  refine gk_region ?_
  refine gr_v (ev_mv rfl) ?_
  refine gr_v (ev_nil rfl) ?_
  refine gr_v (ev_fa (j := 4) rfl Tryz.runUnderlying131 rfl Tryz.sizeOf69 rfl rfl) ?_
  refine gr_v (ev_ld rfl Tryz.isAgg69 (hE1 _ _ hp).2 (by rfl)) ?_
  refine gr_v (ev_rowneq hO.inv rfl Tryz.runUnderlying69) ?_
  refine gr_nil ?_
  obtain ⟨r2, S2, h2, hm⟩ := withV_some hm
  refine gk_cutn [(0, ptr p), (1, ptr bb), (5, U r1), (6, U r2)] (fun w' => Bld F w' bb S2 ∧ Keep F w w') ?_ ?_
  · intro Q0 k0
    rcases hO.inv with ⟨hl, hv⟩ | ⟨hl, b, o, c, cs, e, fz2, hv, hlc, hcs, hle, hall⟩
    · skip
      have hl0 : m.inv.length = 0 := by rw [hl]; rfl
      unfold bytesV at h2
      rw [if_pos hl0] at h2
      obtain ⟨rfl, rfl⟩ := retV_some h2
      refine gk_false rfl (by rw [hl0]; rfl) ?_
      refine gk_skip ?_
      refine gk_fin fun a ha => ?_
      exact ⟨ha.keep ⟨rfl, rfl, rfl, rfl, trivial⟩, hB1, hK1⟩
    · skip
      have hl0 : ¬ m.inv.length = 0 := fun h => hl (List.length_eq_zero_iff.1 h)
      unfold bytesV at h2
      rw [if_neg hl0] at h2
      refine gk_true rfl (by rw [bne_iff_ne]; exact hl0) ?_
      have hpv : (cells131 m x)[4]? = some (.slice (some ⟨b, o, none⟩) m.inv.length c) := congrArg some hv
      refine gk_region ?_
      refine gr_v (ev_mv rfl) ?_
      refine gr_v (ev_mv rfl) ?_
      refine gr_v (ev_nil rfl) ?_
      refine gr_v (ev_fa (j := 4) rfl Tryz.runUnderlying131 rfl Tryz.sizeOf69 rfl rfl) ?_
      refine gr_v (ev_ld rfl Tryz.isAgg69 (hE1 _ _ hp).2 hpv) ?_
      refine gr_call (ec_func Tryz.call59 rfl) (c59 m.inv hB1 (hE1 _ _ hcs).1 (hE1 _ _ hcs).2 (row_bytes hle hall) hle h2) ?_
      rintro _ w2 ⟨rfl, hB2, hK2⟩
      refine gr_v (ev_as rfl) ?_
      refine gr_nil ?_
      refine gk_fin fun a ha => ?_
      exact ⟨ha.keep ⟨rfl, rfl, rfl, rfl, trivial⟩, hB2, (hK1.trans hK2)⟩
  rintro w2 ⟨hB2, hK2⟩
  have hE2 := hE.keep hK2
  clear hB1 h2 hK1 hE1
  refine gk_seq ?_
  refine gk_region ?_
  refine gr_v (ev_mv rfl) ?_
  refine gr_v (ev_nil rfl) ?_
  refine gr_v (ev_fa (j := 6) rfl Tryz.runUnderlying131 rfl Tryz.sizeOf121 rfl rfl) ?_
  refine gr_v (ev_ld rfl Tryz.isAgg121 (hE2 _ _ hp).2 (by rfl)) ?_
  refine gr_v (ev_mv rfl) ?_
  obtain ⟨r3, S3, h3, hm⟩ := withV_some hm
  refine gr_call (ec_func Tryz.call60 rfl) (hO.test.1 F _ bb _ _ _ hE2 hB2 h3) ?_
  rintro _ w3 ⟨rfl, hB3, hK3⟩
  have hE3 := hE2.keep hK3
  replace hK3 := (hK2.trans hK3)
  clear hB2 h3 hK2 hE2
  refine gr_v (ev_as rfl) ?_
  refine gr_nil ?_
  refine gk_seq ?_
  refine gk_region ?_
  refine gr_v (ev_as rfl) ?_
  refine gr_nil ?_
  refine gk_seq ?_
  refine gk_seq ?_
  refine gk_region ?_
  refine gr_v (ev_mv rfl) ?_
  refine gr_v (ev_nil rfl) ?_
  refine gr_v (ev_fa (j := 7) rfl Tryz.runUnderlying131 rfl Tryz.sizeOf113 rfl rfl) ?_
  refine gr_v (ev_ld rfl Tryz.isAgg113 (hE3 _ _ hp).2 (by rfl)) ?_
  refine gr_v (ev_rowneq hO.test4 rfl Tryz.runUnderlying113) ?_
  refine gr_nil ?_
  obtain ⟨r4, S4, h4, hm⟩ := withV_some hm
  refine gk_cutn [(0, ptr p), (1, ptr bb), (5, U r1), (6, U r2), (7, U r3), (8, U r4)] (fun w' => Bld F w' bb S4 ∧ Keep F w w') ?_ ?_
  · intro Q0 k0
    rcases hO.test4 with ⟨hl, hv⟩ | ⟨hl, b, o, c, cs, e, fz2, hv, hlc, hcs, hle, hall⟩
    · skip
      have hl0 : m.test4.length = 0 := by rw [hl]; rfl
      unfold vecI at h4
      rw [if_pos hl0] at h4
      obtain ⟨rfl, rfl⟩ := retV_some h4
      refine gk_false rfl (by rw [hl0]; rfl) ?_
      refine gk_skip ?_
      refine gk_fin fun a ha => ?_
      exact ⟨ha.keep ⟨rfl, rfl, rfl, rfl, rfl, rfl, trivial⟩, hB3, hK3⟩
    · skip
      have hl0 : ¬ m.test4.length = 0 := fun h => hl (List.length_eq_zero_iff.1 h)
      unfold vecI at h4
      rw [if_neg hl0] at h4
      refine gk_true rfl (by rw [bne_iff_ne]; exact hl0) ?_
      have hpv : (cells131 m x)[7]? = some (.slice (some ⟨b, o, none⟩) m.test4.length c) := congrArg some hv
      obtain ⟨rv, Sa, ha1, h4⟩ := withV_some h4
      obtain ⟨Sb, ha2, ha3⟩ := thn_some h4
      have hvn := startVector_bd ha1
      refine gk_seq ?_
      refine gk_region ?_
      refine gr_v (ev_mv rfl) ?_
      refine gr_v (ev_nil rfl) ?_
      refine gr_v (ev_fa (j := 7) rfl Tryz.runUnderlying131 rfl Tryz.sizeOf113 rfl rfl) ?_
      refine gr_v (ev_ld rfl Tryz.isAgg113 (hE3 _ _ hp).2 hpv) ?_
      refine gr_v (ev_len (len := m.test4.length) rfl ⟨_, rfl, _, Tryz.runUnderlying113⟩) ?_
      refine gr_v (ev_as rfl) ?_
      refine gr_nil ?_
      refine gk_seq ?_
      refine gk_region ?_
      refine gr_v (ev_mv rfl) ?_
      refine gr_v (ev_mv rfl) ?_
      refine gr_call (ec_func Tryz.call61 rfl) (c61 m.test4.length F _ bb _ _ _ hB3 ha1) ?_
      rintro _ wa ⟨rfl, hBa, hKa⟩
      refine gr_nil ?_
      refine gk_seq ?_
      refine gk_seq ?_
      refine gk_region ?_
      refine gr_v (ev_mv rfl) ?_
      refine gr_v (ev_sub rfl rfl (w_i64 (by omega) (by omega))) ?_
      refine gr_v (ev_as rfl) ?_
      refine gr_nil ?_
      refine gk_block ?_
      refine gk_loop (fun i : Nat × St => [(0, ptr p), (1, ptr bb), (5, U r1), (6, U r2), (7, U r3), (9, .int .i64 m.test4.length), (10, .int .i64 ((i.1 : Int) - 1))]) (fun i w' => Bld F w' bb i.2 ∧ downE (fun ab => dropV (testPK ab)) m.test4 i.1 i.2 = some Sb ∧ i.1 ≤ m.test4.length ∧ Keep F w w') (fun i => i.1) (m.test4.length, Sa) ⟨rfl, rfl, rfl, rfl, rfl, rfl, rfl, trivial⟩ ⟨hBa, ha2, Nat.le_refl _, (hK3.trans hKa)⟩ ?_
      rintro ⟨k, Sx⟩ wl ⟨hBl, hdl, hkl, hKl⟩
      simp only at hBl hdl hkl
      have hEl := hE.keep hKl
      rcases (Nat.eq_zero_or_pos k).symm with hk0 | hk0
      · skip
        obtain ⟨j, rfl⟩ : ∃ j, k = j + 1 := ⟨k - 1, by omega⟩
        obtain ⟨hj, Sy, hf, hrest⟩ := downE_succ hdl
        obtain ⟨y, hy, hR⟩ := hall j hj
        obtain ⟨rx, hf⟩ := dropV_some hf
        refine gk_seq ?_
        refine gk_seq ?_
        refine gk_region ?_
        refine gr_v (ev_mv rfl) ?_
        refine gr_v (ev_geq rfl rfl) ?_
        refine gr_nil ?_
        refine gk_true rfl (decide_eq_true (by omega)) ?_
        refine gk_skip ?_
        refine gk_seq ?_
        refine gk_block ?_
        refine gk_region ?_
        refine gr_v (ev_mv rfl) ?_
        refine gr_v (ev_nil rfl) ?_
        refine gr_v (ev_fa (j := 7) rfl Tryz.runUnderlying131 rfl Tryz.sizeOf113 rfl rfl) ?_
        refine gr_v (ev_ld rfl Tryz.isAgg113 (hEl _ _ hp).2 hpv) ?_
        refine gr_v (ev_mv rfl) ?_
        refine gr_v (ev_ix (len := m.test4.length) (a' := o + j) rfl rfl Tryz.runUnderlying113 Tryz.sizeOf134 (by omega) (by omega) (by omega)) ?_
        refine gr_v (ev_ld rfl Tryz.isAgg134 (hEl _ _ hcs).2 hy) ?_
        refine gr_v (ev_mv rfl) ?_
        refine gr_call (ec_func Tryz.call62 rfl) (hR F _ bb _ _ _ hEl hBl hf) ?_
        rintro _ wc ⟨rfl, hBc, hKc⟩
        refine gr_nil ?_
        refine gk_endblk ?_
        refine gk_region ?_
        refine gr_v (ev_mv rfl) ?_
        refine gr_v (ev_sub (r := (j : Int) - 1) rfl rfl (by rw [w_i64 (by omega) (by omega)]; omega)) ?_
        refine gr_v (ev_as rfl) ?_
        refine gr_nil ?_
        refine gk_fin fun a ha => ?_
        exact ⟨(j, Sy), ha.keep ⟨rfl, rfl, rfl, rfl, rfl, rfl, rfl, trivial⟩, ⟨hBc, hrest, Nat.le_of_lt hj, hKl.trans hKc⟩, Nat.lt_succ_self j⟩
      · skip
        subst hk0
        obtain rfl := Option.some.inj hdl
        refine gk_seq ?_
        refine gk_seq ?_
        refine gk_region ?_
        refine gr_v (ev_mv rfl) ?_
        refine gr_v (ev_geq rfl rfl) ?_
        refine gr_nil ?_
        refine gk_false rfl (decide_eq_false (by omega)) ?_
        refine gk_exit rfl ?_
        refine gk_region ?_
        refine gr_v (ev_mv rfl) ?_
        refine gr_v (ev_mv rfl) ?_
        refine gr_call (ec_func Tryz.call63 rfl) (c63 m.test4.length F _ bb _ _ _ hBl ha3) ?_
        rintro _ wd ⟨rfl, hBd, hKd⟩
        refine gr_v (ev_as rfl) ?_
        refine gr_nil ?_
        refine gk_fin fun a ha => ?_
        exact ⟨ha.keep ⟨rfl, rfl, rfl, rfl, rfl, rfl, trivial⟩, hBd, (hKl.trans hKd)⟩
  rintro w4 ⟨hB4, hK4⟩
  have hE4 := hE.keep hK4
  clear hB3 h4 hK3 hE3
  refine gk_seq ?_
  refine gk_region ?_
  refine gr_v (ev_as rfl) ?_
  refine gr_nil ?_
  refine gk_seq ?_
  refine gk_seq ?_
  refine gk_region ?_
  refine gr_v (ev_mv rfl) ?_
  refine gr_v (ev_nil rfl) ?_
  refine gr_v (ev_fa (j := 8) rfl Tryz.runUnderlying131 rfl Tryz.sizeOf28 rfl rfl) ?_
  refine gr_v (ev_ld rfl Tryz.isAgg28 (hE4 _ _ hp).2 (by rfl)) ?_
  refine gr_v (ev_rowneq hO.strs rfl Tryz.runUnderlying28) ?_
  refine gr_nil ?_
  obtain ⟨r5, S5, h5, hm⟩ := withV_some hm
  refine gk_cutn [(0, ptr p), (1, ptr bb), (5, U r1), (6, U r2), (7, U r3), (8, U r4), (11, U r5)] (fun w' => Bld F w' bb S5 ∧ Keep F w w') ?_ ?_
  · intro Q0 k0
    rcases hO.strs with ⟨hl, hv⟩ | ⟨hl, b, o, c, cs, e, fz2, hv, hlc, hcs, hle, hall⟩
    · skip
      have hl0 : m.strs.length = 0 := by rw [hl]; rfl
      unfold offV at h5
      rw [if_pos hl0] at h5
      obtain ⟨rfl, rfl⟩ := retV_some h5
      refine gk_false rfl (by rw [hl0]; rfl) ?_
      refine gk_skip ?_
      refine gk_fin fun a ha => ?_
      exact ⟨ha.keep ⟨rfl, rfl, rfl, rfl, rfl, rfl, rfl, trivial⟩, hB4, hK4⟩
    · skip
      have hl0 : ¬ m.strs.length = 0 := fun h => hl (List.length_eq_zero_iff.1 h)
      unfold offV at h5
      rw [if_neg hl0] at h5
      refine gk_true rfl (by rw [bne_iff_ne]; exact hl0) ?_
      have hpv : (cells131 m x)[8]? = some (.slice (some ⟨b, o, none⟩) m.strs.length c) := congrArg some hv
      obtain ⟨⟨offs, Sa⟩, ha1, h5⟩ := bind_some h5
      simp only at h5
      obtain ⟨rv, Sv, ha2, h5⟩ := withV_some h5
      obtain ⟨Sb, ha3, ha4⟩ := thn_some h5
      have hvn := startVector_bd ha2
      have hol := upE_len ha1
      have hgrow := hB4.grow (.cells (Array.replicate m.strs.length (U 0)) 65 (0, 0))
      refine gk_seq ?_
      refine gk_region ?_
      refine gr_v (ev_mv rfl) ?_
      refine gr_v (ev_nil rfl) ?_
      refine gr_v (ev_fa (j := 8) rfl Tryz.runUnderlying131 rfl Tryz.sizeOf28 rfl rfl) ?_
      refine gr_v (ev_ld rfl Tryz.isAgg28 (hE4 _ _ hp).2 hpv) ?_
      refine gr_v (ev_len (len := m.strs.length) rfl ⟨_, rfl, _, Tryz.runUnderlying28⟩) ?_
      refine gr_v (ev_as rfl) ?_
      refine gr_nil ?_
      refine gk_seq ?_
      refine gk_region ?_
      refine gr_v (ev_mv rfl) ?_
      refine gr_v (ev_mk (c := m.strs.length) (cap' := m.strs.length) rfl rfl Tryz.runUnderlying107 Tryz.typeInfo65 Tryz.sizeOf65 Tryz.zeroValue65 rfl (by omega) (by omega) (by omega) rfl (by omega) (by omega)) ?_
      refine gr_v (ev_as rfl) ?_
      refine gr_nil ?_
      refine gk_seq ?_
      refine gk_seq ?_
      refine gk_region ?_
      refine gr_v (ev_as rfl) ?_
      refine gr_nil ?_
      refine gk_block ?_
      refine gk_loop (fun i : Nat × List Nat × St => [(0, ptr p), (1, ptr bb), (5, U r1), (6, U r2), (7, U r3), (8, U r4), (12, .int .i64 m.strs.length), (13, .slice (some ⟨w4.heap.size, 0, none⟩) m.strs.length m.strs.length), (14, .int .i64 (i.1 : Int))]) (fun i w' => Bld (plus F w4.heap.size) w' bb i.2.2 ∧ (∃ rest, upE strPK (m.strs.drop i.1) i.2.2 = some (rest, Sa) ∧ offs = i.2.1 ++ rest) ∧ i.2.1.length = i.1 ∧ i.1 ≤ m.strs.length ∧ w'.heap[w4.heap.size]? = some (.cells (rowU i.2.1 (List.replicate (m.strs.length - i.1) (U 0))) 65 (0, 0)) ∧ Keep F w w') (fun i => m.strs.length - i.1) (0, [], _) ⟨rfl, rfl, rfl, rfl, rfl, rfl, rfl, rfl, rfl, trivial⟩ ⟨hgrow.1, ⟨offs, ha1, rfl⟩, rfl, Nat.zero_le _, (al_new.trans (by simp [rowU]; exact .inr rfl)), (hK4.trans hgrow.2)⟩ ?_
      rintro ⟨i, rs, Sx⟩ wl ⟨hBl, ⟨rest, hup, hro⟩, hrl, hil, harr, hKl⟩
      simp only at hBl hup hro hrl hil harr
      have hEl := hE.keep hKl
      rcases Nat.lt_or_ge i m.strs.length with hlt | hge
      · skip
        rw [List.drop_eq_getElem_cons hlt] at hup
        obtain ⟨re, Sy, rest2, hf, hup2, rfl⟩ := upE_cons hup
        obtain ⟨y, hy, hR⟩ := hall i hlt
        obtain rfl := hR
        refine gk_seq ?_
        refine gk_seq ?_
        refine gk_region ?_
        refine gr_v (ev_mv rfl) ?_
        refine gr_v (ev_mv rfl) ?_
        refine gr_v (ev_lss rfl rfl) ?_
        refine gr_nil ?_
        refine gk_true rfl (decide_eq_true (by omega)) ?_
        refine gk_skip ?_
        refine gk_seq ?_
        refine gk_block ?_
        refine gk_region ?_
        refine gr_v (ev_mv rfl) ?_
        refine gr_v (ev_mv rfl) ?_
        refine gr_v (ev_mv rfl) ?_
        refine gr_v (ev_mv rfl) ?_
        refine gr_v (ev_nil rfl) ?_
        refine gr_v (ev_fa (j := 8) rfl Tryz.runUnderlying131 rfl Tryz.sizeOf28 rfl rfl) ?_
        refine gr_v (ev_ld rfl Tryz.isAgg28 (hEl _ _ hp).2 hpv) ?_
        refine gr_v (ev_mv rfl) ?_
        refine gr_v (ev_ix (len := m.strs.length) (a' := o + i) rfl rfl Tryz.runUnderlying28 Tryz.sizeOf9 (by omega) (by omega) (by omega)) ?_
        refine gr_v (ev_ld rfl Tryz.isAgg9 (hEl _ _ hcs).2 hy) ?_
        refine gr_call (ec_func Tryz.call58 rfl) (c58 _ (plus F w4.heap.size) _ bb _ _ _ hBl hf) ?_
        rintro _ wc ⟨rfl, hBc, hKc⟩
        have harr2 := (hKc.1 _ plus_new).trans harr
        refine gr_v (ev_ix (len := m.strs.length) (a' := i) rfl rfl Tryz.runUnderlying107 Tryz.sizeOf65 (by omega) (by omega) (by omega)) ?_
        refine gr_s (es_st (cs' := rowU (rs ++ [re]) (List.replicate (m.strs.length - (i + 1)) (U 0))) rfl rfl (by rfl) Tryz.sizeOf65 harr2 (by simp [Nat.blt_eq, rowU]; omega) (rowU_next hlt hrl)) ?_
        refine gr_nil ?_
        refine gk_endblk ?_
        refine gk_region ?_
        refine gr_v (ev_mv rfl) ?_
        refine gr_v (ev_add (r := ((i + 1 : Nat) : Int)) rfl rfl (by rw [w_i64 (by omega) (by omega)]; omega)) ?_
        refine gr_v (ev_as rfl) ?_
        refine gr_nil ?_
        refine gk_fin fun a ha => ?_
        exact ⟨(i + 1, rs ++ [re], Sy), ha.keep ⟨rfl, rfl, rfl, rfl, rfl, rfl, rfl, rfl, rfl, trivial⟩, ⟨hBc.put plus_new _, ⟨rest2, hup2, (by rw [hro]; simp)⟩, (by simp [hrl]), hlt, sb_same harr2, (hKl.trans (hKc.mono plus_of)).trans (Keep.put fun h => Nat.lt_irrefl _ (hB4.lt _ h))⟩, (by show m.strs.length - (i + 1) < m.strs.length - i; omega)⟩
      · skip
        obtain rfl : i = m.strs.length := by omega
        simp only [List.drop_length, upE, Option.some.injEq, Prod.mk.injEq] at hup
        obtain ⟨rfl, rfl⟩ := hup
        simp only [List.append_nil] at hro
        subst hro
        refine gk_seq ?_
        refine gk_seq ?_
        refine gk_region ?_
        refine gr_v (ev_mv rfl) ?_
        refine gr_v (ev_mv rfl) ?_
        refine gr_v (ev_lss rfl rfl) ?_
        refine gr_nil ?_
        refine gk_false rfl (decide_eq_false (by omega)) ?_
        refine gk_exit rfl ?_
        refine gk_seq ?_
        refine gk_region ?_
        refine gr_v (ev_mv rfl) ?_
        refine gr_v (ev_mv rfl) ?_
        refine gr_call (ec_func Tryz.call64 rfl) (c64 m.strs.length (plus F w4.heap.size) _ bb _ _ _ hBl ha2) ?_
        rintro _ wa ⟨rfl, hBa, hKa⟩
        have harra := (hKa.1 _ plus_new).trans harr
        refine gr_nil ?_
        refine gk_seq ?_
        refine gk_seq ?_
        refine gk_region ?_
        refine gr_v (ev_mv rfl) ?_
        refine gr_v (ev_sub rfl rfl (w_i64 (by omega) (by omega))) ?_
        refine gr_v (ev_as rfl) ?_
        refine gr_nil ?_
        refine gk_block ?_
        refine gk_loop (fun i : Nat × St => [(0, ptr p), (1, ptr bb), (5, U r1), (6, U r2), (7, U r3), (8, U r4), (12, .int .i64 m.strs.length), (13, .slice (some ⟨w4.heap.size, 0, none⟩) m.strs.length m.strs.length), (15, .int .i64 ((i.1 : Int) - 1))]) (fun i w' => Bld (plus F w4.heap.size) w' bb i.2 ∧ downE prependU offs i.1 i.2 = some Sb ∧ i.1 ≤ m.strs.length ∧ w'.heap[w4.heap.size]? = some (.cells (rowU offs (List.replicate (m.strs.length - m.strs.length) (U 0))) 65 (0, 0)) ∧ Keep F w w') (fun i => i.1) (m.strs.length, Sv) ⟨rfl, rfl, rfl, rfl, rfl, rfl, rfl, rfl, rfl, trivial⟩ ⟨hBa, ha3, Nat.le_refl _, harra, hKl.trans (hKa.mono plus_of)⟩ ?_
        clear hBl hKl harr
        rintro ⟨k, Sx⟩ wl2 ⟨hBl, hdl, hkl, harr, hKl⟩
        simp only at hBl hdl hkl harr
        rcases (Nat.eq_zero_or_pos k).symm with hk0 | hk0
        · skip
          obtain ⟨j, rfl⟩ : ∃ j, k = j + 1 := ⟨k - 1, by omega⟩
          obtain ⟨hj, Sy, hf, hrest⟩ := downE_succ hdl
          refine gk_seq ?_
          refine gk_seq ?_
          refine gk_region ?_
          refine gr_v (ev_mv rfl) ?_
          refine gr_v (ev_geq rfl rfl) ?_
          refine gr_nil ?_
          refine gk_true rfl (decide_eq_true (by omega)) ?_
          refine gk_skip ?_
          refine gk_seq ?_
          refine gk_block ?_
          refine gk_region ?_
          refine gr_v (ev_mv rfl) ?_
          refine gr_v (ev_mv rfl) ?_
          refine gr_v (ev_mv rfl) ?_
          refine gr_v (ev_ix (len := m.strs.length) (a' := j) rfl rfl Tryz.runUnderlying107 Tryz.sizeOf65 (by omega) (by omega) (by omega)) ?_
          refine gr_v (ev_ld rfl Tryz.isAgg65 harr (rowU_at (by omega))) ?_
          refine gr_call (ec_func Tryz.call46 rfl) (c46 _ (plus F w4.heap.size) _ bb _ _ hBl hf) ?_
          rintro _ wc ⟨rfl, hBc, hKc⟩
          refine gr_nil ?_
          refine gk_endblk ?_
          refine gk_region ?_
          refine gr_v (ev_mv rfl) ?_
          refine gr_v (ev_sub (r := (j : Int) - 1) rfl rfl (by rw [w_i64 (by omega) (by omega)]; omega)) ?_
          refine gr_v (ev_as rfl) ?_
          refine gr_nil ?_
          refine gk_fin fun a ha => ?_
          exact ⟨(j, Sy), ha.keep ⟨rfl, rfl, rfl, rfl, rfl, rfl, rfl, rfl, rfl, trivial⟩, ⟨hBc, hrest, (by show j ≤ m.strs.length; omega), (hKc.1 _ plus_new).trans harr, hKl.trans (hKc.mono plus_of)⟩, Nat.lt_succ_self j⟩
        · skip
          subst hk0
          obtain rfl := Option.some.inj hdl
          refine gk_seq ?_
          refine gk_seq ?_
          refine gk_region ?_
          refine gr_v (ev_mv rfl) ?_
          refine gr_v (ev_geq rfl rfl) ?_
          refine gr_nil ?_
          refine gk_false rfl (decide_eq_false (by omega)) ?_
          refine gk_exit rfl ?_
          refine gk_region ?_
          refine gr_v (ev_mv rfl) ?_
          refine gr_v (ev_mv rfl) ?_
          refine gr_call (ec_func Tryz.call63 rfl) (c63 m.strs.length (plus F w4.heap.size) _ bb _ _ _ hBl ha4) ?_
          rintro _ wd ⟨rfl, hBd, hKd⟩
          refine gr_v (ev_as rfl) ?_
          refine gr_nil ?_
          refine gk_fin fun a ha => ?_
          exact ⟨ha.keep ⟨rfl, rfl, rfl, rfl, rfl, rfl, rfl, trivial⟩, (hBd.mono plus_of), (hKl.trans (hKd.mono plus_of))⟩
  rintro w5 ⟨hB5, hK5⟩
  have hE5 := hE.keep hK5
  clear hB4 h5 hK4 hE4
  refine gk_seq ?_
  refine gk_region ?_
  refine gr_v (ev_as rfl) ?_
  refine gr_nil ?_
  refine gk_seq ?_
  refine gk_seq ?_
  refine gk_region ?_
  refine gr_v (ev_mv rfl) ?_
  refine gr_v (ev_nil rfl) ?_
  refine gr_v (ev_fa (j := 9) rfl Tryz.runUnderlying131 rfl Tryz.sizeOf122 rfl rfl) ?_
  refine gr_v (ev_ld rfl Tryz.isAgg122 (hE5 _ _ hp).2 (by rfl)) ?_
  refine gr_v (ev_rowneq hO.tables rfl Tryz.runUnderlying122) ?_
  refine gr_nil ?_
  obtain ⟨r6, S6, h6, hm⟩ := withV_some hm
  refine gk_cutn [(0, ptr p), (1, ptr bb), (5, U r1), (6, U r2), (7, U r3), (8, U r4), (11, U r5), (16, U r6)] (fun w' => Bld F w' bb S6 ∧ Keep F w w') ?_ ?_
  · intro Q0 k0
    rcases hO.tables with ⟨hl, hv⟩ | ⟨hl, b, o, c, cs, e, fz2, hv, hlc, hcs, hle, hall⟩
    · skip
      have hl0 : m.tables.length = 0 := by rw [hl]; rfl
      unfold offV at h6
      rw [if_pos hl0] at h6
      obtain ⟨rfl, rfl⟩ := retV_some h6
      refine gk_false rfl (by rw [hl0]; rfl) ?_
      refine gk_skip ?_
      refine gk_fin fun a ha => ?_
      exact ⟨ha.keep ⟨rfl, rfl, rfl, rfl, rfl, rfl, rfl, rfl, trivial⟩, hB5, hK5⟩
    · skip
      have hl0 : ¬ m.tables.length = 0 := fun h => hl (List.length_eq_zero_iff.1 h)
      unfold offV at h6
      rw [if_neg hl0] at h6
      refine gk_true rfl (by rw [bne_iff_ne]; exact hl0) ?_
      have hpv : (cells131 m x)[9]? = some (.slice (some ⟨b, o, none⟩) m.tables.length c) := congrArg some hv
      obtain ⟨⟨offs, Sa⟩, ha1, h6⟩ := bind_some h6
      simp only at h6
      obtain ⟨rv, Sv, ha2, h6⟩ := withV_some h6
      obtain ⟨Sb, ha3, ha4⟩ := thn_some h6
      have hvn := startVector_bd ha2
      have hol := upE_len ha1
      have hgrow := hB5.grow (.cells (Array.replicate m.tables.length (U 0)) 65 (0, 0))
      refine gk_seq ?_
      refine gk_region ?_
      refine gr_v (ev_mv rfl) ?_
      refine gr_v (ev_nil rfl) ?_
      refine gr_v (ev_fa (j := 9) rfl Tryz.runUnderlying131 rfl Tryz.sizeOf122 rfl rfl) ?_
      refine gr_v (ev_ld rfl Tryz.isAgg122 (hE5 _ _ hp).2 hpv) ?_
      refine gr_v (ev_len (len := m.tables.length) rfl ⟨_, rfl, _, Tryz.runUnderlying122⟩) ?_
      refine gr_v (ev_as rfl) ?_
      refine gr_nil ?_
      refine gk_seq ?_
      refine gk_region ?_
      refine gr_v (ev_mv rfl) ?_
      refine gr_v (ev_mk (c := m.tables.length) (cap' := m.tables.length) rfl rfl Tryz.runUnderlying107 Tryz.typeInfo65 Tryz.sizeOf65 Tryz.zeroValue65 rfl (by omega) (by omega) (by omega) rfl (by omega) (by omega)) ?_
      refine gr_v (ev_as rfl) ?_
      refine gr_nil ?_
      refine gk_seq ?_
      refine gk_seq ?_
      refine gk_region ?_
      refine gr_v (ev_as rfl) ?_
      refine gr_nil ?_
      refine gk_block ?_
      refine gk_loop (fun i : Nat × List Nat × St => [(0, ptr p), (1, ptr bb), (5, U r1), (6, U r2), (7, U r3), (8, U r4), (11, U r5), (17, .int .i64 m.tables.length), (18, .slice (some ⟨w5.heap.size, 0, none⟩) m.tables.length m.tables.length), (19, .int .i64 (i.1 : Int))]) (fun i w' => Bld (plus F w5.heap.size) w' bb i.2.2 ∧ (∃ rest, upE (fun p => p) (m.tables.drop i.1) i.2.2 = some (rest, Sa) ∧ offs = i.2.1 ++ rest) ∧ i.2.1.length = i.1 ∧ i.1 ≤ m.tables.length ∧ w'.heap[w5.heap.size]? = some (.cells (rowU i.2.1 (List.replicate (m.tables.length - i.1) (U 0))) 65 (0, 0)) ∧ Keep F w w') (fun i => m.tables.length - i.1) (0, [], _) ⟨rfl, rfl, rfl, rfl, rfl, rfl, rfl, rfl, rfl, rfl, trivial⟩ ⟨hgrow.1, ⟨offs, ha1, rfl⟩, rfl, Nat.zero_le _, (al_new.trans (by simp [rowU]; exact .inr rfl)), (hK5.trans hgrow.2)⟩ ?_
      rintro ⟨i, rs, Sx⟩ wl ⟨hBl, ⟨rest, hup, hro⟩, hrl, hil, harr, hKl⟩
      simp only at hBl hup hro hrl hil harr
      have hEl := hE.keep hKl
      rcases Nat.lt_or_ge i m.tables.length with hlt | hge
      · skip
        rw [List.drop_eq_getElem_cons hlt] at hup
        obtain ⟨re, Sy, rest2, hf, hup2, rfl⟩ := upE_cons hup
        obtain ⟨y, hy, hR⟩ := hall i hlt
        refine gk_seq ?_
        refine gk_seq ?_
        refine gk_region ?_
        refine gr_v (ev_mv rfl) ?_
        refine gr_v (ev_mv rfl) ?_
        refine gr_v (ev_lss rfl rfl) ?_
        refine gr_nil ?_
        refine gk_true rfl (decide_eq_true (by omega)) ?_
        refine gk_skip ?_
        refine gk_seq ?_
        refine gk_block ?_
        refine gk_region ?_
        refine gr_v (ev_mv rfl) ?_
        refine gr_v (ev_mv rfl) ?_
        refine gr_v (ev_mv rfl) ?_
        refine gr_v (ev_nil rfl) ?_
        refine gr_v (ev_fa (j := 9) rfl Tryz.runUnderlying131 rfl Tryz.sizeOf122 rfl rfl) ?_
        refine gr_v (ev_ld rfl Tryz.isAgg122 (hEl _ _ hp).2 hpv) ?_
        refine gr_v (ev_mv rfl) ?_
        refine gr_v (ev_ix (len := m.tables.length) (a' := o + i) rfl rfl Tryz.runUnderlying122 Tryz.sizeOf66 (by omega) (by omega) (by omega)) ?_
        refine gr_v (ev_ld rfl Tryz.isAgg66 (hEl _ _ hcs).2 hy) ?_
        refine gr_v (ev_mv rfl) ?_
        refine gr_call (ec_func Tryz.call18 rfl) (hR (plus F w5.heap.size) _ bb _ _ _ hEl.plus hBl hf) ?_
        rintro _ wc ⟨rfl, hBc, hKc⟩
        have harr2 := (hKc.1 _ plus_new).trans harr
        refine gr_v (ev_ix (len := m.tables.length) (a' := i) rfl rfl Tryz.runUnderlying107 Tryz.sizeOf65 (by omega) (by omega) (by omega)) ?_
        refine gr_s (es_st (cs' := rowU (rs ++ [re]) (List.replicate (m.tables.length - (i + 1)) (U 0))) rfl rfl (by rfl) Tryz.sizeOf65 harr2 (by simp [Nat.blt_eq, rowU]; omega) (rowU_next hlt hrl)) ?_
        refine gr_nil ?_
        refine gk_endblk ?_
        refine gk_region ?_
        refine gr_v (ev_mv rfl) ?_
        refine gr_v (ev_add (r := ((i + 1 : Nat) : Int)) rfl rfl (by rw [w_i64 (by omega) (by omega)]; omega)) ?_
        refine gr_v (ev_as rfl) ?_
        refine gr_nil ?_
        refine gk_fin fun a ha => ?_
        exact ⟨(i + 1, rs ++ [re], Sy), ha.keep ⟨rfl, rfl, rfl, rfl, rfl, rfl, rfl, rfl, rfl, rfl, trivial⟩, ⟨hBc.put plus_new _, ⟨rest2, hup2, (by rw [hro]; simp)⟩, (by simp [hrl]), hlt, sb_same harr2, (hKl.trans (hKc.mono plus_of)).trans (Keep.put fun h => Nat.lt_irrefl _ (hB5.lt _ h))⟩, (by show m.tables.length - (i + 1) < m.tables.length - i; omega)⟩
      · skip
        obtain rfl : i = m.tables.length := by omega
        simp only [List.drop_length, upE, Option.some.injEq, Prod.mk.injEq] at hup
        obtain ⟨rfl, rfl⟩ := hup
        simp only [List.append_nil] at hro
        subst hro
        refine gk_seq ?_
        refine gk_seq ?_
        refine gk_region ?_
        refine gr_v (ev_mv rfl) ?_
        refine gr_v (ev_mv rfl) ?_
        refine gr_v (ev_lss rfl rfl) ?_
        refine gr_nil ?_
        refine gk_false rfl (decide_eq_false (by omega)) ?_
        refine gk_exit rfl ?_
        refine gk_seq ?_
        refine gk_region ?_
        refine gr_v (ev_mv rfl) ?_
        refine gr_v (ev_mv rfl) ?_
        refine gr_call (ec_func Tryz.call65 rfl) (c65 m.tables.length (plus F w5.heap.size) _ bb _ _ _ hBl ha2) ?_
        rintro _ wa ⟨rfl, hBa, hKa⟩
        have harra := (hKa.1 _ plus_new).trans harr
        refine gr_nil ?_
        refine gk_seq ?_
        refine gk_seq ?_
        refine gk_region ?_
        refine gr_v (ev_mv rfl) ?_
        refine gr_v (ev_sub rfl rfl (w_i64 (by omega) (by omega))) ?_
        refine gr_v (ev_as rfl) ?_
        refine gr_nil ?_
        refine gk_block ?_
        refine gk_loop (fun i : Nat × St => [(0, ptr p), (1, ptr bb), (5, U r1), (6, U r2), (7, U r3), (8, U r4), (11, U r5), (17, .int .i64 m.tables.length), (18, .slice (some ⟨w5.heap.size, 0, none⟩) m.tables.length m.tables.length), (20, .int .i64 ((i.1 : Int) - 1))]) (fun i w' => Bld (plus F w5.heap.size) w' bb i.2 ∧ downE prependU offs i.1 i.2 = some Sb ∧ i.1 ≤ m.tables.length ∧ w'.heap[w5.heap.size]? = some (.cells (rowU offs (List.replicate (m.tables.length - m.tables.length) (U 0))) 65 (0, 0)) ∧ Keep F w w') (fun i => i.1) (m.tables.length, Sv) ⟨rfl, rfl, rfl, rfl, rfl, rfl, rfl, rfl, rfl, rfl, trivial⟩ ⟨hBa, ha3, Nat.le_refl _, harra, hKl.trans (hKa.mono plus_of)⟩ ?_
        clear hBl hKl harr
        rintro ⟨k, Sx⟩ wl2 ⟨hBl, hdl, hkl, harr, hKl⟩
        simp only at hBl hdl hkl harr
        rcases (Nat.eq_zero_or_pos k).symm with hk0 | hk0
        · skip
          obtain ⟨j, rfl⟩ : ∃ j, k = j + 1 := ⟨k - 1, by omega⟩
          obtain ⟨hj, Sy, hf, hrest⟩ := downE_succ hdl
          refine gk_seq ?_
          refine gk_seq ?_
          refine gk_region ?_
          refine gr_v (ev_mv rfl) ?_
          refine gr_v (ev_geq rfl rfl) ?_
          refine gr_nil ?_
          refine gk_true rfl (decide_eq_true (by omega)) ?_
          refine gk_skip ?_
          refine gk_seq ?_
          refine gk_block ?_
          refine gk_region ?_
          refine gr_v (ev_mv rfl) ?_
          refine gr_v (ev_mv rfl) ?_
          refine gr_v (ev_mv rfl) ?_
          refine gr_v (ev_ix (len := m.tables.length) (a' := j) rfl rfl Tryz.runUnderlying107 Tryz.sizeOf65 (by omega) (by omega) (by omega)) ?_
          refine gr_v (ev_ld rfl Tryz.isAgg65 harr (rowU_at (by omega))) ?_
          refine gr_call (ec_func Tryz.call46 rfl) (c46 _ (plus F w5.heap.size) _ bb _ _ hBl hf) ?_
          rintro _ wc ⟨rfl, hBc, hKc⟩
          refine gr_nil ?_
          refine gk_endblk ?_
          refine gk_region ?_
          refine gr_v (ev_mv rfl) ?_
          refine gr_v (ev_sub (r := (j : Int) - 1) rfl rfl (by rw [w_i64 (by omega) (by omega)]; omega)) ?_
          refine gr_v (ev_as rfl) ?_
          refine gr_nil ?_
          refine gk_fin fun a ha => ?_
          exact ⟨(j, Sy), ha.keep ⟨rfl, rfl, rfl, rfl, rfl, rfl, rfl, rfl, rfl, rfl, trivial⟩, ⟨hBc, hrest, (by show j ≤ m.tables.length; omega), (hKc.1 _ plus_new).trans harr, hKl.trans (hKc.mono plus_of)⟩, Nat.lt_succ_self j⟩
        · skip
          subst hk0
          obtain rfl := Option.some.inj hdl
          refine gk_seq ?_
          refine gk_seq ?_
          refine gk_region ?_
          refine gr_v (ev_mv rfl) ?_
          refine gr_v (ev_geq rfl rfl) ?_
          refine gr_nil ?_
          refine gk_false rfl (decide_eq_false (by omega)) ?_
          refine gk_exit rfl ?_
          refine gk_region ?_
          refine gr_v (ev_mv rfl) ?_
          refine gr_v (ev_mv rfl) ?_
          refine gr_call (ec_func Tryz.call63 rfl) (c63 m.tables.length (plus F w5.heap.size) _ bb _ _ _ hBl ha4) ?_
          rintro _ wd ⟨rfl, hBd, hKd⟩
          refine gr_v (ev_as rfl) ?_
          refine gr_nil ?_
          refine gk_fin fun a ha => ?_
          exact ⟨ha.keep ⟨rfl, rfl, rfl, rfl, rfl, rfl, rfl, rfl, trivial⟩, (hBd.mono plus_of), (hKl.trans (hKd.mono plus_of))⟩
  rintro w6 ⟨hB6, hK6⟩
  have hE6 := hE.keep hK6
  clear hB5 h6 hK5 hE5
  refine gk_seq ?_
  refine gk_region ?_
  refine gr_v (ev_mv rfl) ?_
  refine gr_v (ev_nil rfl) ?_
  refine gr_v (ev_fa (j := 10) rfl Tryz.runUnderlying131 rfl Tryz.sizeOf66 rfl rfl) ?_
  refine gr_v (ev_ld rfl Tryz.isAgg66 (hE6 _ _ hp).2 (by rfl)) ?_
  refine gr_v (ev_mv rfl) ?_
  obtain ⟨r7, S7, h7, hm⟩ := withV_some hm
  refine gr_call (ec_func Tryz.call18 rfl) (hO.enemy F _ bb _ _ _ hE6 hB6 h7) ?_
  rintro _ w7 ⟨rfl, hB7, hK7⟩
  have hE7 := hE6.keep hK7
  replace hK7 := (hK6.trans hK7)
  clear hB6 h7 hK6 hE6
  refine gr_v (ev_as rfl) ?_
  refine gr_nil ?_
  refine gk_seq ?_
  refine gk_region ?_
  refine gr_v (ev_as rfl) ?_
  refine gr_nil ?_
  refine gk_seq ?_
  refine gk_seq ?_
  refine gk_region ?_
  refine gr_v (ev_mv rfl) ?_
  refine gr_v (ev_nil rfl) ?_
  refine gr_v (ev_fa (j := 11) rfl Tryz.runUnderlying131 rfl Tryz.sizeOf69 rfl rfl) ?_
  refine gr_v (ev_ld rfl Tryz.isAgg69 (hE7 _ _ hp).2 (by rfl)) ?_
  refine gr_v (ev_rowneq hO.nest rfl Tryz.runUnderlying69) ?_
  refine gr_nil ?_
  obtain ⟨r8, S8, h8, hm⟩ := withV_some hm
  refine gk_cutn [(0, ptr p), (1, ptr bb), (5, U r1), (6, U r2), (7, U r3), (8, U r4), (11, U r5), (16, U r6), (21, U r7), (22, U r8)] (fun w' => Bld F w' bb S8 ∧ Keep F w w') ?_ ?_
  · intro Q0 k0
    rcases hO.nest with ⟨hl, hv⟩ | ⟨hl, b, o, c, cs, e, fz2, hv, hlc, hcs, hle, hall⟩
    · skip
      have hl0 : m.nest.length = 0 := by rw [hl]; rfl
      unfold bytesV at h8
      rw [if_pos hl0] at h8
      obtain ⟨rfl, rfl⟩ := retV_some h8
      refine gk_false rfl (by rw [hl0]; rfl) ?_
      refine gk_skip ?_
      refine gk_fin fun a ha => ?_
      exact ⟨ha.keep ⟨rfl, rfl, rfl, rfl, rfl, rfl, rfl, rfl, rfl, rfl, trivial⟩, hB7, hK7⟩
    · skip
      have hl0 : ¬ m.nest.length = 0 := fun h => hl (List.length_eq_zero_iff.1 h)
      unfold bytesV at h8
      rw [if_neg hl0] at h8
      refine gk_true rfl (by rw [bne_iff_ne]; exact hl0) ?_
      have hpv : (cells131 m x)[11]? = some (.slice (some ⟨b, o, none⟩) m.nest.length c) := congrArg some hv
      refine gk_region ?_
      refine gr_v (ev_mv rfl) ?_
      refine gr_v (ev_mv rfl) ?_
      refine gr_v (ev_nil rfl) ?_
      refine gr_v (ev_fa (j := 11) rfl Tryz.runUnderlying131 rfl Tryz.sizeOf69 rfl rfl) ?_
      refine gr_v (ev_ld rfl Tryz.isAgg69 (hE7 _ _ hp).2 hpv) ?_
      refine gr_call (ec_func Tryz.call59 rfl) (c59 m.nest hB7 (hE7 _ _ hcs).1 (hE7 _ _ hcs).2 (row_bytes hle hall) hle h8) ?_
      rintro _ w8 ⟨rfl, hB8, hK8⟩
      refine gr_v (ev_as rfl) ?_
      refine gr_nil ?_
      refine gk_fin fun a ha => ?_
      exact ⟨ha.keep ⟨rfl, rfl, rfl, rfl, rfl, rfl, rfl, rfl, rfl, rfl, trivial⟩, hB8, (hK7.trans hK8)⟩
  rintro w8 ⟨hB8, hK8⟩
  have hE8 := hE.keep hK8
  clear hB7 h8 hK7 hE7
  refine gk_seq ?_
  refine gk_region ?_
  refine gr_v (ev_mv rfl) ?_
  refine gr_v (ev_nil rfl) ?_
  refine gr_v (ev_fa (j := 12) rfl Tryz.runUnderlying131 rfl Tryz.sizeOf123 rfl rfl) ?_
  refine gr_v (ev_ld rfl Tryz.isAgg123 (hE8 _ _ hp).2 (by rfl)) ?_
  refine gr_v (ev_mv rfl) ?_
  obtain ⟨r9, S9, h9, hm⟩ := withV_some hm
  refine gr_call (ec_func Tryz.call66 rfl) (hO.stat F _ bb _ _ _ hE8 hB8 h9) ?_
  rintro _ w9 ⟨rfl, hB9, hK9⟩
  have hE9 := hE8.keep hK9
  replace hK9 := (hK8.trans hK9)
  clear hB8 h9 hK8 hE8
  refine gr_v (ev_as rfl) ?_
  refine gr_nil ?_
  refine gk_seq ?_
  refine gk_region ?_
  refine gr_v (ev_as rfl) ?_
  refine gr_nil ?_
  refine gk_seq ?_
  refine gk_seq ?_
  refine gk_region ?_
  refine gr_v (ev_mv rfl) ?_
  refine gr_v (ev_nil rfl) ?_
  refine gr_v (ev_fa (j := 22) rfl Tryz.runUnderlying131 rfl Tryz.sizeOf32 rfl rfl) ?_
  refine gr_v (ev_ld rfl Tryz.isAgg32 (hE9 _ _ hp).2 (by rfl)) ?_
  refine gr_v (ev_rowneq hO.bools rfl Tryz.runUnderlying32) ?_
  refine gr_nil ?_
  obtain ⟨r10, S10, h10, hm⟩ := withV_some hm
  refine gk_cutn [(0, ptr p), (1, ptr bb), (5, U r1), (6, U r2), (7, U r3), (8, U r4), (11, U r5), (16, U r6), (21, U r7), (22, U r8), (23, U r9), (24, U r10)] (fun w' => Bld F w' bb S10 ∧ Keep F w w') ?_ ?_
  · intro Q0 k0
    rcases hO.bools with ⟨hl, hv⟩ | ⟨hl, b, o, c, cs, e, fz2, hv, hlc, hcs, hle, hall⟩
    · skip
      have hl0 : m.bools.length = 0 := by rw [hl]; rfl
      unfold vecI at h10
      rw [if_pos hl0] at h10
      obtain ⟨rfl, rfl⟩ := retV_some h10
      refine gk_false rfl (by rw [hl0]; rfl) ?_
      refine gk_skip ?_
      refine gk_fin fun a ha => ?_
      exact ⟨ha.keep ⟨rfl, rfl, rfl, rfl, rfl, rfl, rfl, rfl, rfl, rfl, rfl, rfl, trivial⟩, hB9, hK9⟩
    · skip
      have hl0 : ¬ m.bools.length = 0 := fun h => hl (List.length_eq_zero_iff.1 h)
      unfold vecI at h10
      rw [if_neg hl0] at h10
      refine gk_true rfl (by rw [bne_iff_ne]; exact hl0) ?_
      have hpv : (cells131 m x)[22]? = some (.slice (some ⟨b, o, none⟩) m.bools.length c) := congrArg some hv
      obtain ⟨rv, Sa, ha1, h10⟩ := withV_some h10
      obtain ⟨Sb, ha2, ha3⟩ := thn_some h10
      have hvn := startVector_bd ha1
      refine gk_seq ?_
      refine gk_region ?_
      refine gr_v (ev_mv rfl) ?_
      refine gr_v (ev_nil rfl) ?_
      refine gr_v (ev_fa (j := 22) rfl Tryz.runUnderlying131 rfl Tryz.sizeOf32 rfl rfl) ?_
      refine gr_v (ev_ld rfl Tryz.isAgg32 (hE9 _ _ hp).2 hpv) ?_
      refine gr_v (ev_len (len := m.bools.length) rfl ⟨_, rfl, _, Tryz.runUnderlying32⟩) ?_
      refine gr_v (ev_as rfl) ?_
      refine gr_nil ?_
      refine gk_seq ?_
      refine gk_region ?_
      refine gr_v (ev_mv rfl) ?_
      refine gr_v (ev_mv rfl) ?_
      refine gr_call (ec_func Tryz.call67 rfl) (c67 m.bools.length F _ bb _ _ _ hB9 ha1) ?_
      rintro _ wa ⟨rfl, hBa, hKa⟩
      refine gr_nil ?_
      refine gk_seq ?_
      refine gk_seq ?_
      refine gk_region ?_
      refine gr_v (ev_mv rfl) ?_
      refine gr_v (ev_sub rfl rfl (w_i64 (by omega) (by omega))) ?_
      refine gr_v (ev_as rfl) ?_
      refine gr_nil ?_
      refine gk_block ?_
      refine gk_loop (fun i : Nat × St => [(0, ptr p), (1, ptr bb), (5, U r1), (6, U r2), (7, U r3), (8, U r4), (11, U r5), (16, U r6), (21, U r7), (22, U r8), (23, U r9), (25, .int .i64 m.bools.length), (26, .int .i64 ((i.1 : Int) - 1))]) (fun i w' => Bld F w' bb i.2 ∧ downE (fun b => prepend 1 [bb1 b]) m.bools i.1 i.2 = some Sb ∧ i.1 ≤ m.bools.length ∧ Keep F w w') (fun i => i.1) (m.bools.length, Sa) ⟨rfl, rfl, rfl, rfl, rfl, rfl, rfl, rfl, rfl, rfl, rfl, rfl, rfl, trivial⟩ ⟨hBa, ha2, Nat.le_refl _, (hK9.trans hKa)⟩ ?_
      rintro ⟨k, Sx⟩ wl ⟨hBl, hdl, hkl, hKl⟩
      simp only at hBl hdl hkl
      have hEl := hE.keep hKl
      rcases (Nat.eq_zero_or_pos k).symm with hk0 | hk0
      · skip
        obtain ⟨j, rfl⟩ : ∃ j, k = j + 1 := ⟨k - 1, by omega⟩
        obtain ⟨hj, Sy, hf, hrest⟩ := downE_succ hdl
        obtain ⟨y, hy, hR⟩ := hall j hj
        obtain rfl := hR
        refine gk_seq ?_
        refine gk_seq ?_
        refine gk_region ?_
        refine gr_v (ev_mv rfl) ?_
        refine gr_v (ev_geq rfl rfl) ?_
        refine gr_nil ?_
        refine gk_true rfl (decide_eq_true (by omega)) ?_
        refine gk_skip ?_
        refine gk_seq ?_
        refine gk_block ?_
        refine gk_region ?_
        refine gr_v (ev_mv rfl) ?_
        refine gr_v (ev_mv rfl) ?_
        refine gr_v (ev_nil rfl) ?_
        refine gr_v (ev_fa (j := 22) rfl Tryz.runUnderlying131 rfl Tryz.sizeOf32 rfl rfl) ?_
        refine gr_v (ev_ld rfl Tryz.isAgg32 (hEl _ _ hp).2 hpv) ?_
        refine gr_v (ev_mv rfl) ?_
        refine gr_v (ev_ix (len := m.bools.length) (a' := o + j) rfl rfl Tryz.runUnderlying32 Tryz.sizeOf4 (by omega) (by omega) (by omega)) ?_
        refine gr_v (ev_ld rfl Tryz.isAgg4 (hEl _ _ hcs).2 hy) ?_
        refine gr_call (ec_func Tryz.call68 rfl) (c68 _ F _ bb _ _ hBl hf) ?_
        rintro _ wc ⟨rfl, hBc, hKc⟩
        refine gr_nil ?_
        refine gk_endblk ?_
        refine gk_region ?_
        refine gr_v (ev_mv rfl) ?_
        refine gr_v (ev_sub (r := (j : Int) - 1) rfl rfl (by rw [w_i64 (by omega) (by omega)]; omega)) ?_
        refine gr_v (ev_as rfl) ?_
        refine gr_nil ?_
        refine gk_fin fun a ha => ?_
        exact ⟨(j, Sy), ha.keep ⟨rfl, rfl, rfl, rfl, rfl, rfl, rfl, rfl, rfl, rfl, rfl, rfl, rfl, trivial⟩, ⟨hBc, hrest, Nat.le_of_lt hj, hKl.trans hKc⟩, Nat.lt_succ_self j⟩
      · skip
        subst hk0
        obtain rfl := Option.some.inj hdl
        refine gk_seq ?_
        refine gk_seq ?_
        refine gk_region ?_
        refine gr_v (ev_mv rfl) ?_
        refine gr_v (ev_geq rfl rfl) ?_
        refine gr_nil ?_
        refine gk_false rfl (decide_eq_false (by omega)) ?_
        refine gk_exit rfl ?_
        refine gk_region ?_
        refine gr_v (ev_mv rfl) ?_
        refine gr_v (ev_mv rfl) ?_
        refine gr_call (ec_func Tryz.call63 rfl) (c63 m.bools.length F _ bb _ _ _ hBl ha3) ?_
        rintro _ wd ⟨rfl, hBd, hKd⟩
        refine gr_v (ev_as rfl) ?_
        refine gr_nil ?_
        refine gk_fin fun a ha => ?_
        exact ⟨ha.keep ⟨rfl, rfl, rfl, rfl, rfl, rfl, rfl, rfl, rfl, rfl, rfl, rfl, trivial⟩, hBd, (hKl.trans hKd)⟩
  rintro w10 ⟨hB10, hK10⟩
  have hE10 := hE.keep hK10
  clear hB9 h10 hK9 hE9
  refine gk_seq ?_
  refine gk_region ?_
  refine gr_v (ev_as rfl) ?_
  refine gr_nil ?_
  refine gk_seq ?_
  refine gk_seq ?_
  refine gk_region ?_
  refine gr_v (ev_mv rfl) ?_
  refine gr_v (ev_nil rfl) ?_
  refine gr_v (ev_fa (j := 26) rfl Tryz.runUnderlying131 rfl Tryz.sizeOf28 rfl rfl) ?_
  refine gr_v (ev_ld rfl Tryz.isAgg28 (hE10 _ _ hp).2 (by rfl)) ?_
  refine gr_v (ev_rowneq hO.strs2 rfl Tryz.runUnderlying28) ?_
  refine gr_nil ?_
  obtain ⟨r11, S11, h11, hm⟩ := withV_some hm
  refine gk_cutn [(0, ptr p), (1, ptr bb), (5, U r1), (6, U r2), (7, U r3), (8, U r4), (11, U r5), (16, U r6), (21, U r7), (22, U r8), (23, U r9), (24, U r10), (27, U r11)] (fun w' => Bld F w' bb S11 ∧ Keep F w w') ?_ ?_
  · intro Q0 k0
    rcases hO.strs2 with ⟨hl, hv⟩ | ⟨hl, b, o, c, cs, e, fz2, hv, hlc, hcs, hle, hall⟩
    · skip
      have hl0 : m.strs2.length = 0 := by rw [hl]; rfl
      unfold offV at h11
      rw [if_pos hl0] at h11
      obtain ⟨rfl, rfl⟩ := retV_some h11
      refine gk_false rfl (by rw [hl0]; rfl) ?_
      refine gk_skip ?_
      refine gk_fin fun a ha => ?_
      exact ⟨ha.keep ⟨rfl, rfl, rfl, rfl, rfl, rfl, rfl, rfl, rfl, rfl, rfl, rfl, rfl, trivial⟩, hB10, hK10⟩
    · skip
      have hl0 : ¬ m.strs2.length = 0 := fun h => hl (List.length_eq_zero_iff.1 h)
      unfold offV at h11
      rw [if_neg hl0] at h11
      refine gk_true rfl (by rw [bne_iff_ne]; exact hl0) ?_
      have hpv : (cells131 m x)[26]? = some (.slice (some ⟨b, o, none⟩) m.strs2.length c) := congrArg some hv
      obtain ⟨⟨offs, Sa⟩, ha1, h11⟩ := bind_some h11
      simp only at h11
      obtain ⟨rv, Sv, ha2, h11⟩ := withV_some h11
      obtain ⟨Sb, ha3, ha4⟩ := thn_some h11
      have hvn := startVector_bd ha2
      have hol := upE_len ha1
      have hgrow := hB10.grow (.cells (Array.replicate m.strs2.length (U 0)) 65 (0, 0))
      refine gk_seq ?_
      refine gk_region ?_
      refine gr_v (ev_mv rfl) ?_
      refine gr_v (ev_nil rfl) ?_
      refine gr_v (ev_fa (j := 26) rfl Tryz.runUnderlying131 rfl Tryz.sizeOf28 rfl rfl) ?_
      refine gr_v (ev_ld rfl Tryz.isAgg28 (hE10 _ _ hp).2 hpv) ?_
      refine gr_v (ev_len (len := m.strs2.length) rfl ⟨_, rfl, _, Tryz.runUnderlying28⟩) ?_
      refine gr_v (ev_as rfl) ?_
      refine gr_nil ?_
      refine gk_seq ?_
      refine gk_region ?_
      refine gr_v (ev_mv rfl) ?_
      refine gr_v (ev_mk (c := m.strs2.length) (cap' := m.strs2.length) rfl rfl Tryz.runUnderlying107 Tryz.typeInfo65 Tryz.sizeOf65 Tryz.zeroValue65 rfl (by omega) (by omega) (by omega) rfl (by omega) (by omega)) ?_
      refine gr_v (ev_as rfl) ?_
      refine gr_nil ?_
      refine gk_seq ?_
      refine gk_seq ?_
      refine gk_region ?_
      refine gr_v (ev_as rfl) ?_
      refine gr_nil ?_
      refine gk_block ?_
      refine gk_loop (fun i : Nat × List Nat × St => [(0, ptr p), (1, ptr bb), (5, U r1), (6, U r2), (7, U r3), (8, U r4), (11, U r5), (16, U r6), (21, U r7), (22, U r8), (23, U r9), (24, U r10), (28, .int .i64 m.strs2.length), (29, .slice (some ⟨w10.heap.size, 0, none⟩) m.strs2.length m.strs2.length), (30, .int .i64 (i.1 : Int))]) (fun i w' => Bld (plus F w10.heap.size) w' bb i.2.2 ∧ (∃ rest, upE strPK (m.strs2.drop i.1) i.2.2 = some (rest, Sa) ∧ offs = i.2.1 ++ rest) ∧ i.2.1.length = i.1 ∧ i.1 ≤ m.strs2.length ∧ w'.heap[w10.heap.size]? = some (.cells (rowU i.2.1 (List.replicate (m.strs2.length - i.1) (U 0))) 65 (0, 0)) ∧ Keep F w w') (fun i => m.strs2.length - i.1) (0, [], _) ⟨rfl, rfl, rfl, rfl, rfl, rfl, rfl, rfl, rfl, rfl, rfl, rfl, rfl, rfl, rfl, trivial⟩ ⟨hgrow.1, ⟨offs, ha1, rfl⟩, rfl, Nat.zero_le _, (al_new.trans (by simp [rowU]; exact .inr rfl)), (hK10.trans hgrow.2)⟩ ?_
      rintro ⟨i, rs, Sx⟩ wl ⟨hBl, ⟨rest, hup, hro⟩, hrl, hil, harr, hKl⟩
      simp only at hBl hup hro hrl hil harr
      have hEl := hE.keep hKl
      rcases Nat.lt_or_ge i m.strs2.length with hlt | hge
      · skip
        rw [List.drop_eq_getElem_cons hlt] at hup
        obtain ⟨re, Sy, rest2, hf, hup2, rfl⟩ := upE_cons hup
        obtain ⟨y, hy, hR⟩ := hall i hlt
        obtain rfl := hR
        refine gk_seq ?_
        refine gk_seq ?_
        refine gk_region ?_
        refine gr_v (ev_mv rfl) ?_
        refine gr_v (ev_mv rfl) ?_
        refine gr_v (ev_lss rfl rfl) ?_
        refine gr_nil ?_
        refine gk_true rfl (decide_eq_true (by omega)) ?_
        refine gk_skip ?_
        refine gk_seq ?_
        refine gk_block ?_
        refine gk_region ?_
        refine gr_v (ev_mv rfl) ?_
        refine gr_v (ev_mv rfl) ?_
        refine gr_v (ev_mv rfl) ?_
        refine gr_v (ev_mv rfl) ?_
        refine gr_v (ev_nil rfl) ?_
        refine gr_v (ev_fa (j := 26) rfl Tryz.runUnderlying131 rfl Tryz.sizeOf28 rfl rfl) ?_
        refine gr_v (ev_ld rfl Tryz.isAgg28 (hEl _ _ hp).2 hpv) ?_
        refine gr_v (ev_mv rfl) ?_
        refine gr_v (ev_ix (len := m.strs2.length) (a' := o + i) rfl rfl Tryz.runUnderlying28 Tryz.sizeOf9 (by omega) (by omega) (by omega)) ?_
        refine gr_v (ev_ld rfl Tryz.isAgg9 (hEl _ _ hcs).2 hy) ?_
        refine gr_call (ec_func Tryz.call58 rfl) (c58 _ (plus F w10.heap.size) _ bb _ _ _ hBl hf) ?_
        rintro _ wc ⟨rfl, hBc, hKc⟩
        have harr2 := (hKc.1 _ plus_new).trans harr
        refine gr_v (ev_ix (len := m.strs2.length) (a' := i) rfl rfl Tryz.runUnderlying107 Tryz.sizeOf65 (by omega) (by omega) (by omega)) ?_
        refine gr_s (es_st (cs' := rowU (rs ++ [re]) (List.replicate (m.strs2.length - (i + 1)) (U 0))) rfl rfl (by rfl) Tryz.sizeOf65 harr2 (by simp [Nat.blt_eq, rowU]; omega) (rowU_next hlt hrl)) ?_
        refine gr_nil ?_
        refine gk_endblk ?_
        refine gk_region ?_
        refine gr_v (ev_mv rfl) ?_
        refine gr_v (ev_add (r := ((i + 1 : Nat) : Int)) rfl rfl (by rw [w_i64 (by omega) (by omega)]; omega)) ?_
        refine gr_v (ev_as rfl) ?_
        refine gr_nil ?_
        refine gk_fin fun a ha => ?_
        exact ⟨(i + 1, rs ++ [re], Sy), ha.keep ⟨rfl, rfl, rfl, rfl, rfl, rfl, rfl, rfl, rfl, rfl, rfl, rfl, rfl, rfl, rfl, trivial⟩, ⟨hBc.put plus_new _, ⟨rest2, hup2, (by rw [hro]; simp)⟩, (by simp [hrl]), hlt, sb_same harr2, (hKl.trans (hKc.mono plus_of)).trans (Keep.put fun h => Nat.lt_irrefl _ (hB10.lt _ h))⟩, (by show m.strs2.length - (i + 1) < m.strs2.length - i; omega)⟩
      · skip
        obtain rfl : i = m.strs2.length := by omega
        simp only [List.drop_length, upE, Option.some.injEq, Prod.mk.injEq] at hup
        obtain ⟨rfl, rfl⟩ := hup
        simp only [List.append_nil] at hro
        subst hro
        refine gk_seq ?_
        refine gk_seq ?_
        refine gk_region ?_
        refine gr_v (ev_mv rfl) ?_
        refine gr_v (ev_mv rfl) ?_
        refine gr_v (ev_lss rfl rfl) ?_
        refine gr_nil ?_
        refine gk_false rfl (decide_eq_false (by omega)) ?_
        refine gk_exit rfl ?_
        refine gk_seq ?_
        refine gk_region ?_
        refine gr_v (ev_mv rfl) ?_
        refine gr_v (ev_mv rfl) ?_
        refine gr_call (ec_func Tryz.call69 rfl) (c69 m.strs2.length (plus F w10.heap.size) _ bb _ _ _ hBl ha2) ?_
        rintro _ wa ⟨rfl, hBa, hKa⟩
        have harra := (hKa.1 _ plus_new).trans harr
        refine gr_nil ?_
        refine gk_seq ?_
        refine gk_seq ?_
        refine gk_region ?_
        refine gr_v (ev_mv rfl) ?_
        refine gr_v (ev_sub rfl rfl (w_i64 (by omega) (by omega))) ?_
        refine gr_v (ev_as rfl) ?_
        refine gr_nil ?_
        refine gk_block ?_
        refine gk_loop (fun i : Nat × St => [(0, ptr p), (1, ptr bb), (5, U r1), (6, U r2), (7, U r3), (8, U r4), (11, U r5), (16, U r6), (21, U r7), (22, U r8), (23, U r9), (24, U r10), (28, .int .i64 m.strs2.length), (29, .slice (some ⟨w10.heap.size, 0, none⟩) m.strs2.length m.strs2.length), (31, .int .i64 ((i.1 : Int) - 1))]) (fun i w' => Bld (plus F w10.heap.size) w' bb i.2 ∧ downE prependU offs i.1 i.2 = some Sb ∧ i.1 ≤ m.strs2.length ∧ w'.heap[w10.heap.size]? = some (.cells (rowU offs (List.replicate (m.strs2.length - m.strs2.length) (U 0))) 65 (0, 0)) ∧ Keep F w w') (fun i => i.1) (m.strs2.length, Sv) ⟨rfl, rfl, rfl, rfl, rfl, rfl, rfl, rfl, rfl, rfl, rfl, rfl, rfl, rfl, rfl, trivial⟩ ⟨hBa, ha3, Nat.le_refl _, harra, hKl.trans (hKa.mono plus_of)⟩ ?_
        clear hBl hKl harr
        rintro ⟨k, Sx⟩ wl2 ⟨hBl, hdl, hkl, harr, hKl⟩
        simp only at hBl hdl hkl harr
        rcases (Nat.eq_zero_or_pos k).symm with hk0 | hk0
        · skip
          obtain ⟨j, rfl⟩ : ∃ j, k = j + 1 := ⟨k - 1, by omega⟩
          obtain ⟨hj, Sy, hf, hrest⟩ := downE_succ hdl
          refine gk_seq ?_
          refine gk_seq ?_
          refine gk_region ?_
          refine gr_v (ev_mv rfl) ?_
          refine gr_v (ev_geq rfl rfl) ?_
          refine gr_nil ?_
          refine gk_true rfl (decide_eq_true (by omega)) ?_
          refine gk_skip ?_
          refine gk_seq ?_
          refine gk_block ?_
          refine gk_region ?_
          refine gr_v (ev_mv rfl) ?_
          refine gr_v (ev_mv rfl) ?_
          refine gr_v (ev_mv rfl) ?_
          refine gr_v (ev_ix (len := m.strs2.length) (a' := j) rfl rfl Tryz.runUnderlying107 Tryz.sizeOf65 (by omega) (by omega) (by omega)) ?_
          refine gr_v (ev_ld rfl Tryz.isAgg65 harr (rowU_at (by omega))) ?_
          refine gr_call (ec_func Tryz.call46 rfl) (c46 _ (plus F w10.heap.size) _ bb _ _ hBl hf) ?_
          rintro _ wc ⟨rfl, hBc, hKc⟩
          refine gr_nil ?_
          refine gk_endblk ?_
          refine gk_region ?_
          refine gr_v (ev_mv rfl) ?_
          refine gr_v (ev_sub (r := (j : Int) - 1) rfl rfl (by rw [w_i64 (by omega) (by omega)]; omega)) ?_
          refine gr_v (ev_as rfl) ?_
          refine gr_nil ?_
          refine gk_fin fun a ha => ?_
          exact ⟨(j, Sy), ha.keep ⟨rfl, rfl, rfl, rfl, rfl, rfl, rfl, rfl, rfl, rfl, rfl, rfl, rfl, rfl, rfl, trivial⟩, ⟨hBc, hrest, (by show j ≤ m.strs2.length; omega), (hKc.1 _ plus_new).trans harr, hKl.trans (hKc.mono plus_of)⟩, Nat.lt_succ_self j⟩
        · skip
          subst hk0
          obtain rfl := Option.some.inj hdl
          refine gk_seq ?_
          refine gk_seq ?_
          refine gk_region ?_
          refine gr_v (ev_mv rfl) ?_
          refine gr_v (ev_geq rfl rfl) ?_
          refine gr_nil ?_
          refine gk_false rfl (decide_eq_false (by omega)) ?_
          refine gk_exit rfl ?_
          refine gk_region ?_
          refine gr_v (ev_mv rfl) ?_
          refine gr_v (ev_mv rfl) ?_
          refine gr_call (ec_func Tryz.call63 rfl) (c63 m.strs2.length (plus F w10.heap.size) _ bb _ _ _ hBl ha4) ?_
          rintro _ wd ⟨rfl, hBd, hKd⟩
          refine gr_v (ev_as rfl) ?_
          refine gr_nil ?_
          refine gk_fin fun a ha => ?_
          exact ⟨ha.keep ⟨rfl, rfl, rfl, rfl, rfl, rfl, rfl, rfl, rfl, rfl, rfl, rfl, rfl, trivial⟩, (hBd.mono plus_of), (hKl.trans (hKd.mono plus_of))⟩
  rintro w11 ⟨hB11, hK11⟩
  have hE11 := hE.keep hK11
  clear hB10 h11 hK10 hE10
  refine gk_seq ?_
  refine gk_region ?_
  refine gr_v (ev_as rfl) ?_
  refine gr_nil ?_
  refine gk_seq ?_
  refine gk_seq ?_
  refine gk_region ?_
  refine gr_v (ev_mv rfl) ?_
  refine gr_v (ev_nil rfl) ?_
  refine gr_v (ev_fa (j := 27) rfl Tryz.runUnderlying131 rfl Tryz.sizeOf124 rfl rfl) ?_
  refine gr_v (ev_ld rfl Tryz.isAgg124 (hE11 _ _ hp).2 (by rfl)) ?_
  refine gr_v (ev_rowneq hO.abil rfl Tryz.runUnderlying124) ?_
  refine gr_nil ?_
  obtain ⟨r12, S12, h12, hm⟩ := withV_some hm
  refine gk_cutn [(0, ptr p), (1, ptr bb), (5, U r1), (6, U r2), (7, U r3), (8, U r4), (11, U r5), (16, U r6), (21, U r7), (22, U r8), (23, U r9), (24, U r10), (27, U r11), (32, U r12)] (fun w' => Bld F w' bb S12 ∧ Keep F w w') ?_ ?_
  · intro Q0 k0
    rcases hO.abil with ⟨hl, hv⟩ | ⟨hl, b, o, c, cs, e, fz2, hv, hlc, hcs, hle, hall⟩
    · skip
      have hl0 : m.abil.length = 0 := by rw [hl]; rfl
      unfold vecI at h12
      rw [if_pos hl0] at h12
      obtain ⟨rfl, rfl⟩ := retV_some h12
      refine gk_false rfl (by rw [hl0]; rfl) ?_
      refine gk_skip ?_
      refine gk_fin fun a ha => ?_
      exact ⟨ha.keep ⟨rfl, rfl, rfl, rfl, rfl, rfl, rfl, rfl, rfl, rfl, rfl, rfl, rfl, rfl, trivial⟩, hB11, hK11⟩
    · skip
      have hl0 : ¬ m.abil.length = 0 := fun h => hl (List.length_eq_zero_iff.1 h)
      unfold vecI at h12
      rw [if_neg hl0] at h12
      refine gk_true rfl (by rw [bne_iff_ne]; exact hl0) ?_
      have hpv : (cells131 m x)[27]? = some (.slice (some ⟨b, o, none⟩) m.abil.length c) := congrArg some hv
      obtain ⟨rv, Sa, ha1, h12⟩ := withV_some h12
      obtain ⟨Sb, ha2, ha3⟩ := thn_some h12
      have hvn := startVector_bd ha1
      refine gk_seq ?_
      refine gk_region ?_
      refine gr_v (ev_mv rfl) ?_
      refine gr_v (ev_nil rfl) ?_
      refine gr_v (ev_fa (j := 27) rfl Tryz.runUnderlying131 rfl Tryz.sizeOf124 rfl rfl) ?_
      refine gr_v (ev_ld rfl Tryz.isAgg124 (hE11 _ _ hp).2 hpv) ?_
      refine gr_v (ev_len (len := m.abil.length) rfl ⟨_, rfl, _, Tryz.runUnderlying124⟩) ?_
      refine gr_v (ev_as rfl) ?_
      refine gr_nil ?_
      refine gk_seq ?_
      refine gk_region ?_
      refine gr_v (ev_mv rfl) ?_
      refine gr_v (ev_mv rfl) ?_
      refine gr_call (ec_func Tryz.call70 rfl) (c70 m.abil.length F _ bb _ _ _ hB11 ha1) ?_
      rintro _ wa ⟨rfl, hBa, hKa⟩
      refine gr_nil ?_
      refine gk_seq ?_
      refine gk_seq ?_
      refine gk_region ?_
      refine gr_v (ev_mv rfl) ?_
      refine gr_v (ev_sub rfl rfl (w_i64 (by omega) (by omega))) ?_
      refine gr_v (ev_as rfl) ?_
      refine gr_nil ?_
      refine gk_block ?_
      refine gk_loop (fun i : Nat × St => [(0, ptr p), (1, ptr bb), (5, U r1), (6, U r2), (7, U r3), (8, U r4), (11, U r5), (16, U r6), (21, U r7), (22, U r8), (23, U r9), (24, U r10), (27, U r11), (33, .int .i64 m.abil.length), (34, .int .i64 ((i.1 : Int) - 1))]) (fun i w' => Bld F w' bb i.2 ∧ downE (fun ab => dropV (abilPK ab)) m.abil i.1 i.2 = some Sb ∧ i.1 ≤ m.abil.length ∧ Keep F w w') (fun i => i.1) (m.abil.length, Sa) ⟨rfl, rfl, rfl, rfl, rfl, rfl, rfl, rfl, rfl, rfl, rfl, rfl, rfl, rfl, rfl, trivial⟩ ⟨hBa, ha2, Nat.le_refl _, (hK11.trans hKa)⟩ ?_
      rintro ⟨k, Sx⟩ wl ⟨hBl, hdl, hkl, hKl⟩
      simp only at hBl hdl hkl
      have hEl := hE.keep hKl
      rcases (Nat.eq_zero_or_pos k).symm with hk0 | hk0
      · skip
        obtain ⟨j, rfl⟩ : ∃ j, k = j + 1 := ⟨k - 1, by omega⟩
        obtain ⟨hj, Sy, hf, hrest⟩ := downE_succ hdl
        obtain ⟨y, hy, hR⟩ := hall j hj
        obtain ⟨rx, hf⟩ := dropV_some hf
        refine gk_seq ?_
        refine gk_seq ?_
        refine gk_region ?_
        refine gr_v (ev_mv rfl) ?_
        refine gr_v (ev_geq rfl rfl) ?_
        refine gr_nil ?_
        refine gk_true rfl (decide_eq_true (by omega)) ?_
        refine gk_skip ?_
        refine gk_seq ?_
        refine gk_block ?_
        refine gk_region ?_
        refine gr_v (ev_mv rfl) ?_
        refine gr_v (ev_nil rfl) ?_
        refine gr_v (ev_fa (j := 27) rfl Tryz.runUnderlying131 rfl Tryz.sizeOf124 rfl rfl) ?_
        refine gr_v (ev_ld rfl Tryz.isAgg124 (hEl _ _ hp).2 hpv) ?_
        refine gr_v (ev_mv rfl) ?_
        refine gr_v (ev_ix (len := m.abil.length) (a' := o + j) rfl rfl Tryz.runUnderlying124 Tryz.sizeOf139 (by omega) (by omega) (by omega)) ?_
        refine gr_v (ev_ld rfl Tryz.isAgg139 (hEl _ _ hcs).2 hy) ?_
        refine gr_v (ev_mv rfl) ?_
        refine gr_call (ec_func Tryz.call71 rfl) (hR F _ bb _ _ _ hEl hBl hf) ?_
        rintro _ wc ⟨rfl, hBc, hKc⟩
        refine gr_nil ?_
        refine gk_endblk ?_
        refine gk_region ?_
        refine gr_v (ev_mv rfl) ?_
        refine gr_v (ev_sub (r := (j : Int) - 1) rfl rfl (by rw [w_i64 (by omega) (by omega)]; omega)) ?_
        refine gr_v (ev_as rfl) ?_
        refine gr_nil ?_
        refine gk_fin fun a ha => ?_
        exact ⟨(j, Sy), ha.keep ⟨rfl, rfl, rfl, rfl, rfl, rfl, rfl, rfl, rfl, rfl, rfl, rfl, rfl, rfl, rfl, trivial⟩, ⟨hBc, hrest, Nat.le_of_lt hj, hKl.trans hKc⟩, Nat.lt_succ_self j⟩
      · skip
        subst hk0
        obtain rfl := Option.some.inj hdl
        refine gk_seq ?_
        refine gk_seq ?_
        refine gk_region ?_
        refine gr_v (ev_mv rfl) ?_
        refine gr_v (ev_geq rfl rfl) ?_
        refine gr_nil ?_
        refine gk_false rfl (decide_eq_false (by omega)) ?_
        refine gk_exit rfl ?_
        refine gk_region ?_
        refine gr_v (ev_mv rfl) ?_
        refine gr_v (ev_mv rfl) ?_
        refine gr_call (ec_func Tryz.call63 rfl) (c63 m.abil.length F _ bb _ _ _ hBl ha3) ?_
        rintro _ wd ⟨rfl, hBd, hKd⟩
        refine gr_v (ev_as rfl) ?_
        refine gr_nil ?_
        refine gk_fin fun a ha => ?_
        exact ⟨ha.keep ⟨rfl, rfl, rfl, rfl, rfl, rfl, rfl, rfl, rfl, rfl, rfl, rfl, rfl, rfl, trivial⟩, hBd, (hKl.trans hKd)⟩
  rintro w12 ⟨hB12, hK12⟩
  have hE12 := hE.keep hK12
  clear hB11 h12 hK11 hE11
  refine gk_seq ?_
  refine gk_region ?_
  refine gr_v (ev_as rfl) ?_
  refine gr_nil ?_
  refine gk_seq ?_
  refine gk_seq ?_
  refine gk_region ?_
  refine gr_v (ev_mv rfl) ?_
  refine gr_v (ev_nil rfl) ?_
  refine gr_v (ev_fa (j := 28) rfl Tryz.runUnderlying131 rfl Tryz.sizeOf69 rfl rfl) ?_
  refine gr_v (ev_ld rfl Tryz.isAgg69 (hE12 _ _ hp).2 (by rfl)) ?_
  refine gr_v (ev_rowneq hO.flex rfl Tryz.runUnderlying69) ?_
  refine gr_nil ?_
  obtain ⟨r13, S13, h13, hm⟩ := withV_some hm
  refine gk_cutn [(0, ptr p), (1, ptr bb), (5, U r1), (6, U r2), (7, U r3), (8, U r4), (11, U r5), (16, U r6), (21, U r7), (22, U r8), (23, U r9), (24, U r10), (27, U r11), (32, U r12), (35, U r13)] (fun w' => Bld F w' bb S13 ∧ Keep F w w') ?_ ?_
  · intro Q0 k0
    rcases hO.flex with ⟨hl, hv⟩ | ⟨hl, b, o, c, cs, e, fz2, hv, hlc, hcs, hle, hall⟩
    · skip
      have hl0 : m.flex.length = 0 := by rw [hl]; rfl
      unfold bytesV at h13
      rw [if_pos hl0] at h13
      obtain ⟨rfl, rfl⟩ := retV_some h13
      refine gk_false rfl (by rw [hl0]; rfl) ?_
      refine gk_skip ?_
      refine gk_fin fun a ha => ?_
      exact ⟨ha.keep ⟨rfl, rfl, rfl, rfl, rfl, rfl, rfl, rfl, rfl, rfl, rfl, rfl, rfl, rfl, rfl, trivial⟩, hB12, hK12⟩
    · skip
      have hl0 : ¬ m.flex.length = 0 := fun h => hl (List.length_eq_zero_iff.1 h)
      unfold bytesV at h13
      rw [if_neg hl0] at h13
      refine gk_true rfl (by rw [bne_iff_ne]; exact hl0) ?_
      have hpv : (cells131 m x)[28]? = some (.slice (some ⟨b, o, none⟩) m.flex.length c) := congrArg some hv
      refine gk_region ?_
      refine gr_v (ev_mv rfl) ?_
      refine gr_v (ev_mv rfl) ?_
      refine gr_v (ev_nil rfl) ?_
      refine gr_v (ev_fa (j := 28) rfl Tryz.runUnderlying131 rfl Tryz.sizeOf69 rfl rfl) ?_
      refine gr_v (ev_ld rfl Tryz.isAgg69 (hE12 _ _ hp).2 hpv) ?_
      refine gr_call (ec_func Tryz.call59 rfl) (c59 m.flex hB12 (hE12 _ _ hcs).1 (hE12 _ _ hcs).2 (row_bytes hle hall) hle h13) ?_
      rintro _ w13 ⟨rfl, hB13, hK13⟩
      refine gr_v (ev_as rfl) ?_
      refine gr_nil ?_
      refine gk_fin fun a ha => ?_
      exact ⟨ha.keep ⟨rfl, rfl, rfl, rfl, rfl, rfl, rfl, rfl, rfl, rfl, rfl, rfl, rfl, rfl, rfl, trivial⟩, hB13, (hK12.trans hK13)⟩
  rintro w13 ⟨hB13, hK13⟩
  have hE13 := hE.keep hK13
  clear hB12 h13 hK12 hE12
  refine gk_seq ?_
  refine gk_region ?_
  refine gr_v (ev_as rfl) ?_
  refine gr_nil ?_
  refine gk_seq ?_
  refine gk_seq ?_
  refine gk_region ?_
  refine gr_v (ev_mv rfl) ?_
  refine gr_v (ev_nil rfl) ?_
  refine gr_v (ev_fa (j := 29) rfl Tryz.runUnderlying131 rfl Tryz.sizeOf113 rfl rfl) ?_
  refine gr_v (ev_ld rfl Tryz.isAgg113 (hE13 _ _ hp).2 (by rfl)) ?_
  refine gr_v (ev_rowneq hO.test5 rfl Tryz.runUnderlying113) ?_
  refine gr_nil ?_
  obtain ⟨r14, S14, h14, hm⟩ := withV_some hm
  refine gk_cutn [(0, ptr p), (1, ptr bb), (5, U r1), (6, U r2), (7, U r3), (8, U r4), (11, U r5), (16, U r6), (21, U r7), (22, U r8), (23, U r9), (24, U r10), (27, U r11), (32, U r12), (35, U r13), (36, U r14)] (fun w' => Bld F w' bb S14 ∧ Keep F w w') ?_ ?_
  · intro Q0 k0
    rcases hO.test5 with ⟨hl, hv⟩ | ⟨hl, b, o, c, cs, e, fz2, hv, hlc, hcs, hle, hall⟩
    · skip
      have hl0 : m.test5.length = 0 := by rw [hl]; rfl
      unfold vecI at h14
      rw [if_pos hl0] at h14
      obtain ⟨rfl, rfl⟩ := retV_some h14
      refine gk_false rfl (by rw [hl0]; rfl) ?_
      refine gk_skip ?_
      refine gk_fin fun a ha => ?_
      exact ⟨ha.keep ⟨rfl, rfl, rfl, rfl, rfl, rfl, rfl, rfl, rfl, rfl, rfl, rfl, rfl, rfl, rfl, rfl, trivial⟩, hB13, hK13⟩
    · skip
      have hl0 : ¬ m.test5.length = 0 := fun h => hl (List.length_eq_zero_iff.1 h)
      unfold vecI at h14
      rw [if_neg hl0] at h14
      refine gk_true rfl (by rw [bne_iff_ne]; exact hl0) ?_
      have hpv : (cells131 m x)[29]? = some (.slice (some ⟨b, o, none⟩) m.test5.length c) := congrArg some hv
      obtain ⟨rv, Sa, ha1, h14⟩ := withV_some h14
      obtain ⟨Sb, ha2, ha3⟩ := thn_some h14
      have hvn := startVector_bd ha1
      refine gk_seq ?_
      refine gk_region ?_
      refine gr_v (ev_mv rfl) ?_
      refine gr_v (ev_nil rfl) ?_
      refine gr_v (ev_fa (j := 29) rfl Tryz.runUnderlying131 rfl Tryz.sizeOf113 rfl rfl) ?_
      refine gr_v (ev_ld rfl Tryz.isAgg113 (hE13 _ _ hp).2 hpv) ?_
      refine gr_v (ev_len (len := m.test5.length) rfl ⟨_, rfl, _, Tryz.runUnderlying113⟩) ?_
      refine gr_v (ev_as rfl) ?_
      refine gr_nil ?_
      refine gk_seq ?_
      refine gk_region ?_
      refine gr_v (ev_mv rfl) ?_
      refine gr_v (ev_mv rfl) ?_
      refine gr_call (ec_func Tryz.call72 rfl) (c72 m.test5.length F _ bb _ _ _ hB13 ha1) ?_
      rintro _ wa ⟨rfl, hBa, hKa⟩
      refine gr_nil ?_
      refine gk_seq ?_
      refine gk_seq ?_
      refine gk_region ?_
      refine gr_v (ev_mv rfl) ?_
      refine gr_v (ev_sub rfl rfl (w_i64 (by omega) (by omega))) ?_
      refine gr_v (ev_as rfl) ?_
      refine gr_nil ?_
      refine gk_block ?_
      refine gk_loop (fun i : Nat × St => [(0, ptr p), (1, ptr bb), (5, U r1), (6, U r2), (7, U r3), (8, U r4), (11, U r5), (16, U r6), (21, U r7), (22, U r8), (23, U r9), (24, U r10), (27, U r11), (32, U r12), (35, U r13), (37, .int .i64 m.test5.length), (38, .int .i64 ((i.1 : Int) - 1))]) (fun i w' => Bld F w' bb i.2 ∧ downE (fun ab => dropV (testPK ab)) m.test5 i.1 i.2 = some Sb ∧ i.1 ≤ m.test5.length ∧ Keep F w w') (fun i => i.1) (m.test5.length, Sa) ⟨rfl, rfl, rfl, rfl, rfl, rfl, rfl, rfl, rfl, rfl, rfl, rfl, rfl, rfl, rfl, rfl, rfl, trivial⟩ ⟨hBa, ha2, Nat.le_refl _, (hK13.trans hKa)⟩ ?_
      rintro ⟨k, Sx⟩ wl ⟨hBl, hdl, hkl, hKl⟩
      simp only at hBl hdl hkl
      have hEl := hE.keep hKl
      rcases (Nat.eq_zero_or_pos k).symm with hk0 | hk0
      · skip
        obtain ⟨j, rfl⟩ : ∃ j, k = j + 1 := ⟨k - 1, by omega⟩
        obtain ⟨hj, Sy, hf, hrest⟩ := downE_succ hdl
        obtain ⟨y, hy, hR⟩ := hall j hj
        obtain ⟨rx, hf⟩ := dropV_some hf
        refine gk_seq ?_
        refine gk_seq ?_
        refine gk_region ?_
        refine gr_v (ev_mv rfl) ?_
        refine gr_v (ev_geq rfl rfl) ?_
        refine gr_nil ?_
        refine gk_true rfl (decide_eq_true (by omega)) ?_
        refine gk_skip ?_
        refine gk_seq ?_
        refine gk_block ?_
        refine gk_region ?_
        refine gr_v (ev_mv rfl) ?_
        refine gr_v (ev_nil rfl) ?_
        refine gr_v (ev_fa (j := 29) rfl Tryz.runUnderlying131 rfl Tryz.sizeOf113 rfl rfl) ?_
        refine gr_v (ev_ld rfl Tryz.isAgg113 (hEl _ _ hp).2 hpv) ?_
        refine gr_v (ev_mv rfl) ?_
        refine gr_v (ev_ix (len := m.test5.length) (a' := o + j) rfl rfl Tryz.runUnderlying113 Tryz.sizeOf134 (by omega) (by omega) (by omega)) ?_
        refine gr_v (ev_ld rfl Tryz.isAgg134 (hEl _ _ hcs).2 hy) ?_
        refine gr_v (ev_mv rfl) ?_
        refine gr_call (ec_func Tryz.call62 rfl) (hR F _ bb _ _ _ hEl hBl hf) ?_
        rintro _ wc ⟨rfl, hBc, hKc⟩
        refine gr_nil ?_
        refine gk_endblk ?_
        refine gk_region ?_
        refine gr_v (ev_mv rfl) ?_
        refine gr_v (ev_sub (r := (j : Int) - 1) rfl rfl (by rw [w_i64 (by omega) (by omega)]; omega)) ?_
        refine gr_v (ev_as rfl) ?_
        refine gr_nil ?_
        refine gk_fin fun a ha => ?_
        exact ⟨(j, Sy), ha.keep ⟨rfl, rfl, rfl, rfl, rfl, rfl, rfl, rfl, rfl, rfl, rfl, rfl, rfl, rfl, rfl, rfl, rfl, trivial⟩, ⟨hBc, hrest, Nat.le_of_lt hj, hKl.trans hKc⟩, Nat.lt_succ_self j⟩
      · skip
        subst hk0
        obtain rfl := Option.some.inj hdl
        refine gk_seq ?_
        refine gk_seq ?_
        refine gk_region ?_
        refine gr_v (ev_mv rfl) ?_
        refine gr_v (ev_geq rfl rfl) ?_
        refine gr_nil ?_
        refine gk_false rfl (decide_eq_false (by omega)) ?_
        refine gk_exit rfl ?_
        refine gk_region ?_
        refine gr_v (ev_mv rfl) ?_
        refine gr_v (ev_mv rfl) ?_
        refine gr_call (ec_func Tryz.call63 rfl) (c63 m.test5.length F _ bb _ _ _ hBl ha3) ?_
        rintro _ wd ⟨rfl, hBd, hKd⟩
        refine gr_v (ev_as rfl) ?_
        refine gr_nil ?_
        refine gk_fin fun a ha => ?_
        exact ⟨ha.keep ⟨rfl, rfl, rfl, rfl, rfl, rfl, rfl, rfl, rfl, rfl, rfl, rfl, rfl, rfl, rfl, rfl, trivial⟩, hBd, (hKl.trans hKd)⟩
  rintro w14 ⟨hB14, hK14⟩
  have hE14 := hE.keep hK14
  clear hB13 h14 hK13 hE13
  refine gk_seq ?_
  refine gk_region ?_
  refine gr_v (ev_as rfl) ?_
  refine gr_nil ?_
  refine gk_seq ?_
  refine gk_seq ?_
  refine gk_region ?_
  refine gr_v (ev_mv rfl) ?_
  refine gr_v (ev_nil rfl) ?_
  refine gr_v (ev_fa (j := 30) rfl Tryz.runUnderlying131 rfl Tryz.sizeOf34 rfl rfl) ?_
  refine gr_v (ev_ld rfl Tryz.isAgg34 (hE14 _ _ hp).2 (by rfl)) ?_
  refine gr_v (ev_rowneq hO.longs rfl Tryz.runUnderlying34) ?_
  refine gr_nil ?_
  obtain ⟨r15, S15, h15, hm⟩ := withV_some hm
  refine gk_cutn [(0, ptr p), (1, ptr bb), (5, U r1), (6, U r2), (7, U r3), (8, U r4), (11, U r5), (16, U r6), (21, U r7), (22, U r8), (23, U r9), (24, U r10), (27, U r11), (32, U r12), (35, U r13), (36, U r14), (39, U r15)] (fun w' => Bld F w' bb S15 ∧ Keep F w w') ?_ ?_
  · intro Q0 k0
    rcases hO.longs with ⟨hl, hv⟩ | ⟨hl, b, o, c, cs, e, fz2, hv, hlc, hcs, hle, hall⟩
    · skip
      have hl0 : m.longs.length = 0 := by rw [hl]; rfl
      unfold vecI at h15
      rw [if_pos hl0] at h15
      obtain ⟨rfl, rfl⟩ := retV_some h15
      refine gk_false rfl (by rw [hl0]; rfl) ?_
      refine gk_skip ?_
      refine gk_fin fun a ha => ?_
      exact ⟨ha.keep ⟨rfl, rfl, rfl, rfl, rfl, rfl, rfl, rfl, rfl, rfl, rfl, rfl, rfl, rfl, rfl, rfl, rfl, trivial⟩, hB14, hK14⟩
    · skip
      have hl0 : ¬ m.longs.length = 0 := fun h => hl (List.length_eq_zero_iff.1 h)
      unfold vecI at h15
      rw [if_neg hl0] at h15
      refine gk_true rfl (by rw [bne_iff_ne]; exact hl0) ?_
      have hpv : (cells131 m x)[30]? = some (.slice (some ⟨b, o, none⟩) m.longs.length c) := congrArg some hv
      obtain ⟨rv, Sa, ha1, h15⟩ := withV_some h15
      obtain ⟨Sb, ha2, ha3⟩ := thn_some h15
      have hvn := startVector_bd ha1
      refine gk_seq ?_
      refine gk_region ?_
      refine gr_v (ev_mv rfl) ?_
      refine gr_v (ev_nil rfl) ?_
      refine gr_v (ev_fa (j := 30) rfl Tryz.runUnderlying131 rfl Tryz.sizeOf34 rfl rfl) ?_
      refine gr_v (ev_ld rfl Tryz.isAgg34 (hE14 _ _ hp).2 hpv) ?_
      refine gr_v (ev_len (len := m.longs.length) rfl ⟨_, rfl, _, Tryz.runUnderlying34⟩) ?_
      refine gr_v (ev_as rfl) ?_
      refine gr_nil ?_
      refine gk_seq ?_
      refine gk_region ?_
      refine gr_v (ev_mv rfl) ?_
      refine gr_v (ev_mv rfl) ?_
      refine gr_call (ec_func Tryz.call73 rfl) (c73 m.longs.length F _ bb _ _ _ hB14 ha1) ?_
      rintro _ wa ⟨rfl, hBa, hKa⟩
      refine gr_nil ?_
      refine gk_seq ?_
      refine gk_seq ?_
      refine gk_region ?_
      refine gr_v (ev_mv rfl) ?_
      refine gr_v (ev_sub rfl rfl (w_i64 (by omega) (by omega))) ?_
      refine gr_v (ev_as rfl) ?_
      refine gr_nil ?_
      refine gk_block ?_
      refine gk_loop (fun i : Nat × St => [(0, ptr p), (1, ptr bb), (5, U r1), (6, U r2), (7, U r3), (8, U r4), (11, U r5), (16, U r6), (21, U r7), (22, U r8), (23, U r9), (24, U r10), (27, U r11), (32, U r12), (35, U r13), (36, U r14), (40, .int .i64 m.longs.length), (41, .int .i64 ((i.1 : Int) - 1))]) (fun i w' => Bld F w' bb i.2 ∧ downE (fun n => prepend 8 (le8 n)) m.longs i.1 i.2 = some Sb ∧ i.1 ≤ m.longs.length ∧ Keep F w w') (fun i => i.1) (m.longs.length, Sa) ⟨rfl, rfl, rfl, rfl, rfl, rfl, rfl, rfl, rfl, rfl, rfl, rfl, rfl, rfl, rfl, rfl, rfl, rfl, trivial⟩ ⟨hBa, ha2, Nat.le_refl _, (hK14.trans hKa)⟩ ?_
      rintro ⟨k, Sx⟩ wl ⟨hBl, hdl, hkl, hKl⟩
      simp only at hBl hdl hkl
      have hEl := hE.keep hKl
      rcases (Nat.eq_zero_or_pos k).symm with hk0 | hk0
      · skip
        obtain ⟨j, rfl⟩ : ∃ j, k = j + 1 := ⟨k - 1, by omega⟩
        obtain ⟨hj, Sy, hf, hrest⟩ := downE_succ hdl
        obtain ⟨y, hy, hR⟩ := hall j hj
        obtain rfl := hR
        refine gk_seq ?_
        refine gk_seq ?_
        refine gk_region ?_
        refine gr_v (ev_mv rfl) ?_
        refine gr_v (ev_geq rfl rfl) ?_
        refine gr_nil ?_
        refine gk_true rfl (decide_eq_true (by omega)) ?_
        refine gk_skip ?_
        refine gk_seq ?_
        refine gk_block ?_
        refine gk_region ?_
        refine gr_v (ev_mv rfl) ?_
        refine gr_v (ev_mv rfl) ?_
        refine gr_v (ev_nil rfl) ?_
        refine gr_v (ev_fa (j := 30) rfl Tryz.runUnderlying131 rfl Tryz.sizeOf34 rfl rfl) ?_
        refine gr_v (ev_ld rfl Tryz.isAgg34 (hEl _ _ hp).2 hpv) ?_
        refine gr_v (ev_mv rfl) ?_
        refine gr_v (ev_ix (len := m.longs.length) (a' := o + j) rfl rfl Tryz.runUnderlying34 Tryz.sizeOf2 (by omega) (by omega) (by omega)) ?_
        refine gr_v (ev_ld rfl Tryz.isAgg2 (hEl _ _ hcs).2 hy) ?_
        refine gr_call (ec_func Tryz.call74 rfl) (c74 _ F _ bb _ _ hBl hf) ?_
        rintro _ wc ⟨rfl, hBc, hKc⟩
        refine gr_nil ?_
        refine gk_endblk ?_
        refine gk_region ?_
        refine gr_v (ev_mv rfl) ?_
        refine gr_v (ev_sub (r := (j : Int) - 1) rfl rfl (by rw [w_i64 (by omega) (by omega)]; omega)) ?_
        refine gr_v (ev_as rfl) ?_
        refine gr_nil ?_
        refine gk_fin fun a ha => ?_
        exact ⟨(j, Sy), ha.keep ⟨rfl, rfl, rfl, rfl, rfl, rfl, rfl, rfl, rfl, rfl, rfl, rfl, rfl, rfl, rfl, rfl, rfl, rfl, trivial⟩, ⟨hBc, hrest, Nat.le_of_lt hj, hKl.trans hKc⟩, Nat.lt_succ_self j⟩
      · skip
        subst hk0
        obtain rfl := Option.some.inj hdl
        refine gk_seq ?_
        refine gk_seq ?_
        refine gk_region ?_
        refine gr_v (ev_mv rfl) ?_
        refine gr_v (ev_geq rfl rfl) ?_
        refine gr_nil ?_
        refine gk_false rfl (decide_eq_false (by omega)) ?_
        refine gk_exit rfl ?_
        refine gk_region ?_
        refine gr_v (ev_mv rfl) ?_
        refine gr_v (ev_mv rfl) ?_
        refine gr_call (ec_func Tryz.call63 rfl) (c63 m.longs.length F _ bb _ _ _ hBl ha3) ?_
        rintro _ wd ⟨rfl, hBd, hKd⟩
        refine gr_v (ev_as rfl) ?_
        refine gr_nil ?_
        refine gk_fin fun a ha => ?_
        exact ⟨ha.keep ⟨rfl, rfl, rfl, rfl, rfl, rfl, rfl, rfl, rfl, rfl, rfl, rfl, rfl, rfl, rfl, rfl, rfl, trivial⟩, hBd, (hKl.trans hKd)⟩
  rintro w15 ⟨hB15, hK15⟩
  have hE15 := hE.keep hK15
  clear hB14 h15 hK14 hE14
  refine gk_seq ?_
  refine gk_region ?_
  refine gr_v (ev_as rfl) ?_
  refine gr_nil ?_
  refine gk_seq ?_
  refine gk_seq ?_
  refine gk_region ?_
  refine gr_v (ev_mv rfl) ?_
  refine gr_v (ev_nil rfl) ?_
  refine gr_v (ev_fa (j := 31) rfl Tryz.runUnderlying131 rfl Tryz.sizeOf125 rfl rfl) ?_
  refine gr_v (ev_ld rfl Tryz.isAgg125 (hE15 _ _ hp).2 (by rfl)) ?_
  refine gr_v (ev_rowneq hO.doubles rfl Tryz.runUnderlying125) ?_
  refine gr_nil ?_
  obtain ⟨r16, S16, h16, hm⟩ := withV_some hm
  refine gk_cutn [(0, ptr p), (1, ptr bb), (5, U r1), (6, U r2), (7, U r3), (8, U r4), (11, U r5), (16, U r6), (21, U r7), (22, U r8), (23, U r9), (24, U r10), (27, U r11), (32, U r12), (35, U r13), (36, U r14), (39, U r15), (42, U r16)] (fun w' => Bld F w' bb S16 ∧ Keep F w w') ?_ ?_
  · intro Q0 k0
    rcases hO.doubles with ⟨hl, hv⟩ | ⟨hl, b, o, c, cs, e, fz2, hv, hlc, hcs, hle, hall⟩
    · skip
      have hl0 : m.doubles.length = 0 := by rw [hl]; rfl
      unfold vecI at h16
      rw [if_pos hl0] at h16
      obtain ⟨rfl, rfl⟩ := retV_some h16
      refine gk_false rfl (by rw [hl0]; rfl) ?_
      refine gk_skip ?_
      refine gk_fin fun a ha => ?_
      exact ⟨ha.keep ⟨rfl, rfl, rfl, rfl, rfl, rfl, rfl, rfl, rfl, rfl, rfl, rfl, rfl, rfl, rfl, rfl, rfl, rfl, trivial⟩, hB15, hK15⟩
    · skip
      have hl0 : ¬ m.doubles.length = 0 := fun h => hl (List.length_eq_zero_iff.1 h)
      unfold vecI at h16
      rw [if_neg hl0] at h16
      refine gk_true rfl (by rw [bne_iff_ne]; exact hl0) ?_
      have hpv : (cells131 m x)[31]? = some (.slice (some ⟨b, o, none⟩) m.doubles.length c) := congrArg some hv
      obtain ⟨rv, Sa, ha1, h16⟩ := withV_some h16
      obtain ⟨Sb, ha2, ha3⟩ := thn_some h16
      have hvn := startVector_bd ha1
      refine gk_seq ?_
      refine gk_region ?_
      refine gr_v (ev_mv rfl) ?_
      refine gr_v (ev_nil rfl) ?_
      refine gr_v (ev_fa (j := 31) rfl Tryz.runUnderlying131 rfl Tryz.sizeOf125 rfl rfl) ?_
      refine gr_v (ev_ld rfl Tryz.isAgg125 (hE15 _ _ hp).2 hpv) ?_
      refine gr_v (ev_len (len := m.doubles.length) rfl ⟨_, rfl, _, Tryz.runUnderlying125⟩) ?_
      refine gr_v (ev_as rfl) ?_
      refine gr_nil ?_
      refine gk_seq ?_
      refine gk_region ?_
      refine gr_v (ev_mv rfl) ?_
      refine gr_v (ev_mv rfl) ?_
      refine gr_call (ec_func Tryz.call75 rfl) (c75 m.doubles.length F _ bb _ _ _ hB15 ha1) ?_
      rintro _ wa ⟨rfl, hBa, hKa⟩
      refine gr_nil ?_
      refine gk_seq ?_
      refine gk_seq ?_
      refine gk_region ?_
      refine gr_v (ev_mv rfl) ?_
      refine gr_v (ev_sub rfl rfl (w_i64 (by omega) (by omega))) ?_
      refine gr_v (ev_as rfl) ?_
      refine gr_nil ?_
      refine gk_block ?_
      refine gk_loop (fun i : Nat × St => [(0, ptr p), (1, ptr bb), (5, U r1), (6, U r2), (7, U r3), (8, U r4), (11, U r5), (16, U r6), (21, U r7), (22, U r8), (23, U r9), (24, U r10), (27, U r11), (32, U r12), (35, U r13), (36, U r14), (39, U r15), (43, .int .i64 m.doubles.length), (44, .int .i64 ((i.1 : Int) - 1))]) (fun i w' => Bld F w' bb i.2 ∧ downE (fun n : Nat => prepend 8 (le8 n)) m.doubles i.1 i.2 = some Sb ∧ i.1 ≤ m.doubles.length ∧ Keep F w w') (fun i => i.1) (m.doubles.length, Sa) ⟨rfl, rfl, rfl, rfl, rfl, rfl, rfl, rfl, rfl, rfl, rfl, rfl, rfl, rfl, rfl, rfl, rfl, rfl, rfl, trivial⟩ ⟨hBa, ha2, Nat.le_refl _, (hK15.trans hKa)⟩ ?_
      rintro ⟨k, Sx⟩ wl ⟨hBl, hdl, hkl, hKl⟩
      simp only at hBl hdl hkl
      have hEl := hE.keep hKl
      rcases (Nat.eq_zero_or_pos k).symm with hk0 | hk0
      · skip
        obtain ⟨j, rfl⟩ : ∃ j, k = j + 1 := ⟨k - 1, by omega⟩
        obtain ⟨hj, Sy, hf, hrest⟩ := downE_succ hdl
        obtain ⟨y, hy, hR⟩ := hall j hj
        obtain rfl := hR
        refine gk_seq ?_
        refine gk_seq ?_
        refine gk_region ?_
        refine gr_v (ev_mv rfl) ?_
        refine gr_v (ev_geq rfl rfl) ?_
        refine gr_nil ?_
        refine gk_true rfl (decide_eq_true (by omega)) ?_
        refine gk_skip ?_
        refine gk_seq ?_
        refine gk_block ?_
        refine gk_region ?_
        refine gr_v (ev_mv rfl) ?_
        refine gr_v (ev_mv rfl) ?_
        refine gr_v (ev_nil rfl) ?_
        refine gr_v (ev_fa (j := 31) rfl Tryz.runUnderlying131 rfl Tryz.sizeOf125 rfl rfl) ?_
        refine gr_v (ev_ld rfl Tryz.isAgg125 (hEl _ _ hp).2 hpv) ?_
        refine gr_v (ev_mv rfl) ?_
        refine gr_v (ev_ix (len := m.doubles.length) (a' := o + j) rfl rfl Tryz.runUnderlying125 Tryz.sizeOf132 (by omega) (by omega) (by omega)) ?_
        refine gr_v (ev_ld rfl Tryz.isAgg132 (hEl _ _ hcs).2 hy) ?_
        refine gr_call (ec_func Tryz.call76 rfl) (c76 _ F _ bb _ _ hBl hf) ?_
        rintro _ wc ⟨rfl, hBc, hKc⟩
        refine gr_nil ?_
        refine gk_endblk ?_
        refine gk_region ?_
        refine gr_v (ev_mv rfl) ?_
        refine gr_v (ev_sub (r := (j : Int) - 1) rfl rfl (by rw [w_i64 (by omega) (by omega)]; omega)) ?_
        refine gr_v (ev_as rfl) ?_
        refine gr_nil ?_
        refine gk_fin fun a ha => ?_
        exact ⟨(j, Sy), ha.keep ⟨rfl, rfl, rfl, rfl, rfl, rfl, rfl, rfl, rfl, rfl, rfl, rfl, rfl, rfl, rfl, rfl, rfl, rfl, rfl, trivial⟩, ⟨hBc, hrest, Nat.le_of_lt hj, hKl.trans hKc⟩, Nat.lt_succ_self j⟩
      · skip
        subst hk0
        obtain rfl := Option.some.inj hdl
        refine gk_seq ?_
        refine gk_seq ?_
        refine gk_region ?_
        refine gr_v (ev_mv rfl) ?_
        refine gr_v (ev_geq rfl rfl) ?_
        refine gr_nil ?_
        refine gk_false rfl (decide_eq_false (by omega)) ?_
        refine gk_exit rfl ?_
        refine gk_region ?_
        refine gr_v (ev_mv rfl) ?_
        refine gr_v (ev_mv rfl) ?_
        refine gr_call (ec_func Tryz.call63 rfl) (c63 m.doubles.length F _ bb _ _ _ hBl ha3) ?_
        rintro _ wd ⟨rfl, hBd, hKd⟩
        refine gr_v (ev_as rfl) ?_
        refine gr_nil ?_
        refine gk_fin fun a ha => ?_
        exact ⟨ha.keep ⟨rfl, rfl, rfl, rfl, rfl, rfl, rfl, rfl, rfl, rfl, rfl, rfl, rfl, rfl, rfl, rfl, rfl, rfl, trivial⟩, hBd, (hKl.trans hKd)⟩
  rintro w16 ⟨hB16, hK16⟩
  have hE16 := hE.keep hK16
  clear hB15 h16 hK15 hE15
  refine gk_seq ?_
  refine gk_region ?_
  refine gr_v (ev_mv rfl) ?_
  refine gr_v (ev_nil rfl) ?_
  refine gr_v (ev_fa (j := 32) rfl Tryz.runUnderlying131 rfl Tryz.sizeOf126 rfl rfl) ?_
  refine gr_v (ev_ld rfl Tryz.isAgg126 (hE16 _ _ hp).2 (by rfl)) ?_
  refine gr_v (ev_mv rfl) ?_
  obtain ⟨r17, S17, h17, hm⟩ := withV_some hm
  refine gr_call (ec_func Tryz.call77 rfl) (hO.parent F _ bb _ _ _ hE16 hB16 h17) ?_
  rintro _ w17 ⟨rfl, hB17, hK17⟩
  have hE17 := hE16.keep hK17
  replace hK17 := (hK16.trans hK17)
  clear hB16 h17 hK16 hE16
  refine gr_v (ev_as rfl) ?_
  refine gr_nil ?_
  refine gk_seq ?_
  refine gk_region ?_
  refine gr_v (ev_as rfl) ?_
  refine gr_nil ?_
  refine gk_seq ?_
  refine gk_seq ?_
  refine gk_region ?_
  refine gr_v (ev_mv rfl) ?_
  refine gr_v (ev_nil rfl) ?_
  refine gr_v (ev_fa (j := 33) rfl Tryz.runUnderlying131 rfl Tryz.sizeOf117 rfl rfl) ?_
  refine gr_v (ev_ld rfl Tryz.isAgg117 (hE17 _ _ hp).2 (by rfl)) ?_
  refine gr_v (ev_rowneq hO.refs rfl Tryz.runUnderlying117) ?_
  refine gr_nil ?_
  obtain ⟨r18, S18, h18, hm⟩ := withV_some hm
  refine gk_cutn [(0, ptr p), (1, ptr bb), (5, U r1), (6, U r2), (7, U r3), (8, U r4), (11, U r5), (16, U r6), (21, U r7), (22, U r8), (23, U r9), (24, U r10), (27, U r11), (32, U r12), (35, U r13), (36, U r14), (39, U r15), (42, U r16), (45, U r17), (46, U r18)] (fun w' => Bld F w' bb S18 ∧ Keep F w w') ?_ ?_
  · intro Q0 k0
    rcases hO.refs with ⟨hl, hv⟩ | ⟨hl, b, o, c, cs, e, fz2, hv, hlc, hcs, hle, hall⟩
    · skip
      have hl0 : m.refs.length = 0 := by rw [hl]; rfl
      unfold offV at h18
      rw [if_pos hl0] at h18
      obtain ⟨rfl, rfl⟩ := retV_some h18
      refine gk_false rfl (by rw [hl0]; rfl) ?_
      refine gk_skip ?_
      refine gk_fin fun a ha => ?_
      exact ⟨ha.keep ⟨rfl, rfl, rfl, rfl, rfl, rfl, rfl, rfl, rfl, rfl, rfl, rfl, rfl, rfl, rfl, rfl, rfl, rfl, rfl, rfl, trivial⟩, hB17, hK17⟩
    · skip
      have hl0 : ¬ m.refs.length = 0 := fun h => hl (List.length_eq_zero_iff.1 h)
      unfold offV at h18
      rw [if_neg hl0] at h18
      refine gk_true rfl (by rw [bne_iff_ne]; exact hl0) ?_
      have hpv : (cells131 m x)[33]? = some (.slice (some ⟨b, o, none⟩) m.refs.length c) := congrArg some hv
      obtain ⟨⟨offs, Sa⟩, ha1, h18⟩ := bind_some h18
      simp only at h18
      obtain ⟨rv, Sv, ha2, h18⟩ := withV_some h18
      obtain ⟨Sb, ha3, ha4⟩ := thn_some h18
      have hvn := startVector_bd ha2
      have hol := upE_len ha1
      have hgrow := hB17.grow (.cells (Array.replicate m.refs.length (U 0)) 65 (0, 0))
      refine gk_seq ?_
      refine gk_region ?_
      refine gr_v (ev_mv rfl) ?_
      refine gr_v (ev_nil rfl) ?_
      refine gr_v (ev_fa (j := 33) rfl Tryz.runUnderlying131 rfl Tryz.sizeOf117 rfl rfl) ?_
      refine gr_v (ev_ld rfl Tryz.isAgg117 (hE17 _ _ hp).2 hpv) ?_
      refine gr_v (ev_len (len := m.refs.length) rfl ⟨_, rfl, _, Tryz.runUnderlying117⟩) ?_
      refine gr_v (ev_as rfl) ?_
      refine gr_nil ?_
      refine gk_seq ?_
      refine gk_region ?_
      refine gr_v (ev_mv rfl) ?_
      refine gr_v (ev_mk (c := m.refs.length) (cap' := m.refs.length) rfl rfl Tryz.runUnderlying107 Tryz.typeInfo65 Tryz.sizeOf65 Tryz.zeroValue65 rfl (by omega) (by omega) (by omega) rfl (by omega) (by omega)) ?_
      refine gr_v (ev_as rfl) ?_
      refine gr_nil ?_
      refine gk_seq ?_
      refine gk_seq ?_
      refine gk_region ?_
      refine gr_v (ev_as rfl) ?_
      refine gr_nil ?_
      refine gk_block ?_
      refine gk_loop (fun i : Nat × List Nat × St => [(0, ptr p), (1, ptr bb), (5, U r1), (6, U r2), (7, U r3), (8, U r4), (11, U r5), (16, U r6), (21, U r7), (22, U r8), (23, U r9), (24, U r10), (27, U r11), (32, U r12), (35, U r13), (36, U r14), (39, U r15), (42, U r16), (45, U r17), (47, .int .i64 m.refs.length), (48, .slice (some ⟨w17.heap.size, 0, none⟩) m.refs.length m.refs.length), (49, .int .i64 (i.1 : Int))]) (fun i w' => Bld (plus F w17.heap.size) w' bb i.2.2 ∧ (∃ rest, upE packRef (m.refs.drop i.1) i.2.2 = some (rest, Sa) ∧ offs = i.2.1 ++ rest) ∧ i.2.1.length = i.1 ∧ i.1 ≤ m.refs.length ∧ w'.heap[w17.heap.size]? = some (.cells (rowU i.2.1 (List.replicate (m.refs.length - i.1) (U 0))) 65 (0, 0)) ∧ Keep F w w') (fun i => m.refs.length - i.1) (0, [], _) ⟨rfl, rfl, rfl, rfl, rfl, rfl, rfl, rfl, rfl, rfl, rfl, rfl, rfl, rfl, rfl, rfl, rfl, rfl, rfl, rfl, rfl, rfl, trivial⟩ ⟨hgrow.1, ⟨offs, ha1, rfl⟩, rfl, Nat.zero_le _, (al_new.trans (by simp [rowU]; exact .inr rfl)), (hK17.trans hgrow.2)⟩ ?_
      rintro ⟨i, rs, Sx⟩ wl ⟨hBl, ⟨rest, hup, hro⟩, hrl, hil, harr, hKl⟩
      simp only at hBl hup hro hrl hil harr
      have hEl := hE.keep hKl
      rcases Nat.lt_or_ge i m.refs.length with hlt | hge
      · skip
        rw [List.drop_eq_getElem_cons hlt] at hup
        obtain ⟨re, Sy, rest2, hf, hup2, rfl⟩ := upE_cons hup
        obtain ⟨y, hy, hR⟩ := hall i hlt
        refine gk_seq ?_
        refine gk_seq ?_
        refine gk_region ?_
        refine gr_v (ev_mv rfl) ?_
        refine gr_v (ev_mv rfl) ?_
        refine gr_v (ev_lss rfl rfl) ?_
        refine gr_nil ?_
        refine gk_true rfl (decide_eq_true (by omega)) ?_
        refine gk_skip ?_
        refine gk_seq ?_
        refine gk_block ?_
        refine gk_region ?_
        refine gr_v (ev_mv rfl) ?_
        refine gr_v (ev_mv rfl) ?_
        refine gr_v (ev_mv rfl) ?_
        refine gr_v (ev_nil rfl) ?_
        refine gr_v (ev_fa (j := 33) rfl Tryz.runUnderlying131 rfl Tryz.sizeOf117 rfl rfl) ?_
        refine gr_v (ev_ld rfl Tryz.isAgg117 (hEl _ _ hp).2 hpv) ?_
        refine gr_v (ev_mv rfl) ?_
        refine gr_v (ev_ix (len := m.refs.length) (a' := o + i) rfl rfl Tryz.runUnderlying117 Tryz.sizeOf161 (by omega) (by omega) (by omega)) ?_
        refine gr_v (ev_ld rfl Tryz.isAgg161 (hEl _ _ hcs).2 hy) ?_
        refine gr_v (ev_mv rfl) ?_
        refine gr_call (ec_func Tryz.call78 rfl) (hR (plus F w17.heap.size) _ bb _ _ _ hEl.plus hBl hf) ?_
        rintro _ wc ⟨rfl, hBc, hKc⟩
        have harr2 := (hKc.1 _ plus_new).trans harr
        refine gr_v (ev_ix (len := m.refs.length) (a' := i) rfl rfl Tryz.runUnderlying107 Tryz.sizeOf65 (by omega) (by omega) (by omega)) ?_
        refine gr_s (es_st (cs' := rowU (rs ++ [re]) (List.replicate (m.refs.length - (i + 1)) (U 0))) rfl rfl (by rfl) Tryz.sizeOf65 harr2 (by simp [Nat.blt_eq, rowU]; omega) (rowU_next hlt hrl)) ?_
        refine gr_nil ?_
        refine gk_endblk ?_
        refine gk_region ?_
        refine gr_v (ev_mv rfl) ?_
        refine gr_v (ev_add (r := ((i + 1 : Nat) : Int)) rfl rfl (by rw [w_i64 (by omega) (by omega)]; omega)) ?_
        refine gr_v (ev_as rfl) ?_
        refine gr_nil ?_
        refine gk_fin fun a ha => ?_
        exact ⟨(i + 1, rs ++ [re], Sy), ha.keep ⟨rfl, rfl, rfl, rfl, rfl, rfl, rfl, rfl, rfl, rfl, rfl, rfl, rfl, rfl, rfl, rfl, rfl, rfl, rfl, rfl, rfl, rfl, trivial⟩, ⟨hBc.put plus_new _, ⟨rest2, hup2, (by rw [hro]; simp)⟩, (by simp [hrl]), hlt, sb_same harr2, (hKl.trans (hKc.mono plus_of)).trans (Keep.put fun h => Nat.lt_irrefl _ (hB17.lt _ h))⟩, (by show m.refs.length - (i + 1) < m.refs.length - i; omega)⟩
      · skip
        obtain rfl : i = m.refs.length := by omega
        simp only [List.drop_length, upE, Option.some.injEq, Prod.mk.injEq] at hup
        obtain ⟨rfl, rfl⟩ := hup
        simp only [List.append_nil] at hro
        subst hro
        refine gk_seq ?_
        refine gk_seq ?_
        refine gk_region ?_
        refine gr_v (ev_mv rfl) ?_
        refine gr_v (ev_mv rfl) ?_
        refine gr_v (ev_lss rfl rfl) ?_
        refine gr_nil ?_
        refine gk_false rfl (decide_eq_false (by omega)) ?_
        refine gk_exit rfl ?_
        refine gk_seq ?_
        refine gk_region ?_
        refine gr_v (ev_mv rfl) ?_
        refine gr_v (ev_mv rfl) ?_
        refine gr_call (ec_func Tryz.call79 rfl) (c79 m.refs.length (plus F w17.heap.size) _ bb _ _ _ hBl ha2) ?_
        rintro _ wa ⟨rfl, hBa, hKa⟩
        have harra := (hKa.1 _ plus_new).trans harr
        refine gr_nil ?_
        refine gk_seq ?_
        refine gk_seq ?_
        refine gk_region ?_
        refine gr_v (ev_mv rfl) ?_
        refine gr_v (ev_sub rfl rfl (w_i64 (by omega) (by omega))) ?_
        refine gr_v (ev_as rfl) ?_
        refine gr_nil ?_
        refine gk_block ?_
        refine gk_loop (fun i : Nat × St => [(0, ptr p), (1, ptr bb), (5, U r1), (6, U r2), (7, U r3), (8, U r4), (11, U r5), (16, U r6), (21, U r7), (22, U r8), (23, U r9), (24, U r10), (27, U r11), (32, U r12), (35, U r13), (36, U r14), (39, U r15), (42, U r16), (45, U r17), (47, .int .i64 m.refs.length), (48, .slice (some ⟨w17.heap.size, 0, none⟩) m.refs.length m.refs.length), (50, .int .i64 ((i.1 : Int) - 1))]) (fun i w' => Bld (plus F w17.heap.size) w' bb i.2 ∧ downE prependU offs i.1 i.2 = some Sb ∧ i.1 ≤ m.refs.length ∧ w'.heap[w17.heap.size]? = some (.cells (rowU offs (List.replicate (m.refs.length - m.refs.length) (U 0))) 65 (0, 0)) ∧ Keep F w w') (fun i => i.1) (m.refs.length, Sv) ⟨rfl, rfl, rfl, rfl, rfl, rfl, rfl, rfl, rfl, rfl, rfl, rfl, rfl, rfl, rfl, rfl, rfl, rfl, rfl, rfl, rfl, rfl, trivial⟩ ⟨hBa, ha3, Nat.le_refl _, harra, hKl.trans (hKa.mono plus_of)⟩ ?_
        clear hBl hKl harr
        rintro ⟨k, Sx⟩ wl2 ⟨hBl, hdl, hkl, harr, hKl⟩
        simp only at hBl hdl hkl harr
        rcases (Nat.eq_zero_or_pos k).symm with hk0 | hk0
        · skip
          obtain ⟨j, rfl⟩ : ∃ j, k = j + 1 := ⟨k - 1, by omega⟩
          obtain ⟨hj, Sy, hf, hrest⟩ := downE_succ hdl
          refine gk_seq ?_
          refine gk_seq ?_
          refine gk_region ?_
          refine gr_v (ev_mv rfl) ?_
          refine gr_v (ev_geq rfl rfl) ?_
          refine gr_nil ?_
          refine gk_true rfl (decide_eq_true (by omega)) ?_
          refine gk_skip ?_
          refine gk_seq ?_
          refine gk_block ?_
          refine gk_region ?_
          refine gr_v (ev_mv rfl) ?_
          refine gr_v (ev_mv rfl) ?_
          refine gr_v (ev_mv rfl) ?_
          refine gr_v (ev_ix (len := m.refs.length) (a' := j) rfl rfl Tryz.runUnderlying107 Tryz.sizeOf65 (by omega) (by omega) (by omega)) ?_
          refine gr_v (ev_ld rfl Tryz.isAgg65 harr (rowU_at (by omega))) ?_
          refine gr_call (ec_func Tryz.call46 rfl) (c46 _ (plus F w17.heap.size) _ bb _ _ hBl hf) ?_
          rintro _ wc ⟨rfl, hBc, hKc⟩
          refine gr_nil ?_
          refine gk_endblk ?_
          refine gk_region ?_
          refine gr_v (ev_mv rfl) ?_
          refine gr_v (ev_sub (r := (j : Int) - 1) rfl rfl (by rw [w_i64 (by omega) (by omega)]; omega)) ?_
          refine gr_v (ev_as rfl) ?_
          refine gr_nil ?_
          refine gk_fin fun a ha => ?_
          exact ⟨(j, Sy), ha.keep ⟨rfl, rfl, rfl, rfl, rfl, rfl, rfl, rfl, rfl, rfl, rfl, rfl, rfl, rfl, rfl, rfl, rfl, rfl, rfl, rfl, rfl, rfl, trivial⟩, ⟨hBc, hrest, (by show j ≤ m.refs.length; omega), (hKc.1 _ plus_new).trans harr, hKl.trans (hKc.mono plus_of)⟩, Nat.lt_succ_self j⟩
        · skip
          subst hk0
          obtain rfl := Option.some.inj hdl
          refine gk_seq ?_
          refine gk_seq ?_
          refine gk_region ?_
          refine gr_v (ev_mv rfl) ?_
          refine gr_v (ev_geq rfl rfl) ?_
          refine gr_nil ?_
          refine gk_false rfl (decide_eq_false (by omega)) ?_
          refine gk_exit rfl ?_
          refine gk_region ?_
          refine gr_v (ev_mv rfl) ?_
          refine gr_v (ev_mv rfl) ?_
          refine gr_call (ec_func Tryz.call63 rfl) (c63 m.refs.length (plus F w17.heap.size) _ bb _ _ _ hBl ha4) ?_
          rintro _ wd ⟨rfl, hBd, hKd⟩
          refine gr_v (ev_as rfl) ?_
          refine gr_nil ?_
          refine gk_fin fun a ha => ?_
          exact ⟨ha.keep ⟨rfl, rfl, rfl, rfl, rfl, rfl, rfl, rfl, rfl, rfl, rfl, rfl, rfl, rfl, rfl, rfl, rfl, rfl, rfl, rfl, trivial⟩, (hBd.mono plus_of), (hKl.trans (hKd.mono plus_of))⟩
  rintro w18 ⟨hB18, hK18⟩
  have hE18 := hE.keep hK18
  clear hB17 h18 hK17 hE17
  refine gk_seq ?_
  refine gk_region ?_
  refine gr_v (ev_as rfl) ?_
  refine gr_nil ?_
  refine gk_seq ?_
  refine gk_seq ?_
  refine gk_region ?_
  refine gr_v (ev_mv rfl) ?_
  refine gr_v (ev_nil rfl) ?_
  refine gr_v (ev_fa (j := 35) rfl Tryz.runUnderlying131 rfl Tryz.sizeOf35 rfl rfl) ?_
  refine gr_v (ev_ld rfl Tryz.isAgg35 (hE18 _ _ hp).2 (by rfl)) ?_
  refine gr_v (ev_rowneq hO.weak rfl Tryz.runUnderlying35) ?_
  refine gr_nil ?_
  obtain ⟨r19, S19, h19, hm⟩ := withV_some hm
  refine gk_cutn [(0, ptr p), (1, ptr bb), (5, U r1), (6, U r2), (7, U r3), (8, U r4), (11, U r5), (16, U r6), (21, U r7), (22, U r8), (23, U r9), (24, U r10), (27, U r11), (32, U r12), (35, U r13), (36, U r14), (39, U r15), (42, U r16), (45, U r17), (46, U r18), (51, U r19)] (fun w' => Bld F w' bb S19 ∧ Keep F w w') ?_ ?_
  · intro Q0 k0
    rcases hO.weak with ⟨hl, hv⟩ | ⟨hl, b, o, c, cs, e, fz2, hv, hlc, hcs, hle, hall⟩
    · skip
      have hl0 : m.weak.length = 0 := by rw [hl]; rfl
      unfold vecI at h19
      rw [if_pos hl0] at h19
      obtain ⟨rfl, rfl⟩ := retV_some h19
      refine gk_false rfl (by rw [hl0]; rfl) ?_
      refine gk_skip ?_
      refine gk_fin fun a ha => ?_
      exact ⟨ha.keep ⟨rfl, rfl, rfl, rfl, rfl, rfl, rfl, rfl, rfl, rfl, rfl, rfl, rfl, rfl, rfl, rfl, rfl, rfl, rfl, rfl, rfl, trivial⟩, hB18, hK18⟩
    · skip
      have hl0 : ¬ m.weak.length = 0 := fun h => hl (List.length_eq_zero_iff.1 h)
      unfold vecI at h19
      rw [if_neg hl0] at h19
      refine gk_true rfl (by rw [bne_iff_ne]; exact hl0) ?_
      have hpv : (cells131 m x)[35]? = some (.slice (some ⟨b, o, none⟩) m.weak.length c) := congrArg some hv
      obtain ⟨rv, Sa, ha1, h19⟩ := withV_some h19
      obtain ⟨Sb, ha2, ha3⟩ := thn_some h19
      have hvn := startVector_bd ha1
      refine gk_seq ?_
      refine gk_region ?_
      refine gr_v (ev_mv rfl) ?_
      refine gr_v (ev_nil rfl) ?_
      refine gr_v (ev_fa (j := 35) rfl Tryz.runUnderlying131 rfl Tryz.sizeOf35 rfl rfl) ?_
      refine gr_v (ev_ld rfl Tryz.isAgg35 (hE18 _ _ hp).2 hpv) ?_
      refine gr_v (ev_len (len := m.weak.length) rfl ⟨_, rfl, _, Tryz.runUnderlying35⟩) ?_
      refine gr_v (ev_as rfl) ?_
      refine gr_nil ?_
      refine gk_seq ?_
      refine gk_region ?_
      refine gr_v (ev_mv rfl) ?_
      refine gr_v (ev_mv rfl) ?_
      refine gr_call (ec_func Tryz.call80 rfl) (c80 m.weak.length F _ bb _ _ _ hB18 ha1) ?_
      rintro _ wa ⟨rfl, hBa, hKa⟩
      refine gr_nil ?_
      refine gk_seq ?_
      refine gk_seq ?_
      refine gk_region ?_
      refine gr_v (ev_mv rfl) ?_
      refine gr_v (ev_sub rfl rfl (w_i64 (by omega) (by omega))) ?_
      refine gr_v (ev_as rfl) ?_
      refine gr_nil ?_
      refine gk_block ?_
      refine gk_loop (fun i : Nat × St => [(0, ptr p), (1, ptr bb), (5, U r1), (6, U r2), (7, U r3), (8, U r4), (11, U r5), (16, U r6), (21, U r7), (22, U r8), (23, U r9), (24, U r10), (27, U r11), (32, U r12), (35, U r13), (36, U r14), (39, U r15), (42, U r16), (45, U r17), (46, U r18), (52, .int .i64 m.weak.length), (53, .int .i64 ((i.1 : Int) - 1))]) (fun i w' => Bld F w' bb i.2 ∧ downE (fun n => prepend 8 (le8 n)) m.weak i.1 i.2 = some Sb ∧ i.1 ≤ m.weak.length ∧ Keep F w w') (fun i => i.1) (m.weak.length, Sa) ⟨rfl, rfl, rfl, rfl, rfl, rfl, rfl, rfl, rfl, rfl, rfl, rfl, rfl, rfl, rfl, rfl, rfl, rfl, rfl, rfl, rfl, rfl, trivial⟩ ⟨hBa, ha2, Nat.le_refl _, (hK18.trans hKa)⟩ ?_
      rintro ⟨k, Sx⟩ wl ⟨hBl, hdl, hkl, hKl⟩
      simp only at hBl hdl hkl
      have hEl := hE.keep hKl
      rcases (Nat.eq_zero_or_pos k).symm with hk0 | hk0
      · skip
        obtain ⟨j, rfl⟩ : ∃ j, k = j + 1 := ⟨k - 1, by omega⟩
        obtain ⟨hj, Sy, hf, hrest⟩ := downE_succ hdl
        obtain ⟨y, hy, hR⟩ := hall j hj
        obtain rfl := hR
        refine gk_seq ?_
        refine gk_seq ?_
        refine gk_region ?_
        refine gr_v (ev_mv rfl) ?_
        refine gr_v (ev_geq rfl rfl) ?_
        refine gr_nil ?_
        refine gk_true rfl (decide_eq_true (by omega)) ?_
        refine gk_skip ?_
        refine gk_seq ?_
        refine gk_block ?_
        refine gk_region ?_
        refine gr_v (ev_mv rfl) ?_
        refine gr_v (ev_mv rfl) ?_
        refine gr_v (ev_nil rfl) ?_
        refine gr_v (ev_fa (j := 35) rfl Tryz.runUnderlying131 rfl Tryz.sizeOf35 rfl rfl) ?_
        refine gr_v (ev_ld rfl Tryz.isAgg35 (hEl _ _ hp).2 hpv) ?_
        refine gr_v (ev_mv rfl) ?_
        refine gr_v (ev_ix (len := m.weak.length) (a' := o + j) rfl rfl Tryz.runUnderlying35 Tryz.sizeOf31 (by omega) (by omega) (by omega)) ?_
        refine gr_v (ev_ld rfl Tryz.isAgg31 (hEl _ _ hcs).2 hy) ?_
        refine gr_call (ec_func Tryz.call81 rfl) (c81 _ F _ bb _ _ hBl hf) ?_
        rintro _ wc ⟨rfl, hBc, hKc⟩
        refine gr_nil ?_
        refine gk_endblk ?_
        refine gk_region ?_
        refine gr_v (ev_mv rfl) ?_
        refine gr_v (ev_sub (r := (j : Int) - 1) rfl rfl (by rw [w_i64 (by omega) (by omega)]; omega)) ?_
        refine gr_v (ev_as rfl) ?_
        refine gr_nil ?_
        refine gk_fin fun a ha => ?_
        exact ⟨(j, Sy), ha.keep ⟨rfl, rfl, rfl, rfl, rfl, rfl, rfl, rfl, rfl, rfl, rfl, rfl, rfl, rfl, rfl, rfl, rfl, rfl, rfl, rfl, rfl, rfl, trivial⟩, ⟨hBc, hrest, Nat.le_of_lt hj, hKl.trans hKc⟩, Nat.lt_succ_self j⟩
      · skip
        subst hk0
        obtain rfl := Option.some.inj hdl
        refine gk_seq ?_
        refine gk_seq ?_
        refine gk_region ?_
        refine gr_v (ev_mv rfl) ?_
        refine gr_v (ev_geq rfl rfl) ?_
        refine gr_nil ?_
        refine gk_false rfl (decide_eq_false (by omega)) ?_
        refine gk_exit rfl ?_
        refine gk_region ?_
        refine gr_v (ev_mv rfl) ?_
        refine gr_v (ev_mv rfl) ?_
        refine gr_call (ec_func Tryz.call63 rfl) (c63 m.weak.length F _ bb _ _ _ hBl ha3) ?_
        rintro _ wd ⟨rfl, hBd, hKd⟩
        refine gr_v (ev_as rfl) ?_
        refine gr_nil ?_
        refine gk_fin fun a ha => ?_
        exact ⟨ha.keep ⟨rfl, rfl, rfl, rfl, rfl, rfl, rfl, rfl, rfl, rfl, rfl, rfl, rfl, rfl, rfl, rfl, rfl, rfl, rfl, rfl, rfl, trivial⟩, hBd, (hKl.trans hKd)⟩
  rintro w19 ⟨hB19, hK19⟩
  have hE19 := hE.keep hK19
  clear hB18 h19 hK18 hE18
  refine gk_seq ?_
  refine gk_region ?_
  refine gr_v (ev_as rfl) ?_
  refine gr_nil ?_
  refine gk_seq ?_
  refine gk_seq ?_
  refine gk_region ?_
  refine gr_v (ev_mv rfl) ?_
  refine gr_v (ev_nil rfl) ?_
  refine gr_v (ev_fa (j := 36) rfl Tryz.runUnderlying131 rfl Tryz.sizeOf117 rfl rfl) ?_
  refine gr_v (ev_ld rfl Tryz.isAgg117 (hE19 _ _ hp).2 (by rfl)) ?_
  refine gr_v (ev_rowneq hO.strong rfl Tryz.runUnderlying117) ?_
  refine gr_nil ?_
  obtain ⟨r20, S20, h20, hm⟩ := withV_some hm
  refine gk_cutn [(0, ptr p), (1, ptr bb), (5, U r1), (6, U r2), (7, U r3), (8, U r4), (11, U r5), (16, U r6), (21, U r7), (22, U r8), (23, U r9), (24, U r10), (27, U r11), (32, U r12), (35, U r13), (36, U r14), (39, U r15), (42, U r16), (45, U r17), (46, U r18), (51, U r19), (54, U r20)] (fun w' => Bld F w' bb S20 ∧ Keep F w w') ?_ ?_
  · intro Q0 k0
    rcases hO.strong with ⟨hl, hv⟩ | ⟨hl, b, o, c, cs, e, fz2, hv, hlc, hcs, hle, hall⟩
    · skip
      have hl0 : m.strong.length = 0 := by rw [hl]; rfl
      unfold offV at h20
      rw [if_pos hl0] at h20
      obtain ⟨rfl, rfl⟩ := retV_some h20
      refine gk_false rfl (by rw [hl0]; rfl) ?_
      refine gk_skip ?_
      refine gk_fin fun a ha => ?_
      exact ⟨ha.keep ⟨rfl, rfl, rfl, rfl, rfl, rfl, rfl, rfl, rfl, rfl, rfl, rfl, rfl, rfl, rfl, rfl, rfl, rfl, rfl, rfl, rfl, rfl, trivial⟩, hB19, hK19⟩
    · skip
      have hl0 : ¬ m.strong.length = 0 := fun h => hl (List.length_eq_zero_iff.1 h)
      unfold offV at h20
      rw [if_neg hl0] at h20
      refine gk_true rfl (by rw [bne_iff_ne]; exact hl0) ?_
      have hpv : (cells131 m x)[36]? = some (.slice (some ⟨b, o, none⟩) m.strong.length c) := congrArg some hv
      obtain ⟨⟨offs, Sa⟩, ha1, h20⟩ := bind_some h20
      simp only at h20
      obtain ⟨rv, Sv, ha2, h20⟩ := withV_some h20
      obtain ⟨Sb, ha3, ha4⟩ := thn_some h20
      have hvn := startVector_bd ha2
      have hol := upE_len ha1
      have hgrow := hB19.grow (.cells (Array.replicate m.strong.length (U 0)) 65 (0, 0))
      refine gk_seq ?_
      refine gk_region ?_
      refine gr_v (ev_mv rfl) ?_
      refine gr_v (ev_nil rfl) ?_
      refine gr_v (ev_fa (j := 36) rfl Tryz.runUnderlying131 rfl Tryz.sizeOf117 rfl rfl) ?_
      refine gr_v (ev_ld rfl Tryz.isAgg117 (hE19 _ _ hp).2 hpv) ?_
      refine gr_v (ev_len (len := m.strong.length) rfl ⟨_, rfl, _, Tryz.runUnderlying117⟩) ?_
      refine gr_v (ev_as rfl) ?_
      refine gr_nil ?_
      refine gk_seq ?_
      refine gk_region ?_
      refine gr_v (ev_mv rfl) ?_
      refine gr_v (ev_mk (c := m.strong.length) (cap' := m.strong.length) rfl rfl Tryz.runUnderlying107 Tryz.typeInfo65 Tryz.sizeOf65 Tryz.zeroValue65 rfl (by omega) (by omega) (by omega) rfl (by omega) (by omega)) ?_
      refine gr_v (ev_as rfl) ?_
      refine gr_nil ?_
      refine gk_seq ?_
      refine gk_seq ?_
      refine gk_region ?_
      refine gr_v (ev_as rfl) ?_
      refine gr_nil ?_
      refine gk_block ?_
      refine gk_loop (fun i : Nat × List Nat × St => [(0, ptr p), (1, ptr bb), (5, U r1), (6, U r2), (7, U r3), (8, U r4), (11, U r5), (16, U r6), (21, U r7), (22, U r8), (23, U r9), (24, U r10), (27, U r11), (32, U r12), (35, U r13), (36, U r14), (39, U r15), (42, U r16), (45, U r17), (46, U r18), (51, U r19), (55, .int .i64 m.strong.length), (56, .slice (some ⟨w19.heap.size, 0, none⟩) m.strong.length m.strong.length), (57, .int .i64 (i.1 : Int))]) (fun i w' => Bld (plus F w19.heap.size) w' bb i.2.2 ∧ (∃ rest, upE packRef (m.strong.drop i.1) i.2.2 = some (rest, Sa) ∧ offs = i.2.1 ++ rest) ∧ i.2.1.length = i.1 ∧ i.1 ≤ m.strong.length ∧ w'.heap[w19.heap.size]? = some (.cells (rowU i.2.1 (List.replicate (m.strong.length - i.1) (U 0))) 65 (0, 0)) ∧ Keep F w w') (fun i => m.strong.length - i.1) (0, [], _) ⟨rfl, rfl, rfl, rfl, rfl, rfl, rfl, rfl, rfl, rfl, rfl, rfl, rfl, rfl, rfl, rfl, rfl, rfl, rfl, rfl, rfl, rfl, rfl, rfl, trivial⟩ ⟨hgrow.1, ⟨offs, ha1, rfl⟩, rfl, Nat.zero_le _, (al_new.trans (by simp [rowU]; exact .inr rfl)), (hK19.trans hgrow.2)⟩ ?_
      rintro ⟨i, rs, Sx⟩ wl ⟨hBl, ⟨rest, hup, hro⟩, hrl, hil, harr, hKl⟩
      simp only at hBl hup hro hrl hil harr
      have hEl := hE.keep hKl
      rcases Nat.lt_or_ge i m.strong.length with hlt | hge
      · skip
        rw [List.drop_eq_getElem_cons hlt] at hup
        obtain ⟨re, Sy, rest2, hf, hup2, rfl⟩ := upE_cons hup
        obtain ⟨y, hy, hR⟩ := hall i hlt
        refine gk_seq ?_
        refine gk_seq ?_
        refine gk_region ?_
        refine gr_v (ev_mv rfl) ?_
        refine gr_v (ev_mv rfl) ?_
        refine gr_v (ev_lss rfl rfl) ?_
        refine gr_nil ?_
        refine gk_true rfl (decide_eq_true (by omega)) ?_
        refine gk_skip ?_
        refine gk_seq ?_
        refine gk_block ?_
        refine gk_region ?_
        refine gr_v (ev_mv rfl) ?_
        refine gr_v (ev_mv rfl) ?_
        refine gr_v (ev_mv rfl) ?_
        refine gr_v (ev_nil rfl) ?_
        refine gr_v (ev_fa (j := 36) rfl Tryz.runUnderlying131 rfl Tryz.sizeOf117 rfl rfl) ?_
        refine gr_v (ev_ld rfl Tryz.isAgg117 (hEl _ _ hp).2 hpv) ?_
        refine gr_v (ev_mv rfl) ?_
        refine gr_v (ev_ix (len := m.strong.length) (a' := o + i) rfl rfl Tryz.runUnderlying117 Tryz.sizeOf161 (by omega) (by omega) (by omega)) ?_
        refine gr_v (ev_ld rfl Tryz.isAgg161 (hEl _ _ hcs).2 hy) ?_
        refine gr_v (ev_mv rfl) ?_
        refine gr_call (ec_func Tryz.call78 rfl) (hR (plus F w19.heap.size) _ bb _ _ _ hEl.plus hBl hf) ?_
        rintro _ wc ⟨rfl, hBc, hKc⟩
        have harr2 := (hKc.1 _ plus_new).trans harr
        refine gr_v (ev_ix (len := m.strong.length) (a' := i) rfl rfl Tryz.runUnderlying107 Tryz.sizeOf65 (by omega) (by omega) (by omega)) ?_
        refine gr_s (es_st (cs' := rowU (rs ++ [re]) (List.replicate (m.strong.length - (i + 1)) (U 0))) rfl rfl (by rfl) Tryz.sizeOf65 harr2 (by simp [Nat.blt_eq, rowU]; omega) (rowU_next hlt hrl)) ?_
        refine gr_nil ?_
        refine gk_endblk ?_
        refine gk_region ?_
        refine gr_v (ev_mv rfl) ?_
        refine gr_v (ev_add (r := ((i + 1 : Nat) : Int)) rfl rfl (by rw [w_i64 (by omega) (by omega)]; omega)) ?_
        refine gr_v (ev_as rfl) ?_
        refine gr_nil ?_
        refine gk_fin fun a ha => ?_
        exact ⟨(i + 1, rs ++ [re], Sy), ha.keep ⟨rfl, rfl, rfl, rfl, rfl, rfl, rfl, rfl, rfl, rfl, rfl, rfl, rfl, rfl, rfl, rfl, rfl, rfl, rfl, rfl, rfl, rfl, rfl, rfl, trivial⟩, ⟨hBc.put plus_new _, ⟨rest2, hup2, (by rw [hro]; simp)⟩, (by simp [hrl]), hlt, sb_same harr2, (hKl.trans (hKc.mono plus_of)).trans (Keep.put fun h => Nat.lt_irrefl _ (hB19.lt _ h))⟩, (by show m.strong.length - (i + 1) < m.strong.length - i; omega)⟩
      · skip
        obtain rfl : i = m.strong.length := by omega
        simp only [List.drop_length, upE, Option.some.injEq, Prod.mk.injEq] at hup
        obtain ⟨rfl, rfl⟩ := hup
        simp only [List.append_nil] at hro
        subst hro
        refine gk_seq ?_
        refine gk_seq ?_
        refine gk_region ?_
        refine gr_v (ev_mv rfl) ?_
        refine gr_v (ev_mv rfl) ?_
        refine gr_v (ev_lss rfl rfl) ?_
        refine gr_nil ?_
        refine gk_false rfl (decide_eq_false (by omega)) ?_
        refine gk_exit rfl ?_
        refine gk_seq ?_
        refine gk_region ?_
        refine gr_v (ev_mv rfl) ?_
        refine gr_v (ev_mv rfl) ?_
        refine gr_call (ec_func Tryz.call82 rfl) (c82 m.strong.length (plus F w19.heap.size) _ bb _ _ _ hBl ha2) ?_
        rintro _ wa ⟨rfl, hBa, hKa⟩
        have harra := (hKa.1 _ plus_new).trans harr
        refine gr_nil ?_
        refine gk_seq ?_
        refine gk_seq ?_
        refine gk_region ?_
        refine gr_v (ev_mv rfl) ?_
        refine gr_v (ev_sub rfl rfl (w_i64 (by omega) (by omega))) ?_
        refine gr_v (ev_as rfl) ?_
        refine gr_nil ?_
        refine gk_block ?_
        refine gk_loop (fun i : Nat × St => [(0, ptr p), (1, ptr bb), (5, U r1), (6, U r2), (7, U r3), (8, U r4), (11, U r5), (16, U r6), (21, U r7), (22, U r8), (23, U r9), (24, U r10), (27, U r11), (32, U r12), (35, U r13), (36, U r14), (39, U r15), (42, U r16), (45, U r17), (46, U r18), (51, U r19), (55, .int .i64 m.strong.length), (56, .slice (some ⟨w19.heap.size, 0, none⟩) m.strong.length m.strong.length), (58, .int .i64 ((i.1 : Int) - 1))]) (fun i w' => Bld (plus F w19.heap.size) w' bb i.2 ∧ downE prependU offs i.1 i.2 = some Sb ∧ i.1 ≤ m.strong.length ∧ w'.heap[w19.heap.size]? = some (.cells (rowU offs (List.replicate (m.strong.length - m.strong.length) (U 0))) 65 (0, 0)) ∧ Keep F w w') (fun i => i.1) (m.strong.length, Sv) ⟨rfl, rfl, rfl, rfl, rfl, rfl, rfl, rfl, rfl, rfl, rfl, rfl, rfl, rfl, rfl, rfl, rfl, rfl, rfl, rfl, rfl, rfl, rfl, rfl, trivial⟩ ⟨hBa, ha3, Nat.le_refl _, harra, hKl.trans (hKa.mono plus_of)⟩ ?_
        clear hBl hKl harr
        rintro ⟨k, Sx⟩ wl2 ⟨hBl, hdl, hkl, harr, hKl⟩
        simp only at hBl hdl hkl harr
        rcases (Nat.eq_zero_or_pos k).symm with hk0 | hk0
        · skip
          obtain ⟨j, rfl⟩ : ∃ j, k = j + 1 := ⟨k - 1, by omega⟩
          obtain ⟨hj, Sy, hf, hrest⟩ := downE_succ hdl
          refine gk_seq ?_
          refine gk_seq ?_
          refine gk_region ?_
          refine gr_v (ev_mv rfl) ?_
          refine gr_v (ev_geq rfl rfl) ?_
          refine gr_nil ?_
          refine gk_true rfl (decide_eq_true (by omega)) ?_
          refine gk_skip ?_
          refine gk_seq ?_
          refine gk_block ?_
          refine gk_region ?_
          refine gr_v (ev_mv rfl) ?_
          refine gr_v (ev_mv rfl) ?_
          refine gr_v (ev_mv rfl) ?_
          refine gr_v (ev_ix (len := m.strong.length) (a' := j) rfl rfl Tryz.runUnderlying107 Tryz.sizeOf65 (by omega) (by omega) (by omega)) ?_
          refine gr_v (ev_ld rfl Tryz.isAgg65 harr (rowU_at (by omega))) ?_
          refine gr_call (ec_func Tryz.call46 rfl) (c46 _ (plus F w19.heap.size) _ bb _ _ hBl hf) ?_
          rintro _ wc ⟨rfl, hBc, hKc⟩
          refine gr_nil ?_
          refine gk_endblk ?_
          refine gk_region ?_
          refine gr_v (ev_mv rfl) ?_
          refine gr_v (ev_sub (r := (j : Int) - 1) rfl rfl (by rw [w_i64 (by omega) (by omega)]; omega)) ?_
          refine gr_v (ev_as rfl) ?_
          refine gr_nil ?_
          refine gk_fin fun a ha => ?_
          exact ⟨(j, Sy), ha.keep ⟨rfl, rfl, rfl, rfl, rfl, rfl, rfl, rfl, rfl, rfl, rfl, rfl, rfl, rfl, rfl, rfl, rfl, rfl, rfl, rfl, rfl, rfl, rfl, rfl, trivial⟩, ⟨hBc, hrest, (by show j ≤ m.strong.length; omega), (hKc.1 _ plus_new).trans harr, hKl.trans (hKc.mono plus_of)⟩, Nat.lt_succ_self j⟩
        · skip
          subst hk0
          obtain rfl := Option.some.inj hdl
          refine gk_seq ?_
          refine gk_seq ?_
          refine gk_region ?_
          refine gr_v (ev_mv rfl) ?_
          refine gr_v (ev_geq rfl rfl) ?_
          refine gr_nil ?_
          refine gk_false rfl (decide_eq_false (by omega)) ?_
          refine gk_exit rfl ?_
          refine gk_region ?_
          refine gr_v (ev_mv rfl) ?_
          refine gr_v (ev_mv rfl) ?_
          refine gr_call (ec_func Tryz.call63 rfl) (c63 m.strong.length (plus F w19.heap.size) _ bb _ _ _ hBl ha4) ?_
          rintro _ wd ⟨rfl, hBd, hKd⟩
          refine gr_v (ev_as rfl) ?_
          refine gr_nil ?_
          refine gk_fin fun a ha => ?_
          exact ⟨ha.keep ⟨rfl, rfl, rfl, rfl, rfl, rfl, rfl, rfl, rfl, rfl, rfl, rfl, rfl, rfl, rfl, rfl, rfl, rfl, rfl, rfl, rfl, rfl, trivial⟩, (hBd.mono plus_of), (hKl.trans (hKd.mono plus_of))⟩
  rintro w20 ⟨hB20, hK20⟩
  have hE20 := hE.keep hK20
  clear hB19 h20 hK19 hE19
  refine gk_seq ?_
  refine gk_region ?_
  refine gr_v (ev_as rfl) ?_
  refine gr_nil ?_
  refine gk_seq ?_
  refine gk_seq ?_
  refine gk_region ?_
  refine gr_v (ev_mv rfl) ?_
  refine gr_v (ev_nil rfl) ?_
  refine gr_v (ev_fa (j := 38) rfl Tryz.runUnderlying131 rfl Tryz.sizeOf35 rfl rfl) ?_
  refine gr_v (ev_ld rfl Tryz.isAgg35 (hE20 _ _ hp).2 (by rfl)) ?_
  refine gr_v (ev_rowneq hO.coown rfl Tryz.runUnderlying35) ?_
  refine gr_nil ?_
  obtain ⟨r21, S21, h21, hm⟩ := withV_some hm
  refine gk_cutn [(0, ptr p), (1, ptr bb), (5, U r1), (6, U r2), (7, U r3), (8, U r4), (11, U r5), (16, U r6), (21, U r7), (22, U r8), (23, U r9), (24, U r10), (27, U r11), (32, U r12), (35, U r13), (36, U r14), (39, U r15), (42, U r16), (45, U r17), (46, U r18), (51, U r19), (54, U r20), (59, U r21)] (fun w' => Bld F w' bb S21 ∧ Keep F w w') ?_ ?_
  · intro Q0 k0
    rcases hO.coown with ⟨hl, hv⟩ | ⟨hl, b, o, c, cs, e, fz2, hv, hlc, hcs, hle, hall⟩
    · skip
      have hl0 : m.coown.length = 0 := by rw [hl]; rfl
      unfold vecI at h21
      rw [if_pos hl0] at h21
      obtain ⟨rfl, rfl⟩ := retV_some h21
      refine gk_false rfl (by rw [hl0]; rfl) ?_
      refine gk_skip ?_
      refine gk_fin fun a ha => ?_
      exact ⟨ha.keep ⟨rfl, rfl, rfl, rfl, rfl, rfl, rfl, rfl, rfl, rfl, rfl, rfl, rfl, rfl, rfl, rfl, rfl, rfl, rfl, rfl, rfl, rfl, rfl, trivial⟩, hB20, hK20⟩
    · skip
      have hl0 : ¬ m.coown.length = 0 := fun h => hl (List.length_eq_zero_iff.1 h)
      unfold vecI at h21
      rw [if_neg hl0] at h21
      refine gk_true rfl (by rw [bne_iff_ne]; exact hl0) ?_
      have hpv : (cells131 m x)[38]? = some (.slice (some ⟨b, o, none⟩) m.coown.length c) := congrArg some hv
      obtain ⟨rv, Sa, ha1, h21⟩ := withV_some h21
      obtain ⟨Sb, ha2, ha3⟩ := thn_some h21
      have hvn := startVector_bd ha1
      refine gk_seq ?_
      refine gk_region ?_
      refine gr_v (ev_mv rfl) ?_
      refine gr_v (ev_nil rfl) ?_
      refine gr_v (ev_fa (j := 38) rfl Tryz.runUnderlying131 rfl Tryz.sizeOf35 rfl rfl) ?_
      refine gr_v (ev_ld rfl Tryz.isAgg35 (hE20 _ _ hp).2 hpv) ?_
      refine gr_v (ev_len (len := m.coown.length) rfl ⟨_, rfl, _, Tryz.runUnderlying35⟩) ?_
      refine gr_v (ev_as rfl) ?_
      refine gr_nil ?_
      refine gk_seq ?_
      refine gk_region ?_
      refine gr_v (ev_mv rfl) ?_
      refine gr_v (ev_mv rfl) ?_
      refine gr_call (ec_func Tryz.call83 rfl) (c83 m.coown.length F _ bb _ _ _ hB20 ha1) ?_
      rintro _ wa ⟨rfl, hBa, hKa⟩
      refine gr_nil ?_
      refine gk_seq ?_
      refine gk_seq ?_
      refine gk_region ?_
      refine gr_v (ev_mv rfl) ?_
      refine gr_v (ev_sub rfl rfl (w_i64 (by omega) (by omega))) ?_
      refine gr_v (ev_as rfl) ?_
      refine gr_nil ?_
      refine gk_block ?_
      refine gk_loop (fun i : Nat × St => [(0, ptr p), (1, ptr bb), (5, U r1), (6, U r2), (7, U r3), (8, U r4), (11, U r5), (16, U r6), (21, U r7), (22, U r8), (23, U r9), (24, U r10), (27, U r11), (32, U r12), (35, U r13), (36, U r14), (39, U r15), (42, U r16), (45, U r17), (46, U r18), (51, U r19), (54, U r20), (60, .int .i64 m.coown.length), (61, .int .i64 ((i.1 : Int) - 1))]) (fun i w' => Bld F w' bb i.2 ∧ downE (fun n => prepend 8 (le8 n)) m.coown i.1 i.2 = some Sb ∧ i.1 ≤ m.coown.length ∧ Keep F w w') (fun i => i.1) (m.coown.length, Sa) ⟨rfl, rfl, rfl, rfl, rfl, rfl, rfl, rfl, rfl, rfl, rfl, rfl, rfl, rfl, rfl, rfl, rfl, rfl, rfl, rfl, rfl, rfl, rfl, rfl, trivial⟩ ⟨hBa, ha2, Nat.le_refl _, (hK20.trans hKa)⟩ ?_
      rintro ⟨k, Sx⟩ wl ⟨hBl, hdl, hkl, hKl⟩
      simp only at hBl hdl hkl
      have hEl := hE.keep hKl
      rcases (Nat.eq_zero_or_pos k).symm with hk0 | hk0
      · skip
        obtain ⟨j, rfl⟩ : ∃ j, k = j + 1 := ⟨k - 1, by omega⟩
        obtain ⟨hj, Sy, hf, hrest⟩ := downE_succ hdl
        obtain ⟨y, hy, hR⟩ := hall j hj
        obtain rfl := hR
        refine gk_seq ?_
        refine gk_seq ?_
        refine gk_region ?_
        refine gr_v (ev_mv rfl) ?_
        refine gr_v (ev_geq rfl rfl) ?_
        refine gr_nil ?_
        refine gk_true rfl (decide_eq_true (by omega)) ?_
        refine gk_skip ?_
        refine gk_seq ?_
        refine gk_block ?_
        refine gk_region ?_
        refine gr_v (ev_mv rfl) ?_
        refine gr_v (ev_mv rfl) ?_
        refine gr_v (ev_nil rfl) ?_
        refine gr_v (ev_fa (j := 38) rfl Tryz.runUnderlying131 rfl Tryz.sizeOf35 rfl rfl) ?_
        refine gr_v (ev_ld rfl Tryz.isAgg35 (hEl _ _ hp).2 hpv) ?_
        refine gr_v (ev_mv rfl) ?_
        refine gr_v (ev_ix (len := m.coown.length) (a' := o + j) rfl rfl Tryz.runUnderlying35 Tryz.sizeOf31 (by omega) (by omega) (by omega)) ?_
        refine gr_v (ev_ld rfl Tryz.isAgg31 (hEl _ _ hcs).2 hy) ?_
        refine gr_call (ec_func Tryz.call81 rfl) (c81 _ F _ bb _ _ hBl hf) ?_
        rintro _ wc ⟨rfl, hBc, hKc⟩
        refine gr_nil ?_
        refine gk_endblk ?_
        refine gk_region ?_
        refine gr_v (ev_mv rfl) ?_
        refine gr_v (ev_sub (r := (j : Int) - 1) rfl rfl (by rw [w_i64 (by omega) (by omega)]; omega)) ?_
        refine gr_v (ev_as rfl) ?_
        refine gr_nil ?_
        refine gk_fin fun a ha => ?_
        exact ⟨(j, Sy), ha.keep ⟨rfl, rfl, rfl, rfl, rfl, rfl, rfl, rfl, rfl, rfl, rfl, rfl, rfl, rfl, rfl, rfl, rfl, rfl, rfl, rfl, rfl, rfl, rfl, rfl, trivial⟩, ⟨hBc, hrest, Nat.le_of_lt hj, hKl.trans hKc⟩, Nat.lt_succ_self j⟩
      · skip
        subst hk0
        obtain rfl := Option.some.inj hdl
        refine gk_seq ?_
        refine gk_seq ?_
        refine gk_region ?_
        refine gr_v (ev_mv rfl) ?_
        refine gr_v (ev_geq rfl rfl) ?_
        refine gr_nil ?_
        refine gk_false rfl (decide_eq_false (by omega)) ?_
        refine gk_exit rfl ?_
        refine gk_region ?_
        refine gr_v (ev_mv rfl) ?_
        refine gr_v (ev_mv rfl) ?_
        refine gr_call (ec_func Tryz.call63 rfl) (c63 m.coown.length F _ bb _ _ _ hBl ha3) ?_
        rintro _ wd ⟨rfl, hBd, hKd⟩
        refine gr_v (ev_as rfl) ?_
        refine gr_nil ?_
        refine gk_fin fun a ha => ?_
        exact ⟨ha.keep ⟨rfl, rfl, rfl, rfl, rfl, rfl, rfl, rfl, rfl, rfl, rfl, rfl, rfl, rfl, rfl, rfl, rfl, rfl, rfl, rfl, rfl, rfl, rfl, trivial⟩, hBd, (hKl.trans hKd)⟩
  rintro w21 ⟨hB21, hK21⟩
  have hE21 := hE.keep hK21
  clear hB20 h21 hK20 hE20
  refine gk_seq ?_
  refine gk_region ?_
  refine gr_v (ev_as rfl) ?_
  refine gr_nil ?_
  refine gk_seq ?_
  refine gk_seq ?_
  refine gk_region ?_
  refine gr_v (ev_mv rfl) ?_
  refine gr_v (ev_nil rfl) ?_
  refine gr_v (ev_fa (j := 40) rfl Tryz.runUnderlying131 rfl Tryz.sizeOf35 rfl rfl) ?_
  refine gr_v (ev_ld rfl Tryz.isAgg35 (hE21 _ _ hp).2 (by rfl)) ?_
  refine gr_v (ev_rowneq hO.nonown rfl Tryz.runUnderlying35) ?_
  refine gr_nil ?_
  obtain ⟨r22, S22, h22, hm⟩ := withV_some hm
  refine gk_cutn [(0, ptr p), (1, ptr bb), (5, U r1), (6, U r2), (7, U r3), (8, U r4), (11, U r5), (16, U r6), (21, U r7), (22, U r8), (23, U r9), (24, U r10), (27, U r11), (32, U r12), (35, U r13), (36, U r14), (39, U r15), (42, U r16), (45, U r17), (46, U r18), (51, U r19), (54, U r20), (59, U r21), (62, U r22)] (fun w' => Bld F w' bb S22 ∧ Keep F w w') ?_ ?_
  · intro Q0 k0
    rcases hO.nonown with ⟨hl, hv⟩ | ⟨hl, b, o, c, cs, e, fz2, hv, hlc, hcs, hle, hall⟩
    · skip
      have hl0 : m.nonown.length = 0 := by rw [hl]; rfl
      unfold vecI at h22
      rw [if_pos hl0] at h22
      obtain ⟨rfl, rfl⟩ := retV_some h22
      refine gk_false rfl (by rw [hl0]; rfl) ?_
      refine gk_skip ?_
      refine gk_fin fun a ha => ?_
      exact ⟨ha.keep ⟨rfl, rfl, rfl, rfl, rfl, rfl, rfl, rfl, rfl, rfl, rfl, rfl, rfl, rfl, rfl, rfl, rfl, rfl, rfl, rfl, rfl, rfl, rfl, rfl, trivial⟩, hB21, hK21⟩
    · skip
      have hl0 : ¬ m.nonown.length = 0 := fun h => hl (List.length_eq_zero_iff.1 h)
      unfold vecI at h22
      rw [if_neg hl0] at h22
      refine gk_true rfl (by rw [bne_iff_ne]; exact hl0) ?_
      have hpv : (cells131 m x)[40]? = some (.slice (some ⟨b, o, none⟩) m.nonown.length c) := congrArg some hv
      obtain ⟨rv, Sa, ha1, h22⟩ := withV_some h22
      obtain ⟨Sb, ha2, ha3⟩ := thn_some h22
      have hvn := startVector_bd ha1
      refine gk_seq ?_
      refine gk_region ?_
      refine gr_v (ev_mv rfl) ?_
      refine gr_v (ev_nil rfl) ?_
      refine gr_v (ev_fa (j := 40) rfl Tryz.runUnderlying131 rfl Tryz.sizeOf35 rfl rfl) ?_
      refine gr_v (ev_ld rfl Tryz.isAgg35 (hE21 _ _ hp).2 hpv) ?_
      refine gr_v (ev_len (len := m.nonown.length) rfl ⟨_, rfl, _, Tryz.runUnderlying35⟩) ?_
      refine gr_v (ev_as rfl) ?_
      refine gr_nil ?_
      refine gk_seq ?_
      refine gk_region ?_
      refine gr_v (ev_mv rfl) ?_
      refine gr_v (ev_mv rfl) ?_
      refine gr_call (ec_func Tryz.call84 rfl) (c84 m.nonown.length F _ bb _ _ _ hB21 ha1) ?_
      rintro _ wa ⟨rfl, hBa, hKa⟩
      refine gr_nil ?_
      refine gk_seq ?_
      refine gk_seq ?_
      refine gk_region ?_
      refine gr_v (ev_mv rfl) ?_
      refine gr_v (ev_sub rfl rfl (w_i64 (by omega) (by omega))) ?_
      refine gr_v (ev_as rfl) ?_
      refine gr_nil ?_
      refine gk_block ?_
      refine gk_loop (fun i : Nat × St => [(0, ptr p), (1, ptr bb), (5, U r1), (6, U r2), (7, U r3), (8, U r4), (11, U r5), (16, U r6), (21, U r7), (22, U r8), (23, U r9), (24, U r10), (27, U r11), (32, U r12), (35, U r13), (36, U r14), (39, U r15), (42, U r16), (45, U r17), (46, U r18), (51, U r19), (54, U r20), (59, U r21), (63, .int .i64 m.nonown.length), (64, .int .i64 ((i.1 : Int) - 1))]) (fun i w' => Bld F w' bb i.2 ∧ downE (fun n => prepend 8 (le8 n)) m.nonown i.1 i.2 = some Sb ∧ i.1 ≤ m.nonown.length ∧ Keep F w w') (fun i => i.1) (m.nonown.length, Sa) ⟨rfl, rfl, rfl, rfl, rfl, rfl, rfl, rfl, rfl, rfl, rfl, rfl, rfl, rfl, rfl, rfl, rfl, rfl, rfl, rfl, rfl, rfl, rfl, rfl, rfl, trivial⟩ ⟨hBa, ha2, Nat.le_refl _, (hK21.trans hKa)⟩ ?_
      rintro ⟨k, Sx⟩ wl ⟨hBl, hdl, hkl, hKl⟩
      simp only at hBl hdl hkl
      have hEl := hE.keep hKl
      rcases (Nat.eq_zero_or_pos k).symm with hk0 | hk0
      · skip
        obtain ⟨j, rfl⟩ : ∃ j, k = j + 1 := ⟨k - 1, by omega⟩
        obtain ⟨hj, Sy, hf, hrest⟩ := downE_succ hdl
        obtain ⟨y, hy, hR⟩ := hall j hj
        obtain rfl := hR
        refine gk_seq ?_
        refine gk_seq ?_
        refine gk_region ?_
        refine gr_v (ev_mv rfl) ?_
        refine gr_v (ev_geq rfl rfl) ?_
        refine gr_nil ?_
        refine gk_true rfl (decide_eq_true (by omega)) ?_
        refine gk_skip ?_
        refine gk_seq ?_
        refine gk_block ?_
        refine gk_region ?_
        refine gr_v (ev_mv rfl) ?_
        refine gr_v (ev_mv rfl) ?_
        refine gr_v (ev_nil rfl) ?_
        refine gr_v (ev_fa (j := 40) rfl Tryz.runUnderlying131 rfl Tryz.sizeOf35 rfl rfl) ?_
        refine gr_v (ev_ld rfl Tryz.isAgg35 (hEl _ _ hp).2 hpv) ?_
        refine gr_v (ev_mv rfl) ?_
        refine gr_v (ev_ix (len := m.nonown.length) (a' := o + j) rfl rfl Tryz.runUnderlying35 Tryz.sizeOf31 (by omega) (by omega) (by omega)) ?_
        refine gr_v (ev_ld rfl Tryz.isAgg31 (hEl _ _ hcs).2 hy) ?_
        refine gr_call (ec_func Tryz.call81 rfl) (c81 _ F _ bb _ _ hBl hf) ?_
        rintro _ wc ⟨rfl, hBc, hKc⟩
        refine gr_nil ?_
        refine gk_endblk ?_
        refine gk_region ?_
        refine gr_v (ev_mv rfl) ?_
        refine gr_v (ev_sub (r := (j : Int) - 1) rfl rfl (by rw [w_i64 (by omega) (by omega)]; omega)) ?_
        refine gr_v (ev_as rfl) ?_
        refine gr_nil ?_
        refine gk_fin fun a ha => ?_
        exact ⟨(j, Sy), ha.keep ⟨rfl, rfl, rfl, rfl, rfl, rfl, rfl, rfl, rfl, rfl, rfl, rfl, rfl, rfl, rfl, rfl, rfl, rfl, rfl, rfl, rfl, rfl, rfl, rfl, rfl, trivial⟩, ⟨hBc, hrest, Nat.le_of_lt hj, hKl.trans hKc⟩, Nat.lt_succ_self j⟩
      · skip
        subst hk0
        obtain rfl := Option.some.inj hdl
        refine gk_seq ?_
        refine gk_seq ?_
        refine gk_region ?_
        refine gr_v (ev_mv rfl) ?_
        refine gr_v (ev_geq rfl rfl) ?_
        refine gr_nil ?_
        refine gk_false rfl (decide_eq_false (by omega)) ?_
        refine gk_exit rfl ?_
        refine gk_region ?_
        refine gr_v (ev_mv rfl) ?_
        refine gr_v (ev_mv rfl) ?_
        refine gr_call (ec_func Tryz.call63 rfl) (c63 m.nonown.length F _ bb _ _ _ hBl ha3) ?_
        rintro _ wd ⟨rfl, hBd, hKd⟩
        refine gr_v (ev_as rfl) ?_
        refine gr_nil ?_
        refine gk_fin fun a ha => ?_
        exact ⟨ha.keep ⟨rfl, rfl, rfl, rfl, rfl, rfl, rfl, rfl, rfl, rfl, rfl, rfl, rfl, rfl, rfl, rfl, rfl, rfl, rfl, rfl, rfl, rfl, rfl, rfl, trivial⟩, hBd, (hKl.trans hKd)⟩
  rintro w22 ⟨hB22, hK22⟩
  have hE22 := hE.keep hK22
  clear hB21 h22 hK21 hE21
  refine gk_seq ?_
  refine gk_region ?_
  refine gr_v (ev_mv rfl) ?_
  refine gr_v (ev_nil rfl) ?_
  refine gr_v (ev_fa (j := 41) rfl Tryz.runUnderlying131 rfl Tryz.sizeOf127 rfl rfl) ?_
  refine gr_v (ev_ld rfl Tryz.isAgg127 (hE22 _ _ hp).2 (by rfl)) ?_
  refine gr_v (ev_mv rfl) ?_
  obtain ⟨r23, S23, h23, hm⟩ := withV_some hm
  refine gr_call (ec_func Tryz.call85 rfl) (hO.anyU.1 F _ bb _ _ _ hE22 hB22 h23) ?_
  rintro _ w23 ⟨rfl, hB23, hK23⟩
  have hE23 := hE22.keep hK23
  replace hK23 := (hK22.trans hK23)
  clear hB22 h23 hK22 hE22
  refine gr_v (ev_as rfl) ?_
  refine gr_nil ?_
  refine gk_seq ?_
  refine gk_region ?_
  refine gr_v (ev_mv rfl) ?_
  refine gr_v (ev_nil rfl) ?_
  refine gr_v (ev_fa (j := 42) rfl Tryz.runUnderlying131 rfl Tryz.sizeOf128 rfl rfl) ?_
  refine gr_v (ev_ld rfl Tryz.isAgg128 (hE23 _ _ hp).2 (by rfl)) ?_
  refine gr_v (ev_mv rfl) ?_
  obtain ⟨r24, S24, h24, hm⟩ := withV_some hm
  refine gr_call (ec_func Tryz.call86 rfl) (hO.anyA.1 F _ bb _ _ _ hE23 hB23 h24) ?_
  rintro _ w24 ⟨rfl, hB24, hK24⟩
  have hE24 := hE23.keep hK24
  replace hK24 := (hK23.trans hK24)
  clear hB23 h24 hK23 hE23
  refine gr_v (ev_as rfl) ?_
  refine gr_nil ?_
  refine gk_seq ?_
  refine gk_region ?_
  refine gr_v (ev_as rfl) ?_
  refine gr_nil ?_
  refine gk_seq ?_
  refine gk_seq ?_
  refine gk_region ?_
  refine gr_v (ev_mv rfl) ?_
  refine gr_v (ev_nil rfl) ?_
  refine gr_v (ev_fa (j := 43) rfl Tryz.runUnderlying131 rfl Tryz.sizeOf129 rfl rfl) ?_
  refine gr_v (ev_ld rfl Tryz.isAgg129 (hE24 _ _ hp).2 (by rfl)) ?_
  refine gr_v (ev_rowneq hO.enums rfl Tryz.runUnderlying129) ?_
  refine gr_nil ?_
  obtain ⟨r25, S25, h25, hm⟩ := withV_some hm
  refine gk_cutn [(0, ptr p), (1, ptr bb), (5, U r1), (6, U r2), (7, U r3), (8, U r4), (11, U r5), (16, U r6), (21, U r7), (22, U r8), (23, U r9), (24, U r10), (27, U r11), (32, U r12), (35, U r13), (36, U r14), (39, U r15), (42, U r16), (45, U r17), (46, U r18), (51, U r19), (54, U r20), (59, U r21), (62, U r22), (65, U r23), (66, U r24), (67, U r25)] (fun w' => Bld F w' bb S25 ∧ Keep F w w') ?_ ?_
  · intro Q0 k0
    rcases hO.enums with ⟨hl, hv⟩ | ⟨hl, b, o, c, cs, e, fz2, hv, hlc, hcs, hle, hall⟩
    · skip
      have hl0 : m.enums.length = 0 := by rw [hl]; rfl
      unfold vecI at h25
      rw [if_pos hl0] at h25
      obtain ⟨rfl, rfl⟩ := retV_some h25
      refine gk_false rfl (by rw [hl0]; rfl) ?_
      refine gk_skip ?_
      refine gk_fin fun a ha => ?_
      exact ⟨ha.keep ⟨rfl, rfl, rfl, rfl, rfl, rfl, rfl, rfl, rfl, rfl, rfl, rfl, rfl, rfl, rfl, rfl, rfl, rfl, rfl, rfl, rfl, rfl, rfl, rfl, rfl, rfl, rfl, trivial⟩, hB24, hK24⟩
    · skip
      have hl0 : ¬ m.enums.length = 0 := fun h => hl (List.length_eq_zero_iff.1 h)
      unfold vecI at h25
      rw [if_neg hl0] at h25
      refine gk_true rfl (by rw [bne_iff_ne]; exact hl0) ?_
      have hpv : (cells131 m x)[43]? = some (.slice (some ⟨b, o, none⟩) m.enums.length c) := congrArg some hv
      obtain ⟨rv, Sa, ha1, h25⟩ := withV_some h25
      obtain ⟨Sb, ha2, ha3⟩ := thn_some h25
      have hvn := startVector_bd ha1
      refine gk_seq ?_
      refine gk_region ?_
      refine gr_v (ev_mv rfl) ?_
      refine gr_v (ev_nil rfl) ?_
      refine gr_v (ev_fa (j := 43) rfl Tryz.runUnderlying131 rfl Tryz.sizeOf129 rfl rfl) ?_
      refine gr_v (ev_ld rfl Tryz.isAgg129 (hE24 _ _ hp).2 hpv) ?_
      refine gr_v (ev_len (len := m.enums.length) rfl ⟨_, rfl, _, Tryz.runUnderlying129⟩) ?_
      refine gr_v (ev_as rfl) ?_
      refine gr_nil ?_
      refine gk_seq ?_
      refine gk_region ?_
      refine gr_v (ev_mv rfl) ?_
      refine gr_v (ev_mv rfl) ?_
      refine gr_call (ec_func Tryz.call87 rfl) (c87 m.enums.length F _ bb _ _ _ hB24 ha1) ?_
      rintro _ wa ⟨rfl, hBa, hKa⟩
      refine gr_nil ?_
      refine gk_seq ?_
      refine gk_seq ?_
      refine gk_region ?_
      refine gr_v (ev_mv rfl) ?_
      refine gr_v (ev_sub rfl rfl (w_i64 (by omega) (by omega))) ?_
      refine gr_v (ev_as rfl) ?_
      refine gr_nil ?_
      refine gk_block ?_
      refine gk_loop (fun i : Nat × St => [(0, ptr p), (1, ptr bb), (5, U r1), (6, U r2), (7, U r3), (8, U r4), (11, U r5), (16, U r6), (21, U r7), (22, U r8), (23, U r9), (24, U r10), (27, U r11), (32, U r12), (35, U r13), (36, U r14), (39, U r15), (42, U r16), (45, U r17), (46, U r18), (51, U r19), (54, U r20), (59, U r21), (62, U r22), (65, U r23), (66, U r24), (68, .int .i64 m.enums.length), (69, .int .i64 ((i.1 : Int) - 1))]) (fun i w' => Bld F w' bb i.2 ∧ downE (fun u => prepend 1 [u]) m.enums i.1 i.2 = some Sb ∧ i.1 ≤ m.enums.length ∧ Keep F w w') (fun i => i.1) (m.enums.length, Sa) ⟨rfl, rfl, rfl, rfl, rfl, rfl, rfl, rfl, rfl, rfl, rfl, rfl, rfl, rfl, rfl, rfl, rfl, rfl, rfl, rfl, rfl, rfl, rfl, rfl, rfl, rfl, rfl, rfl, trivial⟩ ⟨hBa, ha2, Nat.le_refl _, (hK24.trans hKa)⟩ ?_
      rintro ⟨k, Sx⟩ wl ⟨hBl, hdl, hkl, hKl⟩
      simp only at hBl hdl hkl
      have hEl := hE.keep hKl
      rcases (Nat.eq_zero_or_pos k).symm with hk0 | hk0
      · skip
        obtain ⟨j, rfl⟩ : ∃ j, k = j + 1 := ⟨k - 1, by omega⟩
        obtain ⟨hj, Sy, hf, hrest⟩ := downE_succ hdl
        obtain ⟨y, hy, hR⟩ := hall j hj
        obtain rfl := hR
        refine gk_seq ?_
        refine gk_seq ?_
        refine gk_region ?_
        refine gr_v (ev_mv rfl) ?_
        refine gr_v (ev_geq rfl rfl) ?_
        refine gr_nil ?_
        refine gk_true rfl (decide_eq_true (by omega)) ?_
        refine gk_skip ?_
        refine gk_seq ?_
        refine gk_block ?_
        refine gk_region ?_
        refine gr_v (ev_mv rfl) ?_
        refine gr_v (ev_mv rfl) ?_
        refine gr_v (ev_nil rfl) ?_
        refine gr_v (ev_fa (j := 43) rfl Tryz.runUnderlying131 rfl Tryz.sizeOf129 rfl rfl) ?_
        refine gr_v (ev_ld rfl Tryz.isAgg129 (hEl _ _ hp).2 hpv) ?_
        refine gr_v (ev_mv rfl) ?_
        refine gr_v (ev_ix (len := m.enums.length) (a' := o + j) rfl rfl Tryz.runUnderlying129 Tryz.sizeOf112 (by omega) (by omega) (by omega)) ?_
        refine gr_v (ev_ld rfl Tryz.isAgg112 (hEl _ _ hcs).2 hy) ?_
        refine gr_call (ec_func Tryz.call88 rfl) (c88 _ F _ bb _ _ hBl hf) ?_
        rintro _ wc ⟨rfl, hBc, hKc⟩
        refine gr_nil ?_
        refine gk_endblk ?_
        refine gk_region ?_
        refine gr_v (ev_mv rfl) ?_
        refine gr_v (ev_sub (r := (j : Int) - 1) rfl rfl (by rw [w_i64 (by omega) (by omega)]; omega)) ?_
        refine gr_v (ev_as rfl) ?_
        refine gr_nil ?_
        refine gk_fin fun a ha => ?_
        exact ⟨(j, Sy), ha.keep ⟨rfl, rfl, rfl, rfl, rfl, rfl, rfl, rfl, rfl, rfl, rfl, rfl, rfl, rfl, rfl, rfl, rfl, rfl, rfl, rfl, rfl, rfl, rfl, rfl, rfl, rfl, rfl, rfl, trivial⟩, ⟨hBc, hrest, Nat.le_of_lt hj, hKl.trans hKc⟩, Nat.lt_succ_self j⟩
      · skip
        subst hk0
        obtain rfl := Option.some.inj hdl
        refine gk_seq ?_
        refine gk_seq ?_
        refine gk_region ?_
        refine gr_v (ev_mv rfl) ?_
        refine gr_v (ev_geq rfl rfl) ?_
        refine gr_nil ?_
        refine gk_false rfl (decide_eq_false (by omega)) ?_
        refine gk_exit rfl ?_
        refine gk_region ?_
        refine gr_v (ev_mv rfl) ?_
        refine gr_v (ev_mv rfl) ?_
        refine gr_call (ec_func Tryz.call63 rfl) (c63 m.enums.length F _ bb _ _ _ hBl ha3) ?_
        rintro _ wd ⟨rfl, hBd, hKd⟩
        refine gr_v (ev_as rfl) ?_
        refine gr_nil ?_
        refine gk_fin fun a ha => ?_
        exact ⟨ha.keep ⟨rfl, rfl, rfl, rfl, rfl, rfl, rfl, rfl, rfl, rfl, rfl, rfl, rfl, rfl, rfl, rfl, rfl, rfl, rfl, rfl, rfl, rfl, rfl, rfl, rfl, rfl, rfl, trivial⟩, hBd, (hKl.trans hKd)⟩
  rintro w25 ⟨hB25, hK25⟩
  have hE25 := hE.keep hK25
  clear hB24 h25 hK24 hE24
  refine gk_seq ?_
  refine gk_region ?_
  refine gr_v (ev_mv rfl) ?_
  obtain ⟨S26, h26, hm⟩ := thn_some hm
  refine gr_call (ec_func Tryz.call89 rfl) (c89  F _ bb _ _ hB25 h26) ?_
  rintro _ w26 ⟨rfl, hB26, hK26⟩
  have hE26 := hE25.keep hK26
  replace hK26 := (hK25.trans hK26)
  clear hB25 h26 hK25 hE25
  refine gr_nil ?_
  refine gk_seq ?_
  refine gk_region ?_
  refine gr_v (ev_mv rfl) ?_
  refine gr_v (ev_nil rfl) ?_
  refine gr_v (ev_fa (j := 0) rfl Tryz.runUnderlying131 rfl Tryz.sizeOf120 rfl rfl) ?_
  refine gr_v (ev_ld rfl Tryz.isAgg120 (hE26 _ _ hp).2 (by rfl)) ?_
  refine gr_v (ev_mv rfl) ?_
  obtain ⟨r27, S27, h27, hm⟩ := withV_some hm
  refine gr_call (ec_func Tryz.call90 rfl) (hO.pos F _ bb _ _ _ hE26 hB26 h27) ?_
  rintro _ w27 ⟨rfl, hB27, hK27⟩
  have hE27 := hE26.keep hK27
  replace hK27 := (hK26.trans hK27)
  clear hB26 h27 hK26 hE26
  refine gr_v (ev_as rfl) ?_
  refine gr_nil ?_
  refine gk_seq ?_
  refine gk_region ?_
  refine gr_v (ev_mv rfl) ?_
  refine gr_v (ev_mv rfl) ?_
  obtain ⟨S28, h28, hm⟩ := thn_some hm
  refine gr_call (ec_func Tryz.call91 rfl) (c91 (r27) F _ bb _ _ hB27 h28) ?_
  rintro _ w28 ⟨rfl, hB28, hK28⟩
  have hE28 := hE27.keep hK28
  replace hK28 := (hK27.trans hK28)
  clear hB27 h28 hK27 hE27
  refine gr_nil ?_
  refine gk_seq ?_
  refine gk_region ?_
  refine gr_v (ev_mv rfl) ?_
  refine gr_v (ev_mv rfl) ?_
  refine gr_v (ev_nil rfl) ?_
  refine gr_v (ev_fa (j := 1) rfl Tryz.runUnderlying131 rfl Tryz.sizeOf23 rfl rfl) ?_
  refine gr_v (ev_ld rfl Tryz.isAgg23 (hE28 _ _ hp).2 (by rfl)) ?_
  obtain ⟨S29, h29, hm⟩ := thn_some hm
  refine gr_call (ec_func Tryz.call92 rfl) (c92 (m.mana) F _ bb _ _ hB28 h29) ?_
  rintro _ w29 ⟨rfl, hB29, hK29⟩
  have hE29 := hE28.keep hK29
  replace hK29 := (hK28.trans hK29)
  clear hB28 h29 hK28 hE28
  refine gr_nil ?_
  refine gk_seq ?_
  refine gk_region ?_
  refine gr_v (ev_mv rfl) ?_
  refine gr_v (ev_mv rfl) ?_
  refine gr_v (ev_nil rfl) ?_
  refine gr_v (ev_fa (j := 2) rfl Tryz.runUnderlying131 rfl Tryz.sizeOf23 rfl rfl) ?_
  refine gr_v (ev_ld rfl Tryz.isAgg23 (hE29 _ _ hp).2 (by rfl)) ?_
  obtain ⟨S30, h30, hm⟩ := thn_some hm
  refine gr_call (ec_func Tryz.call93 rfl) (c93 (m.hp) F _ bb _ _ hB29 h30) ?_
  rintro _ w30 ⟨rfl, hB30, hK30⟩
  have hE30 := hE29.keep hK30
  replace hK30 := (hK29.trans hK30)
  clear hB29 h30 hK29 hE29
  refine gr_nil ?_
  refine gk_seq ?_
  refine gk_region ?_
  refine gr_v (ev_mv rfl) ?_
  refine gr_v (ev_mv rfl) ?_
  obtain ⟨S31, h31, hm⟩ := thn_some hm
  refine gr_call (ec_func Tryz.call94 rfl) (c94 (r1) F _ bb _ _ hB30 h31) ?_
  rintro _ w31 ⟨rfl, hB31, hK31⟩
  have hE31 := hE30.keep hK31
  replace hK31 := (hK30.trans hK31)
  clear hB30 h31 hK30 hE30
  refine gr_nil ?_
  refine gk_seq ?_
  refine gk_keep (l' := [(0, ptr p), (1, ptr bb), (5, U r1), (6, U r2), (7, U r3), (8, U r4), (11, U r5), (16, U r6), (21, U r7), (22, U r8), (23, U r9), (24, U r10), (27, U r11), (32, U r12), (35, U r13), (36, U r14), (39, U r15), (42, U r16), (45, U r17), (46, U r18), (51, U r19), (54, U r20), (59, U r21), (62, U r22), (65, U r23), (66, U r24), (67, U r25), (70, U r27)]) ⟨rfl, rfl, rfl, rfl, rfl, rfl, rfl, rfl, rfl, rfl, rfl, rfl, rfl, rfl, rfl, rfl, rfl, rfl, rfl, rfl, rfl, rfl, rfl, rfl, rfl, rfl, rfl, rfl, trivial⟩ ?_
  refine gk_region ?_
  refine gr_v (ev_mv rfl) ?_
  refine gr_v (ev_mv rfl) ?_
  obtain ⟨S32, h32, hm⟩ := thn_some hm
  refine gr_call (ec_func Tryz.call95 rfl) (c95 (r2) F _ bb _ _ hB31 h32) ?_
  rintro _ w32 ⟨rfl, hB32, hK32⟩
  have hE32 := hE31.keep hK32
  replace hK32 := (hK31.trans hK32)
  clear hB31 h32 hK31 hE31
  refine gr_nil ?_
  refine gk_seq ?_
  refine gk_region ?_
  refine gr_v (ev_mv rfl) ?_
  refine gr_v (ev_mv rfl) ?_
  refine gr_v (ev_nil rfl) ?_
  refine gr_v (ev_fa (j := 5) rfl Tryz.runUnderlying131 rfl Tryz.sizeOf112 rfl rfl) ?_
  refine gr_v (ev_ld rfl Tryz.isAgg112 (hE32 _ _ hp).2 (by rfl)) ?_
  obtain ⟨S33, h33, hm⟩ := thn_some hm
  refine gr_call (ec_func Tryz.call96 rfl) (c96 (m.color) F _ bb _ _ hB32 h33) ?_
  rintro _ w33 ⟨rfl, hB33, hK33⟩
  have hE33 := hE32.keep hK33
  replace hK33 := (hK32.trans hK33)
  clear hB32 h33 hK32 hE32
  refine gr_nil ?_
  refine gk_seq ?_
  refine gk_seq ?_
  refine gk_region ?_
  refine gr_v (ev_mv rfl) ?_
  refine gr_v (ev_nil rfl) ?_
  refine gr_v (ev_fa (j := 6) rfl Tryz.runUnderlying131 rfl Tryz.sizeOf121 rfl rfl) ?_
  refine gr_v (ev_ld rfl Tryz.isAgg121 (hE33 _ _ hp).2 (by rfl)) ?_
  refine gr_v (ev_unionneq hO.test rfl Tryz.runUnderlying121) ?_
  refine gr_nil ?_
  obtain ⟨S34, h34, hm⟩ := thn_some hm
  refine gk_cutn [(0, ptr p), (1, ptr bb), (5, U r1), (6, U r2), (7, U r3), (8, U r4), (11, U r5), (16, U r6), (21, U r7), (22, U r8), (23, U r9), (24, U r10), (27, U r11), (32, U r12), (35, U r13), (36, U r14), (39, U r15), (42, U r16), (45, U r17), (46, U r18), (51, U r19), (54, U r20), (59, U r21), (62, U r22), (65, U r23), (66, U r24), (67, U r25), (70, U r27)] (fun w' => Bld F w' bb S34 ∧ Keep F w w') ?_ ?_
  · intro Q0 k0
    rcases hO.test.2 with ⟨hu1, hu2⟩ | ⟨q, uk, ux, uf, hu1, hu2, hu⟩
    · skip
      rw [hu1] at h34
      obtain rfl := Option.some.inj h34
      refine gk_false rfl (by rw [hu1]; rfl) ?_
      refine gk_skip ?_
      refine gk_fin fun a ha => ?_
      exact ⟨ha.keep ⟨rfl, rfl, rfl, rfl, rfl, rfl, rfl, rfl, rfl, rfl, rfl, rfl, rfl, rfl, rfl, rfl, rfl, rfl, rfl, rfl, rfl, rfl, rfl, rfl, rfl, rfl, rfl, rfl, trivial⟩, hB33, hK33⟩
    · skip
      rw [hu1] at h34
      refine gk_true rfl (by rw [hu1]; rfl) ?_
      refine gk_region ?_
      refine gr_v (ev_mv rfl) ?_
      refine gr_v (ev_mv rfl) ?_
      refine gr_v (ev_nil rfl) ?_
      refine gr_v (ev_fa (j := 6) rfl Tryz.runUnderlying131 rfl Tryz.sizeOf121 rfl rfl) ?_
      refine gr_v (ev_ld rfl Tryz.isAgg121 (hE33 _ _ hp).2 (show (cells131 m x)[6]? = some (ptr q) from congrArg some hu2)) ?_
      refine gr_v (ev_nil rfl) ?_
      refine gr_v (ev_fa (j := 0) rfl Tryz.runUnderlying146 rfl Tryz.sizeOf143 rfl rfl) ?_
      refine gr_v (ev_ld rfl Tryz.isAgg143 (hE33 _ _ hu).2 (by rfl)) ?_
      refine gr_call (ec_func Tryz.call97 rfl) (c97 uk F _ bb _ _ hB33 h34) ?_
      rintro _ w34 ⟨rfl, hB34, hK34⟩
      refine gr_nil ?_
      refine gk_fin fun a ha => ?_
      exact ⟨ha.keep ⟨rfl, rfl, rfl, rfl, rfl, rfl, rfl, rfl, rfl, rfl, rfl, rfl, rfl, rfl, rfl, rfl, rfl, rfl, rfl, rfl, rfl, rfl, rfl, rfl, rfl, rfl, rfl, rfl, trivial⟩, hB34, (hK33.trans hK34)⟩
  rintro w34 ⟨hB34, hK34⟩
  have hE34 := hE.keep hK34
  clear hB33 h34 hK33 hE33
  refine gk_seq ?_
  refine gk_region ?_
  refine gr_v (ev_mv rfl) ?_
  refine gr_v (ev_mv rfl) ?_
  obtain ⟨S35, h35, hm⟩ := thn_some hm
  refine gr_call (ec_func Tryz.call98 rfl) (c98 (r3) F _ bb _ _ hB34 h35) ?_
  rintro _ w35 ⟨rfl, hB35, hK35⟩
  have hE35 := hE34.keep hK35
  replace hK35 := (hK34.trans hK35)
  clear hB34 h35 hK34 hE34
  refine gr_nil ?_
  refine gk_seq ?_
  refine gk_region ?_
  refine gr_v (ev_mv rfl) ?_
  refine gr_v (ev_mv rfl) ?_
  obtain ⟨S36, h36, hm⟩ := thn_some hm
  refine gr_call (ec_func Tryz.call99 rfl) (c99 (r4) F _ bb _ _ hB35 h36) ?_
  rintro _ w36 ⟨rfl, hB36, hK36⟩
  have hE36 := hE35.keep hK36
  replace hK36 := (hK35.trans hK36)
  clear hB35 h36 hK35 hE35
  refine gr_nil ?_
  refine gk_seq ?_
  refine gk_region ?_
  refine gr_v (ev_mv rfl) ?_
  refine gr_v (ev_mv rfl) ?_
  obtain ⟨S37, h37, hm⟩ := thn_some hm
  refine gr_call (ec_func Tryz.call100 rfl) (c100 (r5) F _ bb _ _ hB36 h37) ?_
  rintro _ w37 ⟨rfl, hB37, hK37⟩
  have hE37 := hE36.keep hK37
  replace hK37 := (hK36.trans hK37)
  clear hB36 h37 hK36 hE36
  refine gr_nil ?_
  refine gk_seq ?_
  refine gk_keep (l' := [(0, ptr p), (1, ptr bb), (5, U r1), (6, U r2), (7, U r3), (8, U r4), (11, U r5), (16, U r6), (21, U r7), (22, U r8), (23, U r9), (24, U r10), (27, U r11), (32, U r12), (35, U r13), (36, U r14), (39, U r15), (42, U r16), (45, U r17), (46, U r18), (51, U r19), (54, U r20), (59, U r21), (62, U r22), (65, U r23), (66, U r24), (67, U r25), (70, U r27)]) ⟨rfl, rfl, rfl, rfl, rfl, rfl, rfl, rfl, rfl, rfl, rfl, rfl, rfl, rfl, rfl, rfl, rfl, rfl, rfl, rfl, rfl, rfl, rfl, rfl, rfl, rfl, rfl, rfl, trivial⟩ ?_
  refine gk_region ?_
  refine gr_v (ev_mv rfl) ?_
  refine gr_v (ev_mv rfl) ?_
  obtain ⟨S38, h38, hm⟩ := thn_some hm
  refine gr_call (ec_func Tryz.call101 rfl) (c101 (r6) F _ bb _ _ hB37 h38) ?_
  rintro _ w38 ⟨rfl, hB38, hK38⟩
  have hE38 := hE37.keep hK38
  replace hK38 := (hK37.trans hK38)
  clear hB37 h38 hK37 hE37
  refine gr_nil ?_
  refine gk_seq ?_
  refine gk_region ?_
  refine gr_v (ev_mv rfl) ?_
  refine gr_v (ev_mv rfl) ?_
  obtain ⟨S39, h39, hm⟩ := thn_some hm
  refine gr_call (ec_func Tryz.call102 rfl) (c102 (r7) F _ bb _ _ hB38 h39) ?_
  rintro _ w39 ⟨rfl, hB39, hK39⟩
  have hE39 := hE38.keep hK39
  replace hK39 := (hK38.trans hK39)
  clear hB38 h39 hK38 hE38
  refine gr_nil ?_
  refine gk_seq ?_
  refine gk_region ?_
  refine gr_v (ev_mv rfl) ?_
  refine gr_v (ev_mv rfl) ?_
  obtain ⟨S40, h40, hm⟩ := thn_some hm
  refine gr_call (ec_func Tryz.call103 rfl) (c103 (r8) F _ bb _ _ hB39 h40) ?_
  rintro _ w40 ⟨rfl, hB40, hK40⟩
  have hE40 := hE39.keep hK40
  replace hK40 := (hK39.trans hK40)
  clear hB39 h40 hK39 hE39
  refine gr_nil ?_
  refine gk_seq ?_
  refine gk_region ?_
  refine gr_v (ev_mv rfl) ?_
  refine gr_v (ev_mv rfl) ?_
  obtain ⟨S41, h41, hm⟩ := thn_some hm
  refine gr_call (ec_func Tryz.call104 rfl) (c104 (r9) F _ bb _ _ hB40 h41) ?_
  rintro _ w41 ⟨rfl, hB41, hK41⟩
  have hE41 := hE40.keep hK41
  replace hK41 := (hK40.trans hK41)
  clear hB40 h41 hK40 hE40
  refine gr_nil ?_
  refine gk_seq ?_
  refine gk_region ?_
  refine gr_v (ev_mv rfl) ?_
  refine gr_v (ev_mv rfl) ?_
  refine gr_v (ev_nil rfl) ?_
  refine gr_v (ev_fa (j := 13) rfl Tryz.runUnderlying131 rfl Tryz.sizeOf4 rfl rfl) ?_
  refine gr_v (ev_ld rfl Tryz.isAgg4 (hE41 _ _ hp).2 (by rfl)) ?_
  obtain ⟨S42, h42, hm⟩ := thn_some hm
  refine gr_call (ec_func Tryz.call105 rfl) (c105 (m.tbool) F _ bb _ _ hB41 h42) ?_
  rintro _ w42 ⟨rfl, hB42, hK42⟩
  have hE42 := hE41.keep hK42
  replace hK42 := (hK41.trans hK42)
  clear hB41 h42 hK41 hE41
  refine gr_nil ?_
  refine gk_seq ?_
  refine gk_region ?_
  refine gr_v (ev_mv rfl) ?_
  refine gr_v (ev_mv rfl) ?_
  refine gr_v (ev_nil rfl) ?_
  refine gr_v (ev_fa (j := 14) rfl Tryz.runUnderlying131 rfl Tryz.sizeOf21 rfl rfl) ?_
  refine gr_v (ev_ld rfl Tryz.isAgg21 (hE42 _ _ hp).2 (by rfl)) ?_
  obtain ⟨S43, h43, hm⟩ := thn_some hm
  refine gr_call (ec_func Tryz.call106 rfl) (c106 (m.s32) F _ bb _ _ hB42 h43) ?_
  rintro _ w43 ⟨rfl, hB43, hK43⟩
  have hE43 := hE42.keep hK43
  replace hK43 := (hK42.trans hK43)
  clear hB42 h43 hK42 hE42
  refine gr_nil ?_
  refine gk_seq ?_
  refine gk_keep (l' := [(0, ptr p), (1, ptr bb), (5, U r1), (6, U r2), (7, U r3), (8, U r4), (11, U r5), (16, U r6), (21, U r7), (22, U r8), (23, U r9), (24, U r10), (27, U r11), (32, U r12), (35, U r13), (36, U r14), (39, U r15), (42, U r16), (45, U r17), (46, U r18), (51, U r19), (54, U r20), (59, U r21), (62, U r22), (65, U r23), (66, U r24), (67, U r25), (70, U r27)]) ⟨rfl, rfl, rfl, rfl, rfl, rfl, rfl, rfl, rfl, rfl, rfl, rfl, rfl, rfl, rfl, rfl, rfl, rfl, rfl, rfl, rfl, rfl, rfl, rfl, rfl, rfl, rfl, rfl, trivial⟩ ?_
  refine gk_region ?_
  refine gr_v (ev_mv rfl) ?_
  refine gr_v (ev_mv rfl) ?_
  refine gr_v (ev_nil rfl) ?_
  refine gr_v (ev_fa (j := 15) rfl Tryz.runUnderlying131 rfl Tryz.sizeOf30 rfl rfl) ?_
  refine gr_v (ev_ld rfl Tryz.isAgg30 (hE43 _ _ hp).2 (by rfl)) ?_
  obtain ⟨S44, h44, hm⟩ := thn_some hm
  refine gr_call (ec_func Tryz.call107 rfl) (c107 (m.u32) F _ bb _ _ hB43 h44) ?_
  rintro _ w44 ⟨rfl, hB44, hK44⟩
  have hE44 := hE43.keep hK44
  replace hK44 := (hK43.trans hK44)
  clear hB43 h44 hK43 hE43
  refine gr_nil ?_
  refine gk_seq ?_
  refine gk_region ?_
  refine gr_v (ev_mv rfl) ?_
  refine gr_v (ev_mv rfl) ?_
  refine gr_v (ev_nil rfl) ?_
  refine gr_v (ev_fa (j := 16) rfl Tryz.runUnderlying131 rfl Tryz.sizeOf2 rfl rfl) ?_
  refine gr_v (ev_ld rfl Tryz.isAgg2 (hE44 _ _ hp).2 (by rfl)) ?_
  obtain ⟨S45, h45, hm⟩ := thn_some hm
  refine gr_call (ec_func Tryz.call108 rfl) (c108 (m.s64) F _ bb _ _ hB44 h45) ?_
  rintro _ w45 ⟨rfl, hB45, hK45⟩
  have hE45 := hE44.keep hK45
  replace hK45 := (hK44.trans hK45)
  clear hB44 h45 hK44 hE44
  refine gr_nil ?_
  refine gk_seq ?_
  refine gk_region ?_
  refine gr_v (ev_mv rfl) ?_
  refine gr_v (ev_mv rfl) ?_
  refine gr_v (ev_nil rfl) ?_
  refine gr_v (ev_fa (j := 17) rfl Tryz.runUnderlying131 rfl Tryz.sizeOf31 rfl rfl) ?_
  refine gr_v (ev_ld rfl Tryz.isAgg31 (hE45 _ _ hp).2 (by rfl)) ?_
  obtain ⟨S46, h46, hm⟩ := thn_some hm
  refine gr_call (ec_func Tryz.call109 rfl) (c109 (m.u64) F _ bb _ _ hB45 h46) ?_
  rintro _ w46 ⟨rfl, hB46, hK46⟩
  have hE46 := hE45.keep hK46
  replace hK46 := (hK45.trans hK46)
  clear hB45 h46 hK45 hE45
  refine gr_nil ?_
  refine gk_seq ?_
  refine gk_region ?_
  refine gr_v (ev_mv rfl) ?_
  refine gr_v (ev_mv rfl) ?_
  refine gr_v (ev_nil rfl) ?_
  refine gr_v (ev_fa (j := 18) rfl Tryz.runUnderlying131 rfl Tryz.sizeOf21 rfl rfl) ?_
  refine gr_v (ev_ld rfl Tryz.isAgg21 (hE46 _ _ hp).2 (by rfl)) ?_
  obtain ⟨S47, h47, hm⟩ := thn_some hm
  refine gr_call (ec_func Tryz.call110 rfl) (c110 (m.s32a) F _ bb _ _ hB46 h47) ?_
  rintro _ w47 ⟨rfl, hB47, hK47⟩
  have hE47 := hE46.keep hK47
  replace hK47 := (hK46.trans hK47)
  clear hB46 h47 hK46 hE46
  refine gr_nil ?_
  refine gk_seq ?_
  refine gk_region ?_
  refine gr_v (ev_mv rfl) ?_
  refine gr_v (ev_mv rfl) ?_
  refine gr_v (ev_nil rfl) ?_
  refine gr_v (ev_fa (j := 19) rfl Tryz.runUnderlying131 rfl Tryz.sizeOf30 rfl rfl) ?_
  refine gr_v (ev_ld rfl Tryz.isAgg30 (hE47 _ _ hp).2 (by rfl)) ?_
  obtain ⟨S48, h48, hm⟩ := thn_some hm
  refine gr_call (ec_func Tryz.call111 rfl) (c111 (m.u32a) F _ bb _ _ hB47 h48) ?_
  rintro _ w48 ⟨rfl, hB48, hK48⟩
  have hE48 := hE47.keep hK48
  replace hK48 := (hK47.trans hK48)
  clear hB47 h48 hK47 hE47
  refine gr_nil ?_
  refine gk_seq ?_
  refine gk_region ?_
  refine gr_v (ev_mv rfl) ?_
  refine gr_v (ev_mv rfl) ?_
  refine gr_v (ev_nil rfl) ?_
  refine gr_v (ev_fa (j := 20) rfl Tryz.runUnderlying131 rfl Tryz.sizeOf2 rfl rfl) ?_
  refine gr_v (ev_ld rfl Tryz.isAgg2 (hE48 _ _ hp).2 (by rfl)) ?_
  obtain ⟨S49, h49, hm⟩ := thn_some hm
  refine gr_call (ec_func Tryz.call112 rfl) (c112 (m.s64a) F _ bb _ _ hB48 h49) ?_
  rintro _ w49 ⟨rfl, hB49, hK49⟩
  have hE49 := hE48.keep hK49
  replace hK49 := (hK48.trans hK49)
  clear hB48 h49 hK48 hE48
  refine gr_nil ?_
  refine gk_seq ?_
  refine gk_keep (l' := [(0, ptr p), (1, ptr bb), (5, U r1), (6, U r2), (7, U r3), (8, U r4), (11, U r5), (16, U r6), (21, U r7), (22, U r8), (23, U r9), (24, U r10), (27, U r11), (32, U r12), (35, U r13), (36, U r14), (39, U r15), (42, U r16), (45, U r17), (46, U r18), (51, U r19), (54, U r20), (59, U r21), (62, U r22), (65, U r23), (66, U r24), (67, U r25), (70, U r27)]) ⟨rfl, rfl, rfl, rfl, rfl, rfl, rfl, rfl, rfl, rfl, rfl, rfl, rfl, rfl, rfl, rfl, rfl, rfl, rfl, rfl, rfl, rfl, rfl, rfl, rfl, rfl, rfl, rfl, trivial⟩ ?_
  refine gk_region ?_
  refine gr_v (ev_mv rfl) ?_
  refine gr_v (ev_mv rfl) ?_
  refine gr_v (ev_nil rfl) ?_
  refine gr_v (ev_fa (j := 21) rfl Tryz.runUnderlying131 rfl Tryz.sizeOf31 rfl rfl) ?_
  refine gr_v (ev_ld rfl Tryz.isAgg31 (hE49 _ _ hp).2 (by rfl)) ?_
  obtain ⟨S50, h50, hm⟩ := thn_some hm
  refine gr_call (ec_func Tryz.call113 rfl) (c113 (m.u64a) F _ bb _ _ hB49 h50) ?_
  rintro _ w50 ⟨rfl, hB50, hK50⟩
  have hE50 := hE49.keep hK50
  replace hK50 := (hK49.trans hK50)
  clear hB49 h50 hK49 hE49
  refine gr_nil ?_
  refine gk_seq ?_
  refine gk_region ?_
  refine gr_v (ev_mv rfl) ?_
  refine gr_v (ev_mv rfl) ?_
  obtain ⟨S51, h51, hm⟩ := thn_some hm
  refine gr_call (ec_func Tryz.call114 rfl) (c114 (r10) F _ bb _ _ hB50 h51) ?_
  rintro _ w51 ⟨rfl, hB51, hK51⟩
  have hE51 := hE50.keep hK51
  replace hK51 := (hK50.trans hK51)
  clear hB50 h51 hK50 hE50
  refine gr_nil ?_
  refine gk_seq ?_
  refine gk_region ?_
  refine gr_v (ev_mv rfl) ?_
  refine gr_v (ev_mv rfl) ?_
  refine gr_v (ev_nil rfl) ?_
  refine gr_v (ev_fa (j := 23) rfl Tryz.runUnderlying131 rfl Tryz.sizeOf115 rfl rfl) ?_
  refine gr_v (ev_ld rfl Tryz.isAgg115 (hE51 _ _ hp).2 (by rfl)) ?_
  obtain ⟨S52, h52, hm⟩ := thn_some hm
  refine gr_call (ec_func Tryz.call115 rfl) (c115 (m.f1) F _ bb _ _ hB51 h52) ?_
  rintro _ w52 ⟨rfl, hB52, hK52⟩
  have hE52 := hE51.keep hK52
  replace hK52 := (hK51.trans hK52)
  clear hB51 h52 hK51 hE51
  refine gr_nil ?_
  refine gk_seq ?_
  refine gk_region ?_
  refine gr_v (ev_mv rfl) ?_
  refine gr_v (ev_mv rfl) ?_
  refine gr_v (ev_nil rfl) ?_
  refine gr_v (ev_fa (j := 24) rfl Tryz.runUnderlying131 rfl Tryz.sizeOf115 rfl rfl) ?_
  refine gr_v (ev_ld rfl Tryz.isAgg115 (hE52 _ _ hp).2 (by rfl)) ?_
  obtain ⟨S53, h53, hm⟩ := thn_some hm
  refine gr_call (ec_func Tryz.call116 rfl) (c116 (m.f2) F _ bb _ _ hB52 h53) ?_
  rintro _ w53 ⟨rfl, hB53, hK53⟩
  have hE53 := hE52.keep hK53
  replace hK53 := (hK52.trans hK53)
  clear hB52 h53 hK52 hE52
  refine gr_nil ?_
  refine gk_seq ?_
  refine gk_region ?_
  refine gr_v (ev_mv rfl) ?_
  refine gr_v (ev_mv rfl) ?_
  refine gr_v (ev_nil rfl) ?_
  refine gr_v (ev_fa (j := 25) rfl Tryz.runUnderlying131 rfl Tryz.sizeOf115 rfl rfl) ?_
  refine gr_v (ev_ld rfl Tryz.isAgg115 (hE53 _ _ hp).2 (by rfl)) ?_
  obtain ⟨S54, h54, hm⟩ := thn_some hm
  refine gr_call (ec_func Tryz.call117 rfl) (c117 (m.f3) F _ bb _ _ hB53 h54) ?_
  rintro _ w54 ⟨rfl, hB54, hK54⟩
  have hE54 := hE53.keep hK54
  replace hK54 := (hK53.trans hK54)
  clear hB53 h54 hK53 hE53
  refine gr_nil ?_
  refine gk_seq ?_
  refine gk_region ?_
  refine gr_v (ev_mv rfl) ?_
  refine gr_v (ev_mv rfl) ?_
  obtain ⟨S55, h55, hm⟩ := thn_some hm
  refine gr_call (ec_func Tryz.call118 rfl) (c118 (r11) F _ bb _ _ hB54 h55) ?_
  rintro _ w55 ⟨rfl, hB55, hK55⟩
  have hE55 := hE54.keep hK55
  replace hK55 := (hK54.trans hK55)
  clear hB54 h55 hK54 hE54
  refine gr_nil ?_
  refine gk_seq ?_
  refine gk_keep (l' := [(0, ptr p), (1, ptr bb), (5, U r1), (6, U r2), (7, U r3), (8, U r4), (11, U r5), (16, U r6), (21, U r7), (22, U r8), (23, U r9), (24, U r10), (27, U r11), (32, U r12), (35, U r13), (36, U r14), (39, U r15), (42, U r16), (45, U r17), (46, U r18), (51, U r19), (54, U r20), (59, U r21), (62, U r22), (65, U r23), (66, U r24), (67, U r25), (70, U r27)]) ⟨rfl, rfl, rfl, rfl, rfl, rfl, rfl, rfl, rfl, rfl, rfl, rfl, rfl, rfl, rfl, rfl, rfl, rfl, rfl, rfl, rfl, rfl, rfl, rfl, rfl, rfl, rfl, rfl, trivial⟩ ?_
  refine gk_region ?_
  refine gr_v (ev_mv rfl) ?_
  refine gr_v (ev_mv rfl) ?_
  obtain ⟨S56, h56, hm⟩ := thn_some hm
  refine gr_call (ec_func Tryz.call119 rfl) (c119 (r12) F _ bb _ _ hB55 h56) ?_
  rintro _ w56 ⟨rfl, hB56, hK56⟩
  have hE56 := hE55.keep hK56
  replace hK56 := (hK55.trans hK56)
  clear hB55 h56 hK55 hE55
  refine gr_nil ?_
  refine gk_seq ?_
  refine gk_region ?_
  refine gr_v (ev_mv rfl) ?_
  refine gr_v (ev_mv rfl) ?_
  obtain ⟨S57, h57, hm⟩ := thn_some hm
  refine gr_call (ec_func Tryz.call120 rfl) (c120 (r13) F _ bb _ _ hB56 h57) ?_
  rintro _ w57 ⟨rfl, hB57, hK57⟩
  have hE57 := hE56.keep hK57
  replace hK57 := (hK56.trans hK57)
  clear hB56 h57 hK56 hE56
  refine gr_nil ?_
  refine gk_seq ?_
  refine gk_region ?_
  refine gr_v (ev_mv rfl) ?_
  refine gr_v (ev_mv rfl) ?_
  obtain ⟨S58, h58, hm⟩ := thn_some hm
  refine gr_call (ec_func Tryz.call121 rfl) (c121 (r14) F _ bb _ _ hB57 h58) ?_
  rintro _ w58 ⟨rfl, hB58, hK58⟩
  have hE58 := hE57.keep hK58
  replace hK58 := (hK57.trans hK58)
  clear hB57 h58 hK57 hE57
  refine gr_nil ?_
  refine gk_seq ?_
  refine gk_region ?_
  refine gr_v (ev_mv rfl) ?_
  refine gr_v (ev_mv rfl) ?_
  obtain ⟨S59, h59, hm⟩ := thn_some hm
  refine gr_call (ec_func Tryz.call122 rfl) (c122 (r15) F _ bb _ _ hB58 h59) ?_
  rintro _ w59 ⟨rfl, hB59, hK59⟩
  have hE59 := hE58.keep hK59
  replace hK59 := (hK58.trans hK59)
  clear hB58 h59 hK58 hE58
  refine gr_nil ?_
  refine gk_seq ?_
  refine gk_region ?_
  refine gr_v (ev_mv rfl) ?_
  refine gr_v (ev_mv rfl) ?_
  obtain ⟨S60, h60, hm⟩ := thn_some hm
  refine gr_call (ec_func Tryz.call123 rfl) (c123 (r16) F _ bb _ _ hB59 h60) ?_
  rintro _ w60 ⟨rfl, hB60, hK60⟩
  have hE60 := hE59.keep hK60
  replace hK60 := (hK59.trans hK60)
  clear hB59 h60 hK59 hE59
  refine gr_nil ?_
  refine gk_seq ?_
  refine gk_region ?_
  refine gr_v (ev_mv rfl) ?_
  refine gr_v (ev_mv rfl) ?_
  obtain ⟨S61, h61, hm⟩ := thn_some hm
  refine gr_call (ec_func Tryz.call124 rfl) (c124 (r17) F _ bb _ _ hB60 h61) ?_
  rintro _ w61 ⟨rfl, hB61, hK61⟩
  have hE61 := hE60.keep hK61
  replace hK61 := (hK60.trans hK61)
  clear hB60 h61 hK60 hE60
  refine gr_nil ?_
  refine gk_seq ?_
  refine gk_keep (l' := [(0, ptr p), (1, ptr bb), (5, U r1), (6, U r2), (7, U r3), (8, U r4), (11, U r5), (16, U r6), (21, U r7), (22, U r8), (23, U r9), (24, U r10), (27, U r11), (32, U r12), (35, U r13), (36, U r14), (39, U r15), (42, U r16), (45, U r17), (46, U r18), (51, U r19), (54, U r20), (59, U r21), (62, U r22), (65, U r23), (66, U r24), (67, U r25), (70, U r27)]) ⟨rfl, rfl, rfl, rfl, rfl, rfl, rfl, rfl, rfl, rfl, rfl, rfl, rfl, rfl, rfl, rfl, rfl, rfl, rfl, rfl, rfl, rfl, rfl, rfl, rfl, rfl, rfl, rfl, trivial⟩ ?_
  refine gk_region ?_
  refine gr_v (ev_mv rfl) ?_
  refine gr_v (ev_mv rfl) ?_
  obtain ⟨S62, h62, hm⟩ := thn_some hm
  refine gr_call (ec_func Tryz.call125 rfl) (c125 (r18) F _ bb _ _ hB61 h62) ?_
  rintro _ w62 ⟨rfl, hB62, hK62⟩
  have hE62 := hE61.keep hK62
  replace hK62 := (hK61.trans hK62)
  clear hB61 h62 hK61 hE61
  refine gr_nil ?_
  refine gk_seq ?_
  refine gk_region ?_
  refine gr_v (ev_mv rfl) ?_
  refine gr_v (ev_mv rfl) ?_
  refine gr_v (ev_nil rfl) ?_
  refine gr_v (ev_fa (j := 34) rfl Tryz.runUnderlying131 rfl Tryz.sizeOf31 rfl rfl) ?_
  refine gr_v (ev_ld rfl Tryz.isAgg31 (hE62 _ _ hp).2 (by rfl)) ?_
  obtain ⟨S63, h63, hm⟩ := thn_some hm
  refine gr_call (ec_func Tryz.call126 rfl) (c126 (m.single) F _ bb _ _ hB62 h63) ?_
  rintro _ w63 ⟨rfl, hB63, hK63⟩
  have hE63 := hE62.keep hK63
  replace hK63 := (hK62.trans hK63)
  clear hB62 h63 hK62 hE62
  refine gr_nil ?_
  refine gk_seq ?_
  refine gk_region ?_
  refine gr_v (ev_mv rfl) ?_
  refine gr_v (ev_mv rfl) ?_
  obtain ⟨S64, h64, hm⟩ := thn_some hm
  refine gr_call (ec_func Tryz.call127 rfl) (c127 (r19) F _ bb _ _ hB63 h64) ?_
  rintro _ w64 ⟨rfl, hB64, hK64⟩
  have hE64 := hE63.keep hK64
  replace hK64 := (hK63.trans hK64)
  clear hB63 h64 hK63 hE63
  refine gr_nil ?_
  refine gk_seq ?_
  refine gk_region ?_
  refine gr_v (ev_mv rfl) ?_
  refine gr_v (ev_mv rfl) ?_
  obtain ⟨S65, h65, hm⟩ := thn_some hm
  refine gr_call (ec_func Tryz.call128 rfl) (c128 (r20) F _ bb _ _ hB64 h65) ?_
  rintro _ w65 ⟨rfl, hB65, hK65⟩
  have hE65 := hE64.keep hK65
  replace hK65 := (hK64.trans hK65)
  clear hB64 h65 hK64 hE64
  refine gr_nil ?_
  refine gk_seq ?_
  refine gk_region ?_
  refine gr_v (ev_mv rfl) ?_
  refine gr_v (ev_mv rfl) ?_
  refine gr_v (ev_nil rfl) ?_
  refine gr_v (ev_fa (j := 37) rfl Tryz.runUnderlying131 rfl Tryz.sizeOf31 rfl rfl) ?_
  refine gr_v (ev_ld rfl Tryz.isAgg31 (hE65 _ _ hp).2 (by rfl)) ?_
  obtain ⟨S66, h66, hm⟩ := thn_some hm
  refine gr_call (ec_func Tryz.call129 rfl) (c129 (m.co) F _ bb _ _ hB65 h66) ?_
  rintro _ w66 ⟨rfl, hB66, hK66⟩
  have hE66 := hE65.keep hK66
  replace hK66 := (hK65.trans hK66)
  clear hB65 h66 hK65 hE65
  refine gr_nil ?_
  refine gk_seq ?_
  refine gk_region ?_
  refine gr_v (ev_mv rfl) ?_
  refine gr_v (ev_mv rfl) ?_
  obtain ⟨S67, h67, hm⟩ := thn_some hm
  refine gr_call (ec_func Tryz.call130 rfl) (c130 (r21) F _ bb _ _ hB66 h67) ?_
  rintro _ w67 ⟨rfl, hB67, hK67⟩
  have hE67 := hE66.keep hK67
  replace hK67 := (hK66.trans hK67)
  clear hB66 h67 hK66 hE66
  refine gr_nil ?_
  refine gk_seq ?_
  refine gk_keep (l' := [(0, ptr p), (1, ptr bb), (5, U r1), (6, U r2), (7, U r3), (8, U r4), (11, U r5), (16, U r6), (21, U r7), (22, U r8), (23, U r9), (24, U r10), (27, U r11), (32, U r12), (35, U r13), (36, U r14), (39, U r15), (42, U r16), (45, U r17), (46, U r18), (51, U r19), (54, U r20), (59, U r21), (62, U r22), (65, U r23), (66, U r24), (67, U r25), (70, U r27)]) ⟨rfl, rfl, rfl, rfl, rfl, rfl, rfl, rfl, rfl, rfl, rfl, rfl, rfl, rfl, rfl, rfl, rfl, rfl, rfl, rfl, rfl, rfl, rfl, rfl, rfl, rfl, rfl, rfl, trivial⟩ ?_
  refine gk_region ?_
  refine gr_v (ev_mv rfl) ?_
  refine gr_v (ev_mv rfl) ?_
  refine gr_v (ev_nil rfl) ?_
  refine gr_v (ev_fa (j := 39) rfl Tryz.runUnderlying131 rfl Tryz.sizeOf31 rfl rfl) ?_
  refine gr_v (ev_ld rfl Tryz.isAgg31 (hE67 _ _ hp).2 (by rfl)) ?_
  obtain ⟨S68, h68, hm⟩ := thn_some hm
  refine gr_call (ec_func Tryz.call131 rfl) (c131 (m.non) F _ bb _ _ hB67 h68) ?_
  rintro _ w68 ⟨rfl, hB68, hK68⟩
  have hE68 := hE67.keep hK68
  replace hK68 := (hK67.trans hK68)
  clear hB67 h68 hK67 hE67
  refine gr_nil ?_
  refine gk_seq ?_
  refine gk_region ?_
  refine gr_v (ev_mv rfl) ?_
  refine gr_v (ev_mv rfl) ?_
  obtain ⟨S69, h69, hm⟩ := thn_some hm
  refine gr_call (ec_func Tryz.call132 rfl) (c132 (r22) F _ bb _ _ hB68 h69) ?_
  rintro _ w69 ⟨rfl, hB69, hK69⟩
  have hE69 := hE68.keep hK69
  replace hK69 := (hK68.trans hK69)
  clear hB68 h69 hK68 hE68
  refine gr_nil ?_
  refine gk_seq ?_
  refine gk_seq ?_
  refine gk_region ?_
  refine gr_v (ev_mv rfl) ?_
  refine gr_v (ev_nil rfl) ?_
  refine gr_v (ev_fa (j := 41) rfl Tryz.runUnderlying131 rfl Tryz.sizeOf127 rfl rfl) ?_
  refine gr_v (ev_ld rfl Tryz.isAgg127 (hE69 _ _ hp).2 (by rfl)) ?_
  refine gr_v (ev_unionneq hO.anyU rfl Tryz.runUnderlying127) ?_
  refine gr_nil ?_
  obtain ⟨S70, h70, hm⟩ := thn_some hm
  refine gk_cutn [(0, ptr p), (1, ptr bb), (5, U r1), (6, U r2), (7, U r3), (8, U r4), (11, U r5), (16, U r6), (21, U r7), (22, U r8), (23, U r9), (24, U r10), (27, U r11), (32, U r12), (35, U r13), (36, U r14), (39, U r15), (42, U r16), (45, U r17), (46, U r18), (51, U r19), (54, U r20), (59, U r21), (62, U r22), (65, U r23), (66, U r24), (67, U r25), (70, U r27)] (fun w' => Bld F w' bb S70 ∧ Keep F w w') ?_ ?_
  · intro Q0 k0
    rcases hO.anyU.2 with ⟨hu1, hu2⟩ | ⟨q, uk, ux, uf, hu1, hu2, hu⟩
    · skip
      rw [hu1] at h70
      obtain rfl := Option.some.inj h70
      refine gk_false rfl (by rw [hu1]; rfl) ?_
      refine gk_skip ?_
      refine gk_fin fun a ha => ?_
      exact ⟨ha.keep ⟨rfl, rfl, rfl, rfl, rfl, rfl, rfl, rfl, rfl, rfl, rfl, rfl, rfl, rfl, rfl, rfl, rfl, rfl, rfl, rfl, rfl, rfl, rfl, rfl, rfl, rfl, rfl, rfl, trivial⟩, hB69, hK69⟩
    · skip
      rw [hu1] at h70
      refine gk_true rfl (by rw [hu1]; rfl) ?_
      refine gk_region ?_
      refine gr_v (ev_mv rfl) ?_
      refine gr_v (ev_mv rfl) ?_
      refine gr_v (ev_nil rfl) ?_
      refine gr_v (ev_fa (j := 41) rfl Tryz.runUnderlying131 rfl Tryz.sizeOf127 rfl rfl) ?_
      refine gr_v (ev_ld rfl Tryz.isAgg127 (hE69 _ _ hp).2 (show (cells131 m x)[41]? = some (ptr q) from congrArg some hu2)) ?_
      refine gr_v (ev_nil rfl) ?_
      refine gr_v (ev_fa (j := 0) rfl Tryz.runUnderlying149 rfl Tryz.sizeOf147 rfl rfl) ?_
      refine gr_v (ev_ld rfl Tryz.isAgg147 (hE69 _ _ hu).2 (by rfl)) ?_
      refine gr_call (ec_func Tryz.call133 rfl) (c133 uk F _ bb _ _ hB69 h70) ?_
      rintro _ w70 ⟨rfl, hB70, hK70⟩
      refine gr_nil ?_
      refine gk_fin fun a ha => ?_
      exact ⟨ha.keep ⟨rfl, rfl, rfl, rfl, rfl, rfl, rfl, rfl, rfl, rfl, rfl, rfl, rfl, rfl, rfl, rfl, rfl, rfl, rfl, rfl, rfl, rfl, rfl, rfl, rfl, rfl, rfl, rfl, trivial⟩, hB70, (hK69.trans hK70)⟩
  rintro w70 ⟨hB70, hK70⟩
  have hE70 := hE.keep hK70
  clear hB69 h70 hK69 hE69
  refine gk_seq ?_
  refine gk_region ?_
  refine gr_v (ev_mv rfl) ?_
  refine gr_v (ev_mv rfl) ?_
  obtain ⟨S71, h71, hm⟩ := thn_some hm
  refine gr_call (ec_func Tryz.call134 rfl) (c134 (r23) F _ bb _ _ hB70 h71) ?_
  rintro _ w71 ⟨rfl, hB71, hK71⟩
  have hE71 := hE70.keep hK71
  replace hK71 := (hK70.trans hK71)
  clear hB70 h71 hK70 hE70
  refine gr_nil ?_
  refine gk_seq ?_
  refine gk_seq ?_
  refine gk_region ?_
  refine gr_v (ev_mv rfl) ?_
  refine gr_v (ev_nil rfl) ?_
  refine gr_v (ev_fa (j := 42) rfl Tryz.runUnderlying131 rfl Tryz.sizeOf128 rfl rfl) ?_
  refine gr_v (ev_ld rfl Tryz.isAgg128 (hE71 _ _ hp).2 (by rfl)) ?_
  refine gr_v (ev_unionneq hO.anyA rfl Tryz.runUnderlying128) ?_
  refine gr_nil ?_
  obtain ⟨S72, h72, hm⟩ := thn_some hm
  refine gk_cutn [(0, ptr p), (1, ptr bb), (5, U r1), (6, U r2), (7, U r3), (8, U r4), (11, U r5), (16, U r6), (21, U r7), (22, U r8), (23, U r9), (24, U r10), (27, U r11), (32, U r12), (35, U r13), (36, U r14), (39, U r15), (42, U r16), (45, U r17), (46, U r18), (51, U r19), (54, U r20), (59, U r21), (62, U r22), (65, U r23), (66, U r24), (67, U r25), (70, U r27)] (fun w' => Bld F w' bb S72 ∧ Keep F w w') ?_ ?_
  · intro Q0 k0
    rcases hO.anyA.2 with ⟨hu1, hu2⟩ | ⟨q, uk, ux, uf, hu1, hu2, hu⟩
    · skip
      rw [hu1] at h72
      obtain rfl := Option.some.inj h72
      refine gk_false rfl (by rw [hu1]; rfl) ?_
      refine gk_skip ?_
      refine gk_fin fun a ha => ?_
      exact ⟨ha.keep ⟨rfl, rfl, rfl, rfl, rfl, rfl, rfl, rfl, rfl, rfl, rfl, rfl, rfl, rfl, rfl, rfl, rfl, rfl, rfl, rfl, rfl, rfl, rfl, rfl, rfl, rfl, rfl, rfl, trivial⟩, hB71, hK71⟩
    · skip
      rw [hu1] at h72
      refine gk_true rfl (by rw [hu1]; rfl) ?_
      refine gk_region ?_
      refine gr_v (ev_mv rfl) ?_
      refine gr_v (ev_mv rfl) ?_
      refine gr_v (ev_nil rfl) ?_
      refine gr_v (ev_fa (j := 42) rfl Tryz.runUnderlying131 rfl Tryz.sizeOf128 rfl rfl) ?_
      refine gr_v (ev_ld rfl Tryz.isAgg128 (hE71 _ _ hp).2 (show (cells131 m x)[42]? = some (ptr q) from congrArg some hu2)) ?_
      refine gr_v (ev_nil rfl) ?_
      refine gr_v (ev_fa (j := 0) rfl Tryz.runUnderlying153 rfl Tryz.sizeOf150 rfl rfl) ?_
      refine gr_v (ev_ld rfl Tryz.isAgg150 (hE71 _ _ hu).2 (by rfl)) ?_
      refine gr_call (ec_func Tryz.call135 rfl) (c135 uk F _ bb _ _ hB71 h72) ?_
      rintro _ w72 ⟨rfl, hB72, hK72⟩
      refine gr_nil ?_
      refine gk_fin fun a ha => ?_
      exact ⟨ha.keep ⟨rfl, rfl, rfl, rfl, rfl, rfl, rfl, rfl, rfl, rfl, rfl, rfl, rfl, rfl, rfl, rfl, rfl, rfl, rfl, rfl, rfl, rfl, rfl, rfl, rfl, rfl, rfl, rfl, trivial⟩, hB72, (hK71.trans hK72)⟩
  rintro w72 ⟨hB72, hK72⟩
  have hE72 := hE.keep hK72
  clear hB71 h72 hK71 hE71
  refine gk_seq ?_
  refine gk_region ?_
  refine gr_v (ev_mv rfl) ?_
  refine gr_v (ev_mv rfl) ?_
  obtain ⟨S73, h73, hm⟩ := thn_some hm
  refine gr_call (ec_func Tryz.call136 rfl) (c136 (r24) F _ bb _ _ hB72 h73) ?_
  rintro _ w73 ⟨rfl, hB73, hK73⟩
  have hE73 := hE72.keep hK73
  replace hK73 := (hK72.trans hK73)
  clear hB72 h73 hK72 hE72
  refine gr_nil ?_
  refine gk_seq ?_
  refine gk_keep (l' := [(0, ptr p), (1, ptr bb), (5, U r1), (6, U r2), (7, U r3), (8, U r4), (11, U r5), (16, U r6), (21, U r7), (22, U r8), (23, U r9), (24, U r10), (27, U r11), (32, U r12), (35, U r13), (36, U r14), (39, U r15), (42, U r16), (45, U r17), (46, U r18), (51, U r19), (54, U r20), (59, U r21), (62, U r22), (65, U r23), (66, U r24), (67, U r25), (70, U r27)]) ⟨rfl, rfl, rfl, rfl, rfl, rfl, rfl, rfl, rfl, rfl, rfl, rfl, rfl, rfl, rfl, rfl, rfl, rfl, rfl, rfl, rfl, rfl, rfl, rfl, rfl, rfl, rfl, rfl, trivial⟩ ?_
  refine gk_region ?_
  refine gr_v (ev_mv rfl) ?_
  refine gr_v (ev_mv rfl) ?_
  obtain ⟨S74, h74, hm⟩ := thn_some hm
  refine gr_call (ec_func Tryz.call137 rfl) (c137 (r25) F _ bb _ _ hB73 h74) ?_
  rintro _ w74 ⟨rfl, hB74, hK74⟩
  have hE74 := hE73.keep hK74
  replace hK74 := (hK73.trans hK74)
  clear hB73 h74 hK73 hE73
  refine gr_nil ?_
  refine gk_seq ?_
  refine gk_region ?_
  refine gr_v (ev_mv rfl) ?_
  refine gr_v (ev_mv rfl) ?_
  refine gr_v (ev_nil rfl) ?_
  refine gr_v (ev_fa (j := 44) rfl Tryz.runUnderlying131 rfl Tryz.sizeOf119 rfl rfl) ?_
  refine gr_v (ev_ld rfl Tryz.isAgg119 (hE74 _ _ hp).2 (by rfl)) ?_
  obtain ⟨S75, h75, hm⟩ := thn_some hm
  refine gr_call (ec_func Tryz.call138 rfl) (c138 (m.signed) F _ bb _ _ hB74 h75) ?_
  rintro _ w75 ⟨rfl, hB75, hK75⟩
  have hE75 := hE74.keep hK75
  replace hK75 := (hK74.trans hK75)
  clear hB74 h75 hK74 hE74
  refine gr_nil ?_
  refine gk_seq ?_
  refine gk_region ?_
  refine gr_v (ev_mv rfl) ?_
  have h76 := hm
  refine gr_call (ec_func Tryz.call139 rfl) (c139  F _ bb _ _ _ hB75 h76) ?_
  rintro _ w76 ⟨rfl, hB76, hK76⟩
  have hE76 := hE75.keep hK76
  replace hK76 := (hK75.trans hK76)
  clear hB75 h76 hK75 hE75
  refine gr_v (ev_as rfl) ?_
  refine gr_nil ?_
  refine gk_ret1 Tryz.results18 rfl ?_
  exact ⟨_, rfl, rfl, hB76, hK76⟩
end Go.Proofs.YtjaplgfgkigmiaaGreat