/-
  A clean monster is packed: its steps go through.
-/
import Derived.Test.YtjaplgfgkigmiaaGreatTt
namespace Go.Proofs.YtjaplgfgkigmiaaGreat
open Go

theorem TotL.mono : ∀ {l : List PK} {c c' : Nat}, TotL l c → c ≤ c' → TotL l c'
  | [], _, _, _, _ => trivial
  | _ :: _, _, _, ⟨a, b, h, hp, hl⟩, hc => ⟨a, b, by omega, hp, hl⟩
theorem totL_len {α : Type} {f : α → PK} {c : Nat} : ∀ {l : List α}, (∀ x ∈ l, TotV (f x) c) → TotL (l.map f) (l.length * c)
  | [], _ => trivial
  | x :: l, h => ⟨c, l.length * c, by rw [List.length_cons, Nat.add_mul]; omega, h x (by simp), totL_len fun y hy => h y (by simp [hy])⟩
theorem totL_all {α : Type} {f : α → PK} {c : Nat} {l : List α} (hl : l.length ≤ 50) (h : ∀ x ∈ l, TotV (f x) c) : TotL (l.map f) (50 * c) := (totL_len h).mono (Nat.mul_le_mul_right _ hl)
theorem withV_go {β : Type} {x : St → Option (Nat × St)} {y : Nat → St → Option β} {S S1 : St} {r : Nat} {R : β → Prop} (h : x S = some (r, S1)) (k : ∃ b, y r S1 = some b ∧ R b) : ∃ b, withV x y S = some b ∧ R b := by
  obtain ⟨b, hb, hR⟩ := k
  exact ⟨b, by unfold withV; rw [h]; exact hb, hR⟩
theorem thn_go {β : Type} {x : St → Option St} {y : St → Option β} {S S1 : St} {R : β → Prop} (h : x S = some S1) (k : ∃ b, y S1 = some b ∧ R b) : ∃ b, thn x y S = some b ∧ R b := by
  obtain ⟨b, hb, hR⟩ := k
  exact ⟨b, by unfold thn; rw [h]; exact hb, hR⟩
theorem tot_pair {pk : PK} {n m : Nat} {S : St} (h : ∃ b, pk S = some b ∧ (Good n b.2 ∧ b.2.nested = false ∧ b.1 ≤ b.2.buf.length ∧ m ≤ b.2.buf.length)) : ∃ r S', pk S = some (r, S') ∧ Good n S' ∧ S'.nested = false ∧ r ≤ S'.buf.length ∧ m ≤ S'.buf.length := by
  obtain ⟨⟨r, S'⟩, h1, h2⟩ := h
  exact ⟨r, S', h1, h2⟩
/-- A vector of up to 300 items. -/
theorem tot_ref (a : Int) : TotV (packRef a) 160 := fun n S hg hn hle => by
  refine tot_pair ?_
  unfold packRef
  obtain ⟨T0, e, i0, bq⟩ := tt_startObject (L := 1) hg hn
  refine thn_go e ?_
  obtain ⟨T1, e, i1, c1⟩ := tt_slotOp (i := 0) (s := 8) (bs := le8 a) (b := (a : Int) != 0) i0 rfl rfl (by decide) (by omega)
  refine thn_go e ?_
  obtain ⟨r, S', e, gE, qE, lE, kE⟩ := tt_endObject i1 (by decide) (by omega)
  rw [bq] at c1
  exact ⟨(r, S'), e, gE.mono (by omega), qE, lE, (by show _ ≤ S'.buf.length; omega)⟩
theorem tot_simple (a : UInt8) : TotV (packSimple a) 160 := fun n S hg hn hle => by
  refine tot_pair ?_
  unfold packSimple
  obtain ⟨T0, e, i0, bq⟩ := tt_startObject (L := 1) hg hn
  refine thn_go e ?_
  obtain ⟨T1, e, i1, c1⟩ := tt_slotOp (i := 0) (s := 1) (bs := [a]) (b := ((a : UInt8).toNat : Int) != ((2 : UInt8).toNat : Int)) i0 rfl rfl (by decide) (by omega)
  refine thn_go e ?_
  obtain ⟨r, S', e, gE, qE, lE, kE⟩ := tt_endObject i1 (by decide) (by omega)
  rw [bq] at c1
  exact ⟨(r, S'), e, gE.mono (by omega), qE, lE, (by show _ ≤ S'.buf.length; omega)⟩
theorem tot_parent : TotV packParent 130 := fun n S hg hn hle => by
  refine tot_pair ?_
  unfold packParent
  obtain ⟨T0, e, i0, bq⟩ := tt_startObject (L := 0) hg hn
  refine thn_go e ?_
  obtain ⟨r, S', e, gE, qE, lE, kE⟩ := tt_endObject i0 (by decide) (by omega)
  rw [bq] at kE
  exact ⟨(r, S'), e, gE.mono (by omega), qE, lE, kE⟩
theorem tot_stat (s : ByteArray × Int × Int) (hs : s.1.data.toList.length ≤ 300) : TotV (statPK s) 700 := fun n S hg hn hle => by
  refine tot_pair ?_
  unfold statPK packStat
  obtain ⟨r1, S1, e, g1, q1, l1, k1⟩ := ((tot_string s.1.data.toList (by omega)).mono (show _ ≤ 312 by omega)) _ S hg hn (by omega)
  refine withV_go e ?_
  obtain ⟨T0, e, i0, bq⟩ := tt_startObject (L := 3) g1 q1
  refine thn_go e ?_
  obtain ⟨T1, e, i1, c1⟩ := tt_slotU (i := 0) (r := r1) (b := (r1 : Int) != ((0 : Nat) : Int)) i0 (by rw [bq]; exact l1) (by decide) (by omega)
  refine thn_go e ?_
  obtain ⟨T2, e, i2, c2⟩ := tt_slotOp (i := 1) (s := 8) (bs := le8 s.2.1) (b := (s.2.1 : Int) != 0) i1 rfl rfl (by decide) (by omega)
  refine thn_go e ?_
  obtain ⟨T3, e, i3, c3⟩ := tt_slotOp (i := 2) (s := 2) (bs := le2 s.2.2) (b := (s.2.2 : Int) != 0) i2 rfl rfl (by decide) (by omega)
  refine thn_go e ?_
  obtain ⟨r, S', e, gE, qE, lE, kE⟩ := tt_endObject i3 (by decide) (by omega)
  rw [bq] at c1
  exact ⟨(r, S'), e, gE.mono (by omega), qE, lE, (by show _ ≤ S'.buf.length; omega)⟩
theorem thn_slotOp {β : Type} {n L i s : Nat} {b : Bool} {bs : List UInt8} {S : St} {y : St → Option β} {R : β → Prop} (h : InO n L S) (hs : okSize s = true) (hb : bs.length = s) (hi : i < L) (hn : n + 15 ≤ LIM) (k : ∀ S', InO (n + 15) L S' → S.buf.length ≤ S'.buf.length → ∃ b, y S' = some b ∧ R b) :
    ∃ b', thn (slotOp b (prepend s bs) i) y S = some b' ∧ R b' := by
  obtain ⟨S', e, i', c⟩ := tt_slotOp (b := b) h hs hb hi hn
  exact thn_go e (k S' i' c)
theorem thn_slotU {β : Type} {n L i r : Nat} {b : Bool} {S : St} {y : St → Option β} {R : β → Prop} (h : InO n L S) (hr : r ≤ S.buf.length) (hi : i < L) (hn : n + 15 ≤ LIM) (k : ∀ S', InO (n + 15) L S' → S.buf.length ≤ S'.buf.length → ∃ b, y S' = some b ∧ R b) :
    ∃ b', thn (slotOp b (prependU r) i) y S = some b' ∧ R b' := by
  obtain ⟨S', e, i', c⟩ := tt_slotU (b := b) h hr hi hn
  exact thn_go e (k S' i' c)
theorem thn_typeSlot {β : Type} {n L i : Nat} {u : Option UInt8} {S : St} {y : St → Option β} {R : β → Prop} (h : InO n L S) (hi : i < L) (hn : n + 15 ≤ LIM) (k : ∀ S', InO (n + 15) L S' → S.buf.length ≤ S'.buf.length → ∃ b, y S' = some b ∧ R b) :
    ∃ b', thn (typeSlot i u) y S = some b' ∧ R b' := by
  obtain ⟨S', e, i', c⟩ := tt_typeSlot (k := u) h hi hn
  exact thn_go e (k S' i' c)
theorem totM {m : MD} {a3 a6 a7 a23 a24 : Nat} (hname : m.name.data.toList.length ≤ 300) (hinv : m.inv.length ≤ 300) (ht3 : TotV m.test.2 a3) (h4 : m.test4.length ≤ 50) (h5 : m.strs.length ≤ 50) (h5s : ∀ s ∈ m.strs, TotV (strPK s) 312) (h6 : m.tables.length ≤ 50) (ht6 : TotL (m.tables.map fun p => p) a6) (ht7 : TotV m.enemy a7) (h8 : m.nest.length ≤ 300)
    (ht9 : TotV m.stat 700) (h10 : m.bools.length ≤ 50) (h11 : m.strs2.length ≤ 50) (h11s : ∀ s ∈ m.strs2, TotV (strPK s) 312) (h12 : m.abil.length ≤ 50) (h13 : m.flex.length ≤ 300) (h14 : m.test5.length ≤ 50) (h15 : m.longs.length ≤ 50) (h16 : m.doubles.length ≤ 50) (ht17 : TotV m.parent 130) (h18 : m.refs.length ≤ 50)
    (h19 : m.weak.length ≤ 50) (h20 : m.strong.length ≤ 50) (h21 : m.coown.length ≤ 50) (h22 : m.nonown.length ≤ 50) (ht23 : TotV m.anyU.2 a23) (ht24 : TotV m.anyA.2 a24) (h25 : m.enums.length ≤ 300) (hpos : TotP m.pos 130) : TotV (packM m) (120000 + a3 + a6 + a7 + a23 + a24) := by
  intro n S hg hn hle
  refine tot_pair ?_
  unfold packM
  obtain ⟨r1, S1, e1, g1, q1, l1, k1⟩ := ((tot_string m.name.data.toList (by omega)).mono (show _ ≤ 312 by omega)) _ S hg hn (by omega)
  refine withV_go e1 ?_
  clear e1
  obtain ⟨r2, S2, e2, g2, q2, l2, k2⟩ := (tot_bytes hinv) _ S1 g1 q1 (by omega)
  refine withV_go e2 ?_
  clear e2
  obtain ⟨r3, S3, e3, g3, q3, l3, k3⟩ := (ht3) _ S2 g2 q2 (by omega)
  refine withV_go e3 ?_
  clear e3
  obtain ⟨r4, S4, e4, g4, q4, l4, k4⟩ := (tot_vec (.inl ⟨rfl, rfl⟩) h4 (fun ab _ => el_test ab)) _ S3 g3 q3 (by omega)
  refine withV_go e4 ?_
  clear e4
  obtain ⟨r5, S5, e5, g5, q5, l5, k5⟩ := (tot_offV h5 (totL_all h5 h5s)) _ S4 g4 q4 (by omega)
  refine withV_go e5 ?_
  clear e5
  obtain ⟨r6, S6, e6, g6, q6, l6, k6⟩ := (tot_offV h6 ht6) _ S5 g5 q5 (by omega)
  refine withV_go e6 ?_
  clear e6
  obtain ⟨r7, S7, e7, g7, q7, l7, k7⟩ := (ht7) _ S6 g6 q6 (by omega)
  refine withV_go e7 ?_
  clear e7
  obtain ⟨r8, S8, e8, g8, q8, l8, k8⟩ := (tot_bytes h8) _ S7 g7 q7 (by omega)
  refine withV_go e8 ?_
  clear e8
  obtain ⟨r9, S9, e9, g9, q9, l9, k9⟩ := (ht9) _ S8 g8 q8 (by omega)
  refine withV_go e9 ?_
  clear e9
  obtain ⟨r10, S10, e10, g10, q10, l10, k10⟩ := (tot_vec (f := fun b => prepend 1 [bb1 b]) (.inr (.inl ⟨rfl, rfl⟩)) h10 (fun b _ => el_prepend rfl rfl)) _ S9 g9 q9 (by omega)
  refine withV_go e10 ?_
  clear e10
  obtain ⟨r11, S11, e11, g11, q11, l11, k11⟩ := (tot_offV h11 (totL_all h11 h11s)) _ S10 g10 q10 (by omega)
  refine withV_go e11 ?_
  clear e11
  obtain ⟨r12, S12, e12, g12, q12, l12, k12⟩ := (tot_vec (.inr (.inr (.inl ⟨rfl, rfl⟩))) h12 (fun ab _ => el_abil ab)) _ S11 g11 q11 (by omega)
  refine withV_go e12 ?_
  clear e12
  obtain ⟨r13, S13, e13, g13, q13, l13, k13⟩ := (tot_bytes h13) _ S12 g12 q12 (by omega)
  refine withV_go e13 ?_
  clear e13
  obtain ⟨r14, S14, e14, g14, q14, l14, k14⟩ := (tot_vec (.inl ⟨rfl, rfl⟩) h14 (fun ab _ => el_test ab)) _ S13 g13 q13 (by omega)
  refine withV_go e14 ?_
  clear e14
  obtain ⟨r15, S15, e15, g15, q15, l15, k15⟩ := (tot_vec (f := fun n : Int => prepend 8 (le8 n)) (.inr (.inr (.inr (.inl ⟨rfl, rfl⟩)))) h15 (fun b _ => el_prepend rfl rfl)) _ S14 g14 q14 (by omega)
  refine withV_go e15 ?_
  clear e15
  obtain ⟨r16, S16, e16, g16, q16, l16, k16⟩ := (tot_vec (f := fun n : Nat => prepend 8 (le8 n)) (.inr (.inr (.inr (.inl ⟨rfl, rfl⟩)))) h16 (fun b _ => el_prepend rfl rfl)) _ S15 g15 q15 (by omega)
  refine withV_go e16 ?_
  clear e16
  obtain ⟨r17, S17, e17, g17, q17, l17, k17⟩ := (ht17) _ S16 g16 q16 (by omega)
  refine withV_go e17 ?_
  clear e17
  obtain ⟨r18, S18, e18, g18, q18, l18, k18⟩ := (tot_offV h18 (totL_all h18 fun n _ => tot_ref n)) _ S17 g17 q17 (by omega)
  refine withV_go e18 ?_
  clear e18
  obtain ⟨r19, S19, e19, g19, q19, l19, k19⟩ := (tot_vec (f := fun n : Int => prepend 8 (le8 n)) (.inr (.inr (.inr (.inl ⟨rfl, rfl⟩)))) h19 (fun b _ => el_prepend rfl rfl)) _ S18 g18 q18 (by omega)
  refine withV_go e19 ?_
  clear e19
  obtain ⟨r20, S20, e20, g20, q20, l20, k20⟩ := (tot_offV h20 (totL_all h20 fun n _ => tot_ref n)) _ S19 g19 q19 (by omega)
  refine withV_go e20 ?_
  clear e20
  obtain ⟨r21, S21, e21, g21, q21, l21, k21⟩ := (tot_vec (f := fun n : Int => prepend 8 (le8 n)) (.inr (.inr (.inr (.inl ⟨rfl, rfl⟩)))) h21 (fun b _ => el_prepend rfl rfl)) _ S20 g20 q20 (by omega)
  refine withV_go e21 ?_
  clear e21
  obtain ⟨r22, S22, e22, g22, q22, l22, k22⟩ := (tot_vec (f := fun n : Int => prepend 8 (le8 n)) (.inr (.inr (.inr (.inl ⟨rfl, rfl⟩)))) h22 (fun b _ => el_prepend rfl rfl)) _ S21 g21 q21 (by omega)
  refine withV_go e22 ?_
  clear e22
  obtain ⟨r23, S23, e23, g23, q23, l23, k23⟩ := (ht23) _ S22 g22 q22 (by omega)
  refine withV_go e23 ?_
  clear e23
  obtain ⟨r24, S24, e24, g24, q24, l24, k24⟩ := (ht24) _ S23 g23 q23 (by omega)
  refine withV_go e24 ?_
  clear e24
  obtain ⟨r25, S25, e25, g25, q25, l25, k25⟩ := ((tot_vecL (f := fun u => prepend 1 [u]) (.inr (.inl ⟨rfl, rfl⟩)) (by omega) h25 (fun b _ => el_prepend rfl rfl)).mono (show _ ≤ 12018 by omega)) _ S24 g24 q24 (by omega)
  refine withV_go e25 ?_
  clear e25
  have b1 : r1 ≤ S25.buf.length := by omega
  have b2 : r2 ≤ S25.buf.length := by omega
  have b3 : r3 ≤ S25.buf.length := by omega
  have b4 : r4 ≤ S25.buf.length := by omega
  have b5 : r5 ≤ S25.buf.length := by omega
  have b6 : r6 ≤ S25.buf.length := by omega
  have b7 : r7 ≤ S25.buf.length := by omega
  have b8 : r8 ≤ S25.buf.length := by omega
  have b9 : r9 ≤ S25.buf.length := by omega
  have b10 : r10 ≤ S25.buf.length := by omega
  have b11 : r11 ≤ S25.buf.length := by omega
  have b12 : r12 ≤ S25.buf.length := by omega
  have b13 : r13 ≤ S25.buf.length := by omega
  have b14 : r14 ≤ S25.buf.length := by omega
  have b15 : r15 ≤ S25.buf.length := by omega
  have b16 : r16 ≤ S25.buf.length := by omega
  have b17 : r17 ≤ S25.buf.length := by omega
  have b18 : r18 ≤ S25.buf.length := by omega
  have b19 : r19 ≤ S25.buf.length := by omega
  have b20 : r20 ≤ S25.buf.length := by omega
  have b21 : r21 ≤ S25.buf.length := by omega
  have b22 : r22 ≤ S25.buf.length := by omega
  have b23 : r23 ≤ S25.buf.length := by omega
  have b24 : r24 ≤ S25.buf.length := by omega
  have b25 : r25 ≤ S25.buf.length := by omega
  have d0 : S.buf.length ≤ S25.buf.length := by omega
  clear l1 k1 l2 k2 l3 k3 l4 k4 l5 k5 l6 k6 l7 k7 l8 k8 l9 k9 l10 k10 l11 k11 l12 k12 l13 k13 l14 k14 l15 k15 l16 k16 l17 k17 l18 k18 l19 k19 l20 k20 l21 k21 l22 k22 l23 k23 l24 k24 l25 k25
  obtain ⟨T0, e, i0, bq⟩ := tt_startObject (L := 49) g25 q25
  refine thn_go e ?_
  clear e
  obtain ⟨r27, T1, e, g27, m27, o27⟩ := hpos _ T0 i0.good (by omega)
  refine withV_go e ?_
  clear e
  have i1 := i0.step m27 g27
  have d1 : S25.buf.length ≤ T1.buf.length := by have := m27.len; rw [bq] at this; exact this
  obtain ⟨T2, e, i2, bq2⟩ := tt_structSlot (i := 0) i1 o27 (by decide)
  refine thn_go e ?_
  clear e
  have d2 : S25.buf.length ≤ T2.buf.length := by rw [bq2]; exact d1
  refine thn_slotOp i2 (by rfl) (by rfl) (by decide) (by omega) fun T3 i3 c => ?_
  have d3 := Nat.le_trans d2 c
  clear c
  refine thn_slotOp i3 (by rfl) (by rfl) (by decide) (by omega) fun T4 i4 c => ?_
  have d4 := Nat.le_trans d3 c
  clear c
  refine thn_slotU i4 (Nat.le_trans b1 d4) (by decide) (by omega) fun T5 i5 c => ?_
  have d5 := Nat.le_trans d4 c
  clear c
  refine thn_slotU i5 (Nat.le_trans b2 d5) (by decide) (by omega) fun T6 i6 c => ?_
  have d6 := Nat.le_trans d5 c
  clear c
  refine thn_slotOp i6 (by rfl) (by rfl) (by decide) (by omega) fun T7 i7 c => ?_
  have d7 := Nat.le_trans d6 c
  clear c
  refine thn_typeSlot i7 (by decide) (by omega) fun T8 i8 c => ?_
  have d8 := Nat.le_trans d7 c
  clear c
  refine thn_slotU i8 (Nat.le_trans b3 d8) (by decide) (by omega) fun T9 i9 c => ?_
  have d9 := Nat.le_trans d8 c
  clear c
  refine thn_slotU i9 (Nat.le_trans b4 d9) (by decide) (by omega) fun T10 i10 c => ?_
  have d10 := Nat.le_trans d9 c
  clear c
  refine thn_slotU i10 (Nat.le_trans b5 d10) (by decide) (by omega) fun T11 i11 c => ?_
  have d11 := Nat.le_trans d10 c
  clear c
  refine thn_slotU i11 (Nat.le_trans b6 d11) (by decide) (by omega) fun T12 i12 c => ?_
  have d12 := Nat.le_trans d11 c
  clear c
  refine thn_slotU i12 (Nat.le_trans b7 d12) (by decide) (by omega) fun T13 i13 c => ?_
  have d13 := Nat.le_trans d12 c
  clear c
  refine thn_slotU i13 (Nat.le_trans b8 d13) (by decide) (by omega) fun T14 i14 c => ?_
  have d14 := Nat.le_trans d13 c
  clear c
  refine thn_slotU i14 (Nat.le_trans b9 d14) (by decide) (by omega) fun T15 i15 c => ?_
  have d15 := Nat.le_trans d14 c
  clear c
  refine thn_slotOp i15 (by rfl) (by rfl) (by decide) (by omega) fun T16 i16 c => ?_
  have d16 := Nat.le_trans d15 c
  clear c
  refine thn_slotOp i16 (by rfl) (by rfl) (by decide) (by omega) fun T17 i17 c => ?_
  have d17 := Nat.le_trans d16 c
  clear c
  refine thn_slotOp i17 (by rfl) (by rfl) (by decide) (by omega) fun T18 i18 c => ?_
  have d18 := Nat.le_trans d17 c
  clear c
  refine thn_slotOp i18 (by rfl) (by rfl) (by decide) (by omega) fun T19 i19 c => ?_
  have d19 := Nat.le_trans d18 c
  clear c
  refine thn_slotOp i19 (by rfl) (by rfl) (by decide) (by omega) fun T20 i20 c => ?_
  have d20 := Nat.le_trans d19 c
  clear c
  refine thn_slotOp i20 (by rfl) (by rfl) (by decide) (by omega) fun T21 i21 c => ?_
  have d21 := Nat.le_trans d20 c
  clear c
  refine thn_slotOp i21 (by rfl) (by rfl) (by decide) (by omega) fun T22 i22 c => ?_
  have d22 := Nat.le_trans d21 c
  clear c
  refine thn_slotOp i22 (by rfl) (by rfl) (by decide) (by omega) fun T23 i23 c => ?_
  have d23 := Nat.le_trans d22 c
  clear c
  refine thn_slotOp i23 (by rfl) (by rfl) (by decide) (by omega) fun T24 i24 c => ?_
  have d24 := Nat.le_trans d23 c
  clear c
  refine thn_slotU i24 (Nat.le_trans b10 d24) (by decide) (by omega) fun T25 i25 c => ?_
  have d25 := Nat.le_trans d24 c
  clear c
  refine thn_slotOp i25 (by rfl) (by rfl) (by decide) (by omega) fun T26 i26 c => ?_
  have d26 := Nat.le_trans d25 c
  clear c
  refine thn_slotOp i26 (by rfl) (by rfl) (by decide) (by omega) fun T27 i27 c => ?_
  have d27 := Nat.le_trans d26 c
  clear c
  refine thn_slotOp i27 (by rfl) (by rfl) (by decide) (by omega) fun T28 i28 c => ?_
  have d28 := Nat.le_trans d27 c
  clear c
  refine thn_slotU i28 (Nat.le_trans b11 d28) (by decide) (by omega) fun T29 i29 c => ?_
  have d29 := Nat.le_trans d28 c
  clear c
  refine thn_slotU i29 (Nat.le_trans b12 d29) (by decide) (by omega) fun T30 i30 c => ?_
  have d30 := Nat.le_trans d29 c
  clear c
  refine thn_slotU i30 (Nat.le_trans b13 d30) (by decide) (by omega) fun T31 i31 c => ?_
  have d31 := Nat.le_trans d30 c
  clear c
  refine thn_slotU i31 (Nat.le_trans b14 d31) (by decide) (by omega) fun T32 i32 c => ?_
  have d32 := Nat.le_trans d31 c
  clear c
  refine thn_slotU i32 (Nat.le_trans b15 d32) (by decide) (by omega) fun T33 i33 c => ?_
  have d33 := Nat.le_trans d32 c
  clear c
  refine thn_slotU i33 (Nat.le_trans b16 d33) (by decide) (by omega) fun T34 i34 c => ?_
  have d34 := Nat.le_trans d33 c
  clear c
  refine thn_slotU i34 (Nat.le_trans b17 d34) (by decide) (by omega) fun T35 i35 c => ?_
  have d35 := Nat.le_trans d34 c
  clear c
  refine thn_slotU i35 (Nat.le_trans b18 d35) (by decide) (by omega) fun T36 i36 c => ?_
  have d36 := Nat.le_trans d35 c
  clear c
  refine thn_slotOp i36 (by rfl) (by rfl) (by decide) (by omega) fun T37 i37 c => ?_
  have d37 := Nat.le_trans d36 c
  clear c
  refine thn_slotU i37 (Nat.le_trans b19 d37) (by decide) (by omega) fun T38 i38 c => ?_
  have d38 := Nat.le_trans d37 c
  clear c
  refine thn_slotU i38 (Nat.le_trans b20 d38) (by decide) (by omega) fun T39 i39 c => ?_
  have d39 := Nat.le_trans d38 c
  clear c
  refine thn_slotOp i39 (by rfl) (by rfl) (by decide) (by omega) fun T40 i40 c => ?_
  have d40 := Nat.le_trans d39 c
  clear c
  refine thn_slotU i40 (Nat.le_trans b21 d40) (by decide) (by omega) fun T41 i41 c => ?_
  have d41 := Nat.le_trans d40 c
  clear c
  refine thn_slotOp i41 (by rfl) (by rfl) (by decide) (by omega) fun T42 i42 c => ?_
  have d42 := Nat.le_trans d41 c
  clear c
  refine thn_slotU i42 (Nat.le_trans b22 d42) (by decide) (by omega) fun T43 i43 c => ?_
  have d43 := Nat.le_trans d42 c
  clear c
  refine thn_typeSlot i43 (by decide) (by omega) fun T44 i44 c => ?_
  have d44 := Nat.le_trans d43 c
  clear c
  refine thn_slotU i44 (Nat.le_trans b23 d44) (by decide) (by omega) fun T45 i45 c => ?_
  have d45 := Nat.le_trans d44 c
  clear c
  refine thn_typeSlot i45 (by decide) (by omega) fun T46 i46 c => ?_
  have d46 := Nat.le_trans d45 c
  clear c
  refine thn_slotU i46 (Nat.le_trans b24 d46) (by decide) (by omega) fun T47 i47 c => ?_
  have d47 := Nat.le_trans d46 c
  clear c
  refine thn_slotU i47 (Nat.le_trans b25 d47) (by decide) (by omega) fun T48 i48 c => ?_
  have d48 := Nat.le_trans d47 c
  clear c
  refine thn_slotOp i48 (by rfl) (by rfl) (by decide) (by omega) fun T49 i49 c => ?_
  have d49 := Nat.le_trans d48 c
  clear c
  obtain ⟨r, S', e, gE, qE, lE, kE⟩ := tt_endObject i49 (by decide) (by omega)
  exact ⟨(r, S'), e, gE.mono (by omega), qE, lE, (by show _ ≤ S'.buf.length; omega)⟩
/-- The whole, one level. -/
theorem tot_headPK {l : List PK} {c : Nat} (h : TotL l c) (p : PK) (hl : l = [p]) : TotV (headPK l) c := by
  subst hl
  obtain ⟨a, b, hab, hp, _⟩ := h
  exact hp.mono (by omega)
theorem tot_chU {c : Ch} {k : Nat} (h : wfU c) (ht : TotL c.subs k) : TotV (chU c).2 (160 + k) := by
  unfold chU
  rcases h with h0 | ⟨h1, p, hp⟩ | h2
  · rw [if_pos h0]; exact tot_ret0.mono (by omega)
  · rw [h1]; exact (tot_headPK ht p hp).mono (by omega)
  · rw [h2]; exact (tot_simple c.col).mono (by omega)
theorem tot_chA {c : Ch} {k : Nat} (h : wfA c) (ht : TotL c.subs k) : TotV (chA c).2 (160 + k) := by
  unfold chA
  rcases h with h0 | ⟨h1, p, hp⟩
  · rw [if_pos h0]; exact tot_ret0.mono (by omega)
  · rw [if_neg (by rcases h1 with h | h | h <;> rw [h] <;> decide)]; exact (tot_headPK ht p hp).mono (by omega)
theorem lastPK_cases {α : Type} {f : α → PK} {l : List α} : (lastPK f l = retV 0) ∨ ∃ a ∈ l, lastPK f l = f a := by
  unfold lastPK
  cases h : l.getLast? with
  | none => exact .inl rfl
  | some a => exact .inr ⟨a, List.mem_of_getLast? h, rfl⟩
theorem tot_enemy {l : List PK} {c : Nat} (hl : l.length ≤ 1) (h : TotL l c) : TotV (lastPK (fun p => p) l) c := by
  match l, hl, h with
  | [], _, _ => exact tot_ret0.mono (by omega)
  | [p], _, ⟨a, b, hab, hp, _⟩ => exact TotV.mono hp (by omega)
theorem totD {d : SD} {k6 k7 k3 k23 k24 : Nat} (hc : Clean d) (h6 : TotL d.tables k6) (h7 : TotL d.enemy k7) (h3 : TotL d.test.subs k3) (h23 : TotL d.anyU.subs k23) (h24 : TotL d.anyA.subs k24) :
    TotV (packM (toMD d)) (130000 + k6 + k7 + k3 + k23 + k24) := by
  refine (totM (m := toMD d) (a3 := 160 + k3) (a6 := k6) (a7 := k7) (a23 := 160 + k23) (a24 := 160 + k24) hc.name hc.inv (tot_chU hc.test h3) hc.test4 hc.strs (fun s hs => ?_) hc.tables (by rw [List.map_id']; exact h6) (tot_enemy hc.enemy h7) hc.nest ?_ hc.bools hc.strs2 (fun s hs => ?_) hc.abil hc.flex hc.test5 hc.longs
    (by show (d.doubles.map Int.toNat).length ≤ 50; rw [List.length_map]; exact hc.doubles) ?_ hc.refs hc.weak hc.strong hc.coown hc.nonown (tot_chU hc.anyU h23) (tot_chA hc.anyA h24) hc.enums ?_).mono (by omega)
  · have := hc.strs300 s hs
    exact (tot_string _ (show s.data.toList.length ≤ 1000 from Nat.le_trans this (by omega))).mono (show s.data.toList.length + 12 ≤ 312 from by have : s.data.toList.length ≤ 300 := this; omega)
  · show TotV (lastPK statPK d.stat) 700
    rcases lastPK_cases (f := statPK) (l := d.stat) with h | ⟨a, ha, h⟩
    · rw [h]; exact tot_ret0.mono (by omega)
    · rw [h]; exact tot_stat a (hc.stat300 a ha)
  · have := hc.strs2300 s hs
    exact (tot_string _ (show s.data.toList.length ≤ 1000 from Nat.le_trans this (by omega))).mono (show s.data.toList.length + 12 ≤ 312 from by have : s.data.toList.length ≤ 300 := this; omega)
  · show TotV (if d.parent then packParent else retV 0) 130
    split
    · exact tot_parent
    · exact tot_ret0.mono (by omega)
  · show TotP (lastPK vecPK d.pos) 130
    rcases lastPK_cases (f := vecPK) (l := d.pos) with h | ⟨a, ha, h⟩
    · rw [h]; exact fun n S hg hn => ⟨0, S, rfl, hg.mono (by omega), Mo.refl, .inl rfl⟩
    · rw [h]; exact totP_vec a
theorem good0 : Good 0 St0 := ⟨Nat.le_refl _, Nat.le_refl _, rfl, fun v hv => by cases hv⟩
/-- From a new builder to the end. -/
theorem tt_finish {n off : Nat} {S : St} (h : Good n S) (hn : S.nested = false) (ho : off ≤ S.buf.length) (hl : n + 22 ≤ LIM) : ∃ S', finish off S = some S' ∧ S'.fin = true ∧ 0 < S'.buf.length ∧ S'.buf.length ≤ n + 22 := by
  unfold finish
  rw [hn]
  simp only [Bool.false_eq_true, if_false]
  obtain ⟨S1, e1, g1, m1, _⟩ := tt_prep (a := 4) h h.al (by omega) (by omega)
  have := m1.len
  obtain ⟨S2, e2, g2, m2, l2, _⟩ := tt_prependU (off := off) g1 (by omega) (by omega)
  refine ⟨{ S2 with fin := true }, by rw [e1, Option.bind_some, e2]; rfl, rfl, by show 0 < S2.buf.length; omega, g2.len⟩
theorem tot_all {pk : PK} {c : Nat} (h : TotV pk c) (hc : c ≤ 5000000) : ∃ r S S', pk St0 = some (r, S) ∧ finish r S = some S' ∧ S'.fin = true ∧ 0 < S'.buf.length ∧ S'.buf.length ≤ 6000000 := by
  obtain ⟨r, S, e, g, q, l, _⟩ := h 0 St0 good0 rfl (by unfold LIM; omega)
  obtain ⟨S', e', f, p, b⟩ := tt_finish g q l (by unfold LIM; omega)
  exact ⟨r, S, S', e, e', f, p, by omega⟩
end Go.Proofs.YtjaplgfgkigmiaaGreat
