/-
  A monster's object, and what packing it does, plainly.
-/
import Derived.Test.YtjaplgfgkigmiaaGreatUn
namespace Go.Proofs.YtjaplgfgkigmiaaGreat
open Go Go.Proofs

/-- A row of one-cell elements: nil where it is empty. -/
def rowR {α : Type} (M : Mem) (v : Value) (l : List α) (R : Value → α → Prop) : Prop :=
  (l = [] ∧ v = .slice none 0 0) ∨ (l ≠ [] ∧ ∃ (b o c : Nat) (cs : Array Value) (e : TypeId) (fz : Nat × Nat), v = .slice (some ⟨b, o, none⟩) l.length c ∧ l.length ≤ c ∧ M b = some (.cells cs e fz) ∧ o + l.length ≤ cs.size ∧
    ∀ i (h : i < l.length), ∃ y, cs[o + i]? = some y ∧ R y l[i])
def unionR (f : FuncId) (TT : TypeId) (M : Mem) (v : Value) (u : Option UInt8 × PK) : Prop :=
  Packs f M v u.2 ∧ ((u.1 = none ∧ v = .pointer none) ∨ ∃ (p : Nat) (k : UInt8) (x : Value) (fz : Nat × Nat), u.1 = some k ∧ v = ptr p ∧ M p = some (.cells #[B k, x] TT fz))

def dropV (p : PK) : St → Option St := fun S => (p S).map (·.2)
def downE {α : Type} (f : α → St → Option St) (l : List α) : Nat → St → Option St
  | 0, S => some S
  | k + 1, S => match l[k]? with
    | none => none
    | some a => (f a S).bind (downE f l k)
def vecI {α : Type} (es al : Nat) (f : α → St → Option St) (l : List α) : PK :=
  if l.length = 0 then retV 0 else withV (startVectorV es l.length al) fun _ => thn (downE f l l.length) (endVector l.length)
def upE {α : Type} (f : α → PK) : List α → St → Option (List Nat × St)
  | [], S => some ([], S)
  | a :: l, S => (f a S).bind fun x => (upE f l x.2).map fun y => (x.1 :: y.1, y.2)
def offV {α : Type} (f : α → PK) (l : List α) : PK :=
  if l.length = 0 then retV 0 else fun S => (upE f l S).bind fun x => withV (startVectorV 4 l.length 4) (fun _ => thn (downE prependU x.1 l.length) (endVector l.length)) x.2
def bytesV (l : List UInt8) : PK := if l.length = 0 then retV 0 else createString l
def typeSlot (i : Nat) : Option UInt8 → St → Option St
  | none => some
  | some k => slotOp (((k : UInt8).toNat : Int) != ((0 : UInt8).toNat : Int)) (prepend 1 [k]) i

theorem downE_succ {α : Type} {f : α → St → Option St} {l : List α} {k : Nat} {S S' : St} (h : downE f l (k + 1) S = some S') : ∃ (hk : k < l.length) (S1 : St), f l[k] S = some S1 ∧ downE f l k S1 = some S' := by
  unfold downE at h
  cases hk : l[k]? with
  | none => simp [hk] at h
  | some a =>
    simp only [hk] at h
    obtain ⟨h1, rfl⟩ := List.getElem?_eq_some_iff.1 hk
    obtain ⟨S1, h2, h3⟩ := bind_some h
    exact ⟨h1, S1, h2, h3⟩
theorem upE_len {α : Type} {f : α → PK} : ∀ {l : List α} {S S' : St} {rs : List Nat}, upE f l S = some (rs, S') → rs.length = l.length
  | [], S, S', rs, h => by simp [upE] at h; simp [h.1.symm]
  | a :: l, S, S', rs, h => by
    obtain ⟨x, h1, h2⟩ := bind_some h
    obtain ⟨y, h3, h4⟩ := map_some' h2
    simp only [Prod.mk.injEq] at h4
    have := upE_len (rs := y.1) (S' := y.2) h3
    rw [← h4.1]; simp [this]
theorem upE_cons {α : Type} {f : α → PK} {a : α} {l : List α} {S S' : St} {rs : List Nat} (h : upE f (a :: l) S = some (rs, S')) : ∃ r S1 rs', f a S = some (r, S1) ∧ upE f l S1 = some (rs', S') ∧ rs = r :: rs' := by
  obtain ⟨⟨r, S1⟩, h1, h2⟩ := bind_some h
  obtain ⟨⟨rs', S2⟩, h3, h4⟩ := map_some' h2
  simp only [Prod.mk.injEq] at h4
  obtain ⟨rfl, rfl⟩ := h4
  exact ⟨r, S1, rs', h1, h3, rfl⟩

/-- One monster, its monsters inside being known by how they pack. -/
structure MD where
  pos : PK
  mana : Int
  hp : Int
  name : ByteArray
  inv : List UInt8
  color : UInt8
  test : Option UInt8 × PK
  test4 : List (Int × Int)
  strs : List ByteArray
  tables : List PK
  enemy : PK
  nest : List UInt8
  stat : PK
  tbool : Bool
  s32 : Int
  u32 : Int
  s64 : Int
  u64 : Int
  s32a : Int
  u32a : Int
  s64a : Int
  u64a : Int
  bools : List Bool
  f1 : Nat
  f2 : Nat
  f3 : Nat
  strs2 : List ByteArray
  abil : List (Int × Int)
  flex : List UInt8
  test5 : List (Int × Int)
  longs : List Int
  doubles : List Nat
  parent : PK
  refs : List Int
  single : Int
  weak : List Int
  strong : List Int
  co : Int
  coown : List Int
  non : Int
  nonown : List Int
  anyU : Option UInt8 × PK
  anyA : Option UInt8 × PK
  enums : List UInt8
  signed : Int
/-- The values of its fields that are no scalars. -/
structure MV where
  pos : Value
  inv : Value
  test : Value
  test4 : Value
  strs : Value
  tables : Value
  enemy : Value
  nest : Value
  stat : Value
  bools : Value
  strs2 : Value
  abil : Value
  flex : Value
  test5 : Value
  longs : Value
  doubles : Value
  parent : Value
  refs : Value
  weak : Value
  strong : Value
  coown : Value
  nonown : Value
  anyU : Value
  anyA : Value
  enums : Value
def cells131 (m : MD) (x : MV) : Array Value :=
  #[x.pos, .int .i16 m.mana, .int .i16 m.hp, .string m.name, x.inv, B m.color, x.test, x.test4, x.strs, x.tables, x.enemy, x.nest, x.stat, .bool m.tbool, .int .i32 m.s32, .int .u32 m.u32, .int .i64 m.s64, .int .u64 m.u64, .int .i32 m.s32a, .int .u32 m.u32a, .int .i64 m.s64a, .int .u64 m.u64a,
    x.bools, .float .f32 m.f1, .float .f32 m.f2, .float .f32 m.f3, x.strs2, x.abil, x.flex, x.test5, x.longs, x.doubles, x.parent, x.refs, .int .u64 m.single, x.weak, x.strong, .int .u64 m.co, x.coown, .int .u64 m.non, x.nonown, x.anyU, x.anyA, x.enums, .int .i8 m.signed]
def isB (y : Value) (u : UInt8) : Prop := y = B u
def isStr (y : Value) (s : ByteArray) : Prop := y = .string s
def isBool (y : Value) (b : Bool) : Prop := y = .bool b
def isI64 (y : Value) (n : Int) : Prop := y = .int .i64 n
def isU64 (y : Value) (n : Int) : Prop := y = .int .u64 n
def isF64 (y : Value) (n : Nat) : Prop := y = .float .f64 n
def testPK (ab : Int × Int) : PK := createTest ab.1 ab.2
def abilPK (ab : Int × Int) : PK := createAbility ab.1 ab.2
def strPK (s : ByteArray) : PK := createString s.data.toList
structure ObjR (M : Mem) (m : MD) (x : MV) : Prop where
  pos : Packs 90 M x.pos m.pos
  inv : rowR M x.inv m.inv isB
  test : unionR 60 146 M x.test m.test
  test4 : rowR M x.test4 m.test4 fun y ab => Packs 62 M y (testPK ab)
  strs : rowR M x.strs m.strs isStr
  tables : rowR M x.tables m.tables (Packs 18 M)
  enemy : Packs 18 M x.enemy m.enemy
  nest : rowR M x.nest m.nest isB
  stat : Packs 66 M x.stat m.stat
  bools : rowR M x.bools m.bools isBool
  strs2 : rowR M x.strs2 m.strs2 isStr
  abil : rowR M x.abil m.abil fun y ab => Packs 71 M y (abilPK ab)
  flex : rowR M x.flex m.flex isB
  test5 : rowR M x.test5 m.test5 fun y ab => Packs 62 M y (testPK ab)
  longs : rowR M x.longs m.longs isI64
  doubles : rowR M x.doubles m.doubles isF64
  parent : Packs 77 M x.parent m.parent
  refs : rowR M x.refs m.refs fun y n => Packs 78 M y (packRef n)
  weak : rowR M x.weak m.weak isU64
  strong : rowR M x.strong m.strong fun y n => Packs 78 M y (packRef n)
  coown : rowR M x.coown m.coown isU64
  nonown : rowR M x.nonown m.nonown isU64
  anyU : unionR 85 149 M x.anyU m.anyU
  anyA : unionR 86 153 M x.anyA m.anyA
  enums : rowR M x.enums m.enums isB


section
variable {n : Nat} {P : Program} {Q : Exit → Act → World → Prop} {k : List KItem} {l : Slots} {w : World}
/-- Where ways meet again, one list of slots; what is inside does not see what comes behind. -/
theorem gk_cutn {c : Code} (S : Slots) (R : World → Prop) (h1 : ∀ Q k, GK n P Q (.code c :: .fin (fun a w' => Fr n a S ∧ R w') :: k) l w)
    (h2 : ∀ w', R w' → GK n P Q k S w') : GK n P Q (.code c :: k) l w :=
  gk_cut (ι := Unit) (fun _ => S) (fun _ => R) (fun β hβ a ha => by
    have := h1 Q k β hβ a ha
    refine wpK_code (wp_mono (code_wpK this) ?_)
    intro e a' w' hq
    cases e with
    | normal => simp only [qk] at hq ⊢; rw [wpK] at hq ⊢; exact ⟨⟨(), hq.1⟩, hq.2⟩
    | exit id => simp only [qk] at hq ⊢; rw [exK] at hq ⊢; exact hq
    | _ => exact hq) (fun _ w' h => h2 w' h)
theorem ev_rowneq {α : Type} {M : Mem} {v : Value} {ls : List α} {R : Value → α → Prop} {t u e : TypeId} {x : Operand} {T : TypeId} (hr : rowR M v ls R) (hx : ev l x = some v) (hT : ∀ w, (underlying t).run P w = .ok (.slice e) w) :
    EV P l (.binOp .neq t x (.const (.slice none 0 0)) u) T w (.bool (ls.length != 0)) w := by
  rcases hr with ⟨rfl, hv⟩ | ⟨hl, b, o, c, cs, e, fz, hv, _⟩
  · subst hv; exact ev_sliceneq hx rfl hT
  · have : (ls.length != 0) = true := by
      rw [bne_iff_ne]; intro h; exact hl (List.length_eq_zero_iff.1 h)
    rw [this]; subst hv; exact ev_sliceneq hx rfl hT
end
theorem Bld.mono {F F' : Nat → Prop} {w : World} {bb : Nat} {S : St} (h : Bld F' w bb S) (hf : ∀ b, F b → F' b) : Bld F w bb S := by
  obtain ⟨g, h⟩ := h
  exact ⟨g, { hb := h.hb, hk := h.hk, hv := h.hv, hv0 := h.hv0, hst := h.hst, ht := h.ht, bk := h.bk, bv := h.bv, bt := h.bt, kt := h.kt, fb := fun e => h.fb (hf _ e), fk := fun e => h.fk (hf _ e),
                  fv := fun b hb e => h.fv b hb (hf _ e), ft := fun e => h.ft (hf _ e), fs := fun b hb => h.fs b (hf _ hb), room := h.room, small := h.small, vone := h.vone, tone := h.tone }⟩
theorem Keep.mono {F F' : Nat → Prop} {w w' : World} (h : Keep F' w w') (hf : ∀ b, F b → F' b) : Keep F w w' := ⟨fun b hb => h.1 b (hf b hb), h.2⟩
/-- One block more that is held. -/
def plus (F : Nat → Prop) (a : Nat) : Nat → Prop := fun b => F b ∨ b = a
theorem plus_of {F : Nat → Prop} {a : Nat} : ∀ b, F b → plus F a b := fun _ h => .inl h
theorem plus_new {F : Nat → Prop} {a : Nat} : plus F a a := .inr rfl
theorem Ext.plus {M : Mem} {w : World} {F : Nat → Prop} {a : Nat} (h : Ext M F w) : Ext M (plus F a) w := fun b x hb => ⟨.inl (h b x hb).1, (h b x hb).2⟩
theorem Bld.lt {F : Nat → Prop} {w : World} {bb : Nat} {S : St} (h : Bld F w bb S) : ∀ b, F b → b < w.heap.size := by
  obtain ⟨g, h⟩ := h
  exact h.fs
theorem Bld.grow {F : Nat → Prop} {w : World} {bb : Nat} {S : St} (h : Bld F w bb S) (o : Obj) : Bld (plus F w.heap.size) (w.alloc o) bb S ∧ Keep F w (w.alloc o) := by
  obtain ⟨g, h⟩ := h
  have lt : ∀ {b : Nat} {x : Obj}, w.heap[b]? = some x → b ≠ w.heap.size := fun hx => by have := lt_of_heap hx; omega
  refine ⟨⟨g, { hb := al_old h.hb, hk := al_old h.hk, hv := fun b hb => al_old (h.hv b hb), hv0 := h.hv0, hst := h.hst, ht := al_old h.ht, bk := h.bk, bv := h.bv, bt := h.bt, kt := h.kt,
                  fb := fun e => e.elim h.fb (lt h.hb), fk := fun e => e.elim h.fk (lt h.hk), fv := fun b hb e => e.elim (h.fv b hb) (lt (h.hv b hb)), ft := fun e => e.elim h.ft (lt h.ht),
                  fs := (fun b hb => by rw [al_size]; exact hb.elim (fun hb => Nat.lt_succ_of_lt (h.fs b hb)) (fun e => e ▸ Nat.lt_succ_self _)),
                  room := h.room, small := h.small, vone := h.vone, tone := h.tone }⟩, Keep.alloc h.fs⟩
/-- A store into a block that is held changes nothing of the builder. -/
theorem Bld.put {F : Nat → Prop} {w : World} {bb a : Nat} {S : St} (h : Bld F w bb S) (ha : F a) (o : Obj) : Bld F (w.setB a o) bb S := by
  obtain ⟨g, h⟩ := h
  have ne : ∀ {b : Nat}, ¬ F b → a ≠ b := fun hb e => hb (e ▸ ha)
  exact ⟨g, { hb := sb_ne (ne h.fb) h.hb, hk := sb_ne (ne h.fk) h.hk, hv := fun b hb => sb_ne (ne (h.fv b hb)) (h.hv b hb), hv0 := h.hv0, hst := h.hst, ht := sb_ne (ne h.ft) h.ht, bk := h.bk, bv := h.bv, bt := h.bt, kt := h.kt,
                 fb := h.fb, fk := h.fk, fv := h.fv, ft := h.ft, fs := (fun b hb => by rw [sb_size]; exact h.fs b hb), room := h.room, small := h.small, vone := h.vone, tone := h.tone }⟩
theorem Keep.put {F : Nat → Prop} {w : World} {a : Nat} {o : Obj} (ha : ¬ F a) : Keep F w (w.setB a o) := Keep.setB ha
theorem rowU_next {rs : List Nat} {i n : Nat} {r : Nat} (h : i < n) (hl : rs.length = i) : (rowU rs (List.replicate (n - i) (U 0))).setIfInBounds i (U r) = rowU (rs ++ [r]) (List.replicate (n - (i + 1)) (U 0)) := by
  have e : n - i = (n - (i + 1)) + 1 := by omega
  subst hl
  rw [e, List.replicate_succ, rowU_push]
theorem dropV_some {p : PK} {S S' : St} (h : dropV p S = some S') : ∃ r, p S = some (r, S') := by
  obtain ⟨⟨r, S1⟩, h1, h2⟩ := map_some' h
  exact ⟨r, by rw [h1, ← h2]⟩
theorem row_bytes {cs : Array Value} {o : Nat} {l : List UInt8} (hle : o + l.length ≤ cs.size) (hall : ∀ i (h : i < l.length), ∃ y, cs[o + i]? = some y ∧ isB y l[i]) : (cs.extract o (o + l.length)).toList = l.map B := by
  apply List.ext_getElem
  · simp; omega
  · intro i h1 h2
    have hi : i < l.length := by simpa using h2
    obtain ⟨y, hy, hb⟩ := hall i hi
    have hlt : o + i < cs.size := by omega
    rw [Array.getElem?_eq_getElem hlt] at hy
    have hy := Option.some.inj hy
    simp
    rw [hy]; exact hb
end Go.Proofs.YtjaplgfgkigmiaaGreat