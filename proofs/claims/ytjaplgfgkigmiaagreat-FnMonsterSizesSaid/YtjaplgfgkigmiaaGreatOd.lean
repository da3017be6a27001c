/-
  A monster as it comes in, plainly.
-/
import Derived.Test.YtjaplgfgkigmiaaGreatDrawq
namespace Go.Proofs.YtjaplgfgkigmiaaGreat
open Go Go.Proofs

structure Vec where
  x : Int
  y : Int
  z : Int
  t1 : Int
  t2 : UInt8
  a : Int
  b : Int
/-- A choice; its monsters by how they pack. -/
structure Ch where
  k : UInt8
  subs : List PK
  col : UInt8
structure SD where
  pos : List Vec
  mana : Int
  hp : Int
  name : ByteArray
  inv : ByteArray
  color : UInt8
  test : Ch
  test4 : List (Int × Int)
  strs : List ByteArray
  tables : List PK
  enemy : List PK
  nest : ByteArray
  stat : List (ByteArray × Int × Int)
  tbool : Bool
  s32 : Int
  u32 : Int
  s64 : Int
  u64 : Int
  s32a : Int
  u32a : Int
  s64a : Int
  u64a : Int
  bools : List Bool
  f1 : Int
  f2 : Int
  f3 : Int
  strs2 : List ByteArray
  abil : List (Int × Int)
  flex : ByteArray
  test5 : List (Int × Int)
  longs : List Int
  doubles : List Int
  parent : Bool
  refs : List Int
  single : Int
  weak : List Int
  strong : List Int
  co : Int
  coown : List Int
  non : Int
  nonown : List Int
  anyU : Ch
  anyA : Ch
  enums : ByteArray
  signed : Int
structure SV where
  pos : Value
  test : Value
  test4 : Value
  strs : Value
  tables : Value
  enemy : Value
  stat : Value
  bools : Value
  strs2 : Value
  abil : Value
  test5 : Value
  longs : Value
  doubles : Value
  refs : Value
  weak : Value
  strong : Value
  coown : Value
  nonown : Value
  anyU : Value
  anyA : Value
def cells52 (d : SD) (x : SV) : Array Value :=
  #[x.pos, .int .i16 d.mana, .int .i16 d.hp, .string d.name, .string d.inv, B d.color, B d.test.k, x.test, B d.test.col, x.test4, x.strs, x.tables, x.enemy, .string d.nest, x.stat, .bool d.tbool, .int .i32 d.s32, .int .u32 d.u32, .int .i64 d.s64, .int .u64 d.u64, .int .i32 d.s32a, .int .u32 d.u32a, .int .i64 d.s64a, .int .u64 d.u64a,
    x.bools, .int .u32 d.f1, .int .u32 d.f2, .int .u32 d.f3, x.strs2, x.abil, .string d.flex, x.test5, x.longs, x.doubles, .bool d.parent, x.refs, .int .u64 d.single, x.weak, x.strong, .int .u64 d.co, x.coown, .int .u64 d.non, x.nonown, B d.anyU.k, x.anyU, B d.anyU.col, B d.anyA.k, x.anyA, B d.anyA.col, .string d.enums, .int .i8 d.signed]
def isVec (cs : Array Value) (v : Vec) : Prop := cs = #[.int .u32 v.x, .int .u32 v.y, .int .u32 v.z, .int .u64 v.t1, B v.t2, .int .i16 v.a, .int .i8 v.b]
def isStat (cs : Array Value) (s : ByteArray × Int × Int) : Prop := cs = #[.string s.1, .int .i64 s.2.1, .int .u16 s.2.2]
def isAbil (cs : Array Value) (ab : Int × Int) : Prop := cs = #[.int .u32 ab.1, .int .u32 ab.2]
def wfU (c : Ch) : Prop := c.k = 0 ∨ (c.k = 1 ∧ ∃ p, c.subs = [p]) ∨ c.k = 2
def wfA (c : Ch) : Prop := c.k = 0 ∨ ((c.k = 1 ∨ c.k = 2 ∨ c.k = 3) ∧ ∃ p, c.subs = [p])
structure SrcR (sub : Mem → Array Value → PK → Prop) (M : Mem) (d : SD) (x : SV) : Prop where
  pos : rowM 7 M x.pos d.pos isVec
  test : rowM 51 M x.test d.test.subs (sub M)
  test4 : rowM 2 M x.test4 d.test4 isTest
  strs : rowS M x.strs d.strs isStr
  tables : rowM 51 M x.tables d.tables (sub M)
  enemy : rowM 51 M x.enemy d.enemy (sub M)
  stat : rowM 3 M x.stat d.stat isStat
  bools : rowS M x.bools d.bools isBool
  strs2 : rowS M x.strs2 d.strs2 isStr
  abil : rowM 2 M x.abil d.abil isAbil
  test5 : rowM 2 M x.test5 d.test5 isTest
  longs : rowS M x.longs d.longs isI64
  doubles : rowS M x.doubles d.doubles isU64
  refs : rowS M x.refs d.refs isU64
  weak : rowS M x.weak d.weak isU64
  strong : rowS M x.strong d.strong isU64
  coown : rowS M x.coown d.coown isU64
  nonown : rowS M x.nonown d.nonown isU64
  anyU : rowM 51 M x.anyU d.anyU.subs (sub M)
  anyA : rowM 51 M x.anyA d.anyA.subs (sub M)
/-- What a clean monster keeps to, as far as these walks need it. -/
structure Clean (d : SD) : Prop where
  pos : d.pos.length ≤ 1
  enemy : d.enemy.length ≤ 1
  stat : d.stat.length ≤ 1
  test : wfU d.test
  anyU : wfU d.anyU
  anyA : wfA d.anyA
  test4 : d.test4.length ≤ 50
  strs : d.strs.length ≤ 50
  tables : d.tables.length ≤ 50
  bools : d.bools.length ≤ 50
  strs2 : d.strs2.length ≤ 50
  abil : d.abil.length ≤ 50
  test5 : d.test5.length ≤ 50
  longs : d.longs.length ≤ 50
  doubles : d.doubles.length ≤ 50
  refs : d.refs.length ≤ 50
  weak : d.weak.length ≤ 50
  strong : d.strong.length ≤ 50
  coown : d.coown.length ≤ 50
  nonown : d.nonown.length ≤ 50
  name : d.name.size ≤ 300
  inv : d.inv.size ≤ 300
  nest : d.nest.size ≤ 300
  flex : d.flex.size ≤ 300
  enums : d.enums.size ≤ 300
  strs300 : ∀ s ∈ d.strs, s.size ≤ 300
  strs2300 : ∀ s ∈ d.strs2, s.size ≤ 300
  stat300 : ∀ s ∈ d.stat, s.1.size ≤ 300

def lastPK {α : Type} (f : α → PK) (l : List α) : PK := match l.getLast? with
  | none => retV 0
  | some a => f a
theorem lastPK_nil {α : Type} {f : α → PK} : lastPK f [] = retV 0 := rfl
theorem lastPK_take {α : Type} {f : α → PK} {l : List α} {i : Nat} (h : i < l.length) : lastPK f (l.take (i + 1)) = f l[i] := by
  have e : (l.take (i + 1)).getLast? = some l[i] := by rw [List.take_succ_eq_append_getElem h]; exact List.getLast?_concat
  simp only [lastPK, e]
def vecPK (v : Vec) : PK := createVec3 v.x.toNat v.y.toNat v.z.toNat v.t1.toNat v.t2 v.a v.b
def statPK (s : ByteArray × Int × Int) : PK := packStat s.1 s.2.1 s.2.2
def headPK (l : List PK) : PK := match l with
  | [] => retV 0
  | p :: _ => p
def chU (c : Ch) : Option UInt8 × PK := if c.k = 0 then (none, retV 0) else if c.k = 2 then (some c.k, packSimple c.col) else (some c.k, headPK c.subs)
def chA (c : Ch) : Option UInt8 × PK := if c.k = 0 then (none, retV 0) else (some c.k, headPK c.subs)
/-- What is laid at once. -/
def toMD0 (d : SD) : MD :=
  { pos := retV 0, mana := d.mana, hp := d.hp, name := d.name, inv := d.inv.data.toList, color := d.color, test := (none, retV 0), test4 := d.test4, strs := d.strs, tables := [], enemy := retV 0, nest := d.nest.data.toList, stat := retV 0, tbool := d.tbool,
    s32 := d.s32, u32 := d.u32, s64 := d.s64, u64 := d.u64, s32a := d.s32a, u32a := d.u32a, s64a := d.s64a, u64a := d.u64a, bools := d.bools, f1 := d.f1.toNat, f2 := d.f2.toNat, f3 := d.f3.toNat, strs2 := d.strs2, abil := [], flex := d.flex.data.toList, test5 := d.test5,
    longs := d.longs, doubles := [], parent := retV 0, refs := d.refs, single := d.single, weak := d.weak, strong := d.strong, co := d.co, coown := d.coown, non := d.non, nonown := d.nonown, anyU := (none, retV 0), anyA := (none, retV 0), enums := [], signed := d.signed }
def toMD (d : SD) : MD :=
  { toMD0 d with pos := lastPK vecPK d.pos, tables := d.tables, enemy := lastPK (fun p => p) d.enemy, stat := lastPK statPK d.stat, abil := d.abil, doubles := d.doubles.map Int.toNat, parent := if d.parent then packParent else retV 0, test := chU d.test, anyU := chU d.anyU, anyA := chA d.anyA, enums := d.enums.data.toList }

/-- These cells are made an object that packs so. -/
def ImplOK (M : Mem) (cs : Array Value) (pk : PK) : Prop := cs.size = 51 ∧ ones cs ∧ ∀ (M1 : Mem) (w : World), Sub M M1 → Has M1 w →
  CR Tryz.prog 17 #[.agg cs] w (fun v w' => one v = true ∧ ∃ M', Builds M1 w w' M' ∧ Packs 18 M' v pk)
theorem ImplOK.sub {M M' : Mem} {cs : Array Value} {pk : PK} (h : ImplOK M cs pk) (hs : Sub M M') : ImplOK M' cs pk := ⟨h.1, h.2.1, fun M1 w h1 h2 => h.2.2 M1 w (hs.trans h1) h2⟩
theorem unionR.sub {M M' : Mem} {f : FuncId} {TT : TypeId} {v : Value} {u : Option UInt8 × PK} (h : unionR f TT M v u) (hs : Sub M M') : unionR f TT M' v u := by
  refine ⟨h.1.old hs, ?_⟩
  rcases h.2 with h2 | ⟨p, k, x, fz, h1, h2, h3⟩
  · exact .inl h2
  · exact .inr ⟨p, k, x, fz, h1, h2, hs _ _ h3⟩
theorem ObjR.sub {M M' : Mem} {m : MD} {x : MV} (h : ObjR M m x) (hs : Sub M M') : ObjR M' m x where
  pos := h.pos.old hs
  inv := h.inv.sub hs fun _ _ k => k
  test := h.test.sub hs
  test4 := h.test4.sub hs fun _ _ k => k.old hs
  strs := h.strs.sub hs fun _ _ k => k
  tables := h.tables.sub hs fun _ _ k => k.old hs
  enemy := h.enemy.old hs
  nest := h.nest.sub hs fun _ _ k => k
  stat := h.stat.old hs
  bools := h.bools.sub hs fun _ _ k => k
  strs2 := h.strs2.sub hs fun _ _ k => k
  abil := h.abil.sub hs fun _ _ k => k.old hs
  flex := h.flex.sub hs fun _ _ k => k
  test5 := h.test5.sub hs fun _ _ k => k.old hs
  longs := h.longs.sub hs fun _ _ k => k
  doubles := h.doubles.sub hs fun _ _ k => k
  parent := h.parent.old hs
  refs := h.refs.sub hs fun _ _ k => k.old hs
  weak := h.weak.sub hs fun _ _ k => k
  strong := h.strong.sub hs fun _ _ k => k.old hs
  coown := h.coown.sub hs fun _ _ k => k
  nonown := h.nonown.sub hs fun _ _ k => k
  anyU := h.anyU.sub hs
  anyA := h.anyA.sub hs
  enums := h.enums.sub hs fun _ _ k => k
/-- The object under way. -/
structure OI (M1 : Mem) (w : World) (B1 B3 : Nat) (d : SD) (x : SV) (wk : World) (Mk : Mem) (X : MV) : Prop where
  bl : Builds M1 w wk Mk
  h1 : wk.heap[B1]? = some (.cells (cells52 d x) 52 (0, 0))
  h3 : wk.heap[B3]? = some (.cells (cells131 (toMD d) X) 131 (0, 0))
  n3 : Mk B3 = none
  lo : w.heap.size ≤ B3
theorem OI.ne {M1 Mk : Mem} {w wk : World} {B1 B3 : Nat} {d : SD} {x : SV} {X : MV} (h : OI M1 w B1 B3 d x wk Mk X) : B3 ≠ B1 := fun e => by
  have h1 := h.h1
  rw [← e, h.h3] at h1
  simp at h1
theorem OI.more {M1 Mk Ma : Mem} {w wk wa : World} {B1 B3 : Nat} {d : SD} {x : SV} {X : MV} (h : OI M1 w B1 B3 d x wk Mk X) (hb : Builds Mk wk wa Ma) : OI M1 w B1 B3 d x wa Ma X := by
  refine ⟨h.bl.trans hb, hb.old _ _ h.h1, hb.old _ _ h.h3, ?_, h.lo⟩
  cases hm : Ma B3 with
  | none => rfl
  | some y =>
    rcases hb.new _ _ hm with h1 | h1
    · rw [h.n3] at h1; cases h1
    · have := lt_of_heap h.h3; omega
theorem OI.put {M1 Mk : Mem} {w wk : World} {B1 B3 : Nat} {d : SD} {x : SV} {X : MV} (h : OI M1 w B1 B3 d x wk Mk X) (X' : MV) : OI M1 w B1 B3 d x (wk.setB B3 (.cells (cells131 (toMD d) X') 131 (0, 0))) Mk X' :=
  ⟨h.bl.put h.n3 h.lo, sb_ne h.ne h.h1, sb_same h.h3, h.n3, h.lo⟩
/-- A growing row is not hit by what is stored into the object. -/
theorem GRow.put {e : TypeId} {sz n : Nat} {M Mk : Mem} {w wk : World} {v : Value} {fs : List Value} {b : Nat} {o : Obj} {cs : Array Value} {t : TypeId} (h : GRow e sz M w wk Mk v n fs) (hb : wk.heap[b]? = some (.cells cs t (0, 0))) (ht : Nat.beq t e = false) (hn : Mk b = none) (hlo : w.heap.size ≤ b) : GRow e sz M w (wk.setB b o) Mk v n fs := by
  refine ⟨h.bl.put hn hlo, h.row.old fun c hc x hx => sb_ne (fun e' => ?_) hx, h.own⟩
  subst e'
  rcases h.row with ⟨_, _, rfl⟩ | ⟨b', k, sp, rfl, _, _, h3, _⟩
  · cases hc
  · cases hc
    rw [hb] at h3
    simp at h3
    rw [h3.2] at ht; simp at ht
/-- What is no part of the growing row is as it was. -/
theorem GRow.off {e : TypeId} {sz n : Nat} {M Mk : Mem} {w wk : World} {v : Value} {fs : List Value} {b : Nat} {cs : Array Value} {t : TypeId} {fz : Nat × Nat} (h : GRow e sz M w wk Mk v n fs) (hb : wk.heap[b]? = some (.cells cs t fz)) (ht : Nat.beq t e = false) : blkOf v ≠ some b := fun e' => by
  rcases h.row with ⟨_, _, rfl⟩ | ⟨b', k, sp, rfl, _, _, h3, _⟩
  · cases e'
  · cases e'
    rw [hb] at h3
    simp at h3
    rw [h3.2.1] at ht; simp at ht
theorem rowM.one {α : Type} {sz : Nat} {M : Mem} {v : Value} {l : List α} {R : Array Value → α → Prop} (h : rowM sz M v l R) : one v = true := by
  rcases h with ⟨_, a, c, rfl⟩ | ⟨_, b, o, c, _, _, _, rfl, _⟩ <;> rfl
theorem rowS.one {α : Type} {M : Mem} {v : Value} {l : List α} {R : Value → α → Prop} (h : rowS M v l R) : one v = true := by
  rcases h with ⟨_, a, c, rfl⟩ | ⟨_, b, o, c, _, _, _, rfl, _⟩ <;> rfl
theorem SrcR.ones {sub : Mem → Array Value → PK → Prop} {M : Mem} {d : SD} {x : SV} (h : SrcR sub M d x) : ones (cells52 d x) := by
  refine ones_lit ?_
  have e1 : ∀ k n, one (.int k n) = true := fun _ _ => rfl
  have e2 : ∀ u, one (B u) = true := fun _ => rfl
  have e3 : ∀ u, one (.string u) = true := fun _ => rfl
  have e4 : ∀ u, one (.bool u) = true := fun _ => rfl
  simp only [List.all_cons, List.all_nil, e1, e2, e3, e4, Bool.and_true, Bool.and_self, h.pos.one, h.test.one, h.test4.one, h.strs.one, h.tables.one, h.enemy.one, h.stat.one, h.bools.one, h.strs2.one, h.abil.one, h.test5.one, h.longs.one, h.doubles.one, h.refs.one, h.weak.one, h.strong.one, h.coown.one, h.nonown.one, h.anyU.one, h.anyA.one]
theorem rowR_map {α β : Type} {M : Mem} {v : Value} {l : List α} {f : α → β} {R : Value → β → Prop} (h : rowR M v l fun y a => R y (f a)) : rowR M v (l.map f) R := by
  rcases h with ⟨rfl, h⟩ | ⟨hl, b, o, c, cs, e, fz, h1, h2, h3, h4, h5⟩
  · exact .inl ⟨rfl, h⟩
  · refine .inr ⟨by simpa using hl, b, o, c, cs, e, fz, by simpa using h1, by simpa using h2, h3, by simpa using h4, fun i hi => ?_⟩
    obtain ⟨y, hy, hr⟩ := h5 i (by simpa using hi)
    exact ⟨y, hy, by simpa using hr⟩
end Go.Proofs.YtjaplgfgkigmiaaGreat