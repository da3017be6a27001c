/-
  The builder as a plain state, and how memory holds it.
-/
import Derived.Test.YtjaplgfgkigmiaaGreatDraw
namespace Go.Proofs.YtjaplgfgkigmiaaGreat
open Go

/-- A builder: what has been written (from the head on), and its bookkeeping. -/
structure St where
  buf : List UInt8
  malign : Nat
  vt : List Nat
  oend : Nat
  vts : List Nat
  nested : Bool
  fin : Bool
  /-- at least so many bytes are free ahead of the head -/
  room : Nat
  /-- an object has been begun once -/
  started : Bool

def B (u : UInt8) : Value := .int .u8 u.toNat
def U (n : Nat) : Value := .int .u32 n
/-- the low byte -/
def lb (n : Int) : UInt8 := UInt8.ofNat (n % 256).toNat
def le2 (n : Int) : List UInt8 := [lb n, lb (n.fdiv (2 ^ 8))]
def le4 (n : Int) : List UInt8 := [lb n, lb (n.fdiv (2 ^ 8)), lb (n.fdiv (2 ^ 16)), lb (n.fdiv (2 ^ 24))]
def le8 (n : Int) : List UInt8 := [lb n, lb (n.fdiv (2 ^ 8)), lb (n.fdiv (2 ^ 16)), lb (n.fdiv (2 ^ 24)), lb (n.fdiv (2 ^ 32)), lb (n.fdiv (2 ^ 40)), lb (n.fdiv (2 ^ 48)), lb (n.fdiv (2 ^ 56))]

theorem lb_toNat (n : Int) : ((lb n).toNat : Int) = n % 256 := by
  have h0 := Int.emod_nonneg n (show (256 : Int) ≠ 0 by decide)
  have h1 := Int.emod_lt_of_pos n (show (0 : Int) < 256 by decide)
  have h2 : (n % 256).toNat < 256 := by omega
  simp [lb, UInt8.toNat_ofNat', Nat.mod_eq_of_lt h2]
  omega
theorem w_lb (n : Int) : IntKind.wrap .u8 n = ((lb n).toNat : Int) := by
  rw [lb_toNat]; simp [IntKind.wrap, IntKind.bits, IntKind.signed]
theorem B_lb (n : Int) : Value.int .u8 (IntKind.wrap .u8 n) = B (lb n) := by rw [w_lb]; rfl

def row (l : List UInt8) : Array Value := (l.map B).toArray
def rowU (l : List Nat) (x : List Value) : Array Value := (l.map U ++ x).toArray

theorem row_size (l : List UInt8) : (row l).size = l.length := by simp [row]
theorem row_get {l : List UInt8} {i : Nat} {u : UInt8} (h : l[i]? = some u) : (row l)[i]? = some (B u) := by simp [row, h]

theorem row_blt {l : List UInt8} {i : Nat} (h : i < l.length) : Nat.blt i (row l).size = true := by simp [row, Nat.blt_eq, h]
theorem row_at {l : List UInt8} {i : Nat} (h : i < l.length) : (row l)[i]? = some (B l[i]) := row_get (List.getElem?_eq_getElem h)
theorem row_set {l : List UInt8} {i : Nat} {u : UInt8} : (row l).setIfInBounds i (B u) = row (l.set i u) := by
  simp [row, List.map_set]
def sets : List UInt8 → Nat → List UInt8 → List UInt8
  | l, _, [] => l
  | l, o, b :: bs => sets (l.set o b) (o + 1) bs
theorem sets_eq : ∀ (bs : List UInt8) (l : List UInt8) (o : Nat), o + bs.length ≤ l.length → sets l o bs = l.take o ++ bs ++ l.drop (o + bs.length)
  | [], l, o, _ => by simp [sets]
  | b :: bs, l, o, h => by
    simp only [List.length_cons] at h
    rw [sets, sets_eq bs _ _ (by simp; omega)]
    have h1 : (l.set o b).take (o + 1) = l.take o ++ [b] := by
      rw [List.take_set, List.take_succ_eq_append_getElem (by omega), List.set_append_right _ _ (by simp; omega)]
      have : (List.take o l).length = o := by simp; omega
      rw [this, Nat.sub_self]; rfl
    have h2 : (l.set o b).drop (o + 1 + bs.length) = l.drop (o + 1 + bs.length) := by
      rw [List.drop_set_of_lt (by omega)]
    rw [h1, h2]
    simp [Nat.add_assoc, Nat.add_comm 1]

/-- How it lies: its bytes' block, what stands ahead of the head and behind the length, the blocks of its two rows of offsets. -/
structure Gh where
  kb : Nat
  junk : List UInt8
  extra : List UInt8
  vb : Option Nat
  vx : List Value
  tb : Nat
  tx : List Value

def Gh.len (g : Gh) (S : St) : Nat := g.junk.length + S.buf.length
def Gh.cap (g : Gh) (S : St) : Nat := g.junk.length + S.buf.length + g.extra.length
def Gh.vtv (g : Gh) (S : St) : Value := match g.vb with
  | none => .slice none 0 0
  | some b => .slice (some ⟨b, 0, none⟩) S.vt.length (S.vt.length + g.vx.length)
def Gh.cells (g : Gh) (S : St) : Array Value :=
  #[.slice (some ⟨g.kb, 0, none⟩) (g.len S) (g.cap S), .int .i64 S.malign, g.vtv S, .int .u32 S.oend, .slice (some ⟨g.tb, 0, none⟩) S.vts.length (S.vts.length + g.tx.length),
    .int .u32 g.junk.length, .bool S.nested, .bool S.fin, .map none]

structure BldG (F : Nat → Prop) (w : World) (bb : Nat) (S : St) (g : Gh) : Prop where
  hb : w.heap[bb]? = some (.cells (g.cells S) 110 (0, 0))
  hk : w.heap[g.kb]? = some (.cells (row (g.junk ++ S.buf ++ g.extra)) 5 (0, 0))
  hv : ∀ b, g.vb = some b → w.heap[b]? = some (.cells (rowU S.vt g.vx) 65 (0, 0))
  hv0 : g.vb = none → S.vt = []
  hst : S.started = true → ∃ b, g.vb = some b
  ht : w.heap[g.tb]? = some (.cells (rowU S.vts g.tx) 65 (0, 0))
  bk : bb ≠ g.kb
  bv : ∀ b, g.vb = some b → bb ≠ b ∧ g.kb ≠ b ∧ g.tb ≠ b
  bt : bb ≠ g.tb
  kt : g.kb ≠ g.tb
  fb : ¬ F bb
  fk : ¬ F g.kb
  fv : ∀ b, g.vb = some b → ¬ F b
  ft : ¬ F g.tb
  fs : ∀ b, F b → b < w.heap.size
  room : S.room ≤ g.junk.length
  small : g.len S ≤ 600000000
  vone : ∀ v ∈ g.vx, one v = true
  tone : ∀ v ∈ g.tx, one v = true

def Bld (F : Nat → Prop) (w : World) (bb : Nat) (S : St) : Prop := ∃ g, BldG F w bb S g
/-- What is held is as it was; the heap has only grown. -/
def Keep (F : Nat → Prop) (w w' : World) : Prop := (∀ b, F b → w'.heap[b]? = w.heap[b]?) ∧ w.heap.size ≤ w'.heap.size

theorem Keep.refl {F : Nat → Prop} {w : World} : Keep F w w := ⟨fun _ _ => rfl, Nat.le_refl _⟩
theorem Keep.trans {F : Nat → Prop} {w w' w'' : World} (h : Keep F w w') (h' : Keep F w' w'') : Keep F w w'' :=
  ⟨fun b hb => (h'.1 b hb).trans (h.1 b hb), Nat.le_trans h.2 h'.2⟩
theorem Keep.setB {F : Nat → Prop} {w : World} {b : Nat} {o : Obj} (hb : ¬ F b) : Keep F w (w.setB b o) :=
  ⟨fun c hc => by simp only [World.setB]; rw [Array.getElem?_setIfInBounds_ne (fun e => hb (by rw [e]; exact hc))], by rw [sb_size]; exact Nat.le_refl _⟩
theorem Keep.of_eq {F : Nat → Prop} {w w1 : World} {b : Nat} {o : Obj} (hw : w1 = w.setB b o) (hb : ¬ F b) : Keep F w w1 := hw ▸ Keep.setB hb
theorem Keep.alloc {F : Nat → Prop} {w : World} {o : Obj} (hf : ∀ b, F b → b < w.heap.size) : Keep F w (w.alloc o) :=
  ⟨fun c hc => by
    show (w.heap.push o)[c]? = _
    rw [Array.getElem?_push_lt (hf c hc), Array.getElem?_eq_getElem (hf c hc)], by rw [al_size]; omega⟩
theorem Keep.drew {F : Nat → Prop} {w : World} : Keep F w w.drew := ⟨fun _ _ => rfl, Nat.le_refl _⟩

/-! ### What a builder does, plainly -/
def okSize (s : Nat) : Bool := s == 1 || s == 2 || s == 4 || s == 8
def padOf (s x : Nat) : Nat := (s - x % s) % s

def prep (s add : Nat) (S : St) : Option St :=
  let al := padOf s (S.buf.length + add)
  if okSize s && decide (S.buf.length + al + s + add ≤ 268435456) then
    some { S with malign := max S.malign s, buf := List.replicate al 0 ++ S.buf, room := max (S.room - al) (s + add) }
  else none

def place (bs : List UInt8) (S : St) : Option St :=
  if bs.length ≤ S.room then some { S with buf := bs ++ S.buf, room := S.room - bs.length } else none

def prepend (s : Nat) (bs : List UInt8) (S : St) : Option St := (prep s 0 S).bind (place bs)
def slot (i : Nat) (S : St) : Option St := if i < S.vt.length then some { S with vt := S.vt.set i S.buf.length } else none
def prependU (off : Nat) (S : St) : Option St := (prep 4 0 S).bind fun S => if off ≤ S.buf.length then place (le4 (S.buf.length - off + 4)) S else none
def startVector (es n al : Nat) (S : St) : Option St :=
  if S.nested then none else (prep 4 (es * n) { S with nested := true }).bind (prep al (es * n))
def endVector (n : Nat) (S : St) : Option (Nat × St) :=
  if S.nested && decide (n ≤ 268435456) then (place (le4 n) S).map fun S => (S.buf.length, { S with nested := false }) else none
def createString (s : List UInt8) (S : St) : Option (Nat × St) :=
  if S.nested then none else (prep 4 (s.length + 1) { S with nested := true }).bind fun S => (place [0] S).bind fun S => (place s S).bind (endVector s.length)
def startObject (n : Nat) (S : St) : Option St :=
  if S.nested then none else some { S with nested := true, vt := List.replicate n 0, oend := S.buf.length, started := true }
end Go.Proofs.YtjaplgfgkigmiaaGreat
