/-
  The vtable written.
-/
import Derived.Test.YtjaplgfgkigmiaaGreatEq
namespace Go.Proofs.YtjaplgfgkigmiaaGreat
open Go Go.Proofs

def trimLen (vt : List Nat) : Nat → Nat
  | 0 => 0
  | k + 1 => if vt[k]?.getD 0 = 0 then trimLen vt k else k + 1
def trim (vt : List Nat) : List Nat := vt.take (trimLen vt vt.length)
theorem trimLen_le (vt : List Nat) : ∀ k, trimLen vt k ≤ k
  | 0 => Nat.le_refl _
  | k + 1 => by unfold trimLen; split; exact Nat.le_succ_of_le (trimLen_le vt k); exact Nat.le_refl _
/-- The bytes of an older vtable's fields. -/
def vtAt (buf : List UInt8) (v : Nat) : Option (List UInt8) :=
  if 4 < v ∧ v ≤ buf.length ∧ 4 ≤ u16 buf (buf.length - v) ∧ buf.length - v + u16 buf (buf.length - v) ≤ buf.length then
    some ((buf.drop (buf.length - v + 4)).take (u16 buf (buf.length - v) - 4)) else none
def findFrom (buf : List UInt8) (vt : List Nat) (obj : Nat) (vts : List Nat) : Nat → Option (Option Nat)
  | 0 => some none
  | k + 1 => match vts[k]? with
    | none => none
    | some v => match vtAt buf v with
      | none => none
      | some bs => if vtEq vt obj bs then some (some v) else findFrom buf vt obj vts k
def prepEntries (obj : Nat) (vt : List Nat) : Nat → St → Option St
  | 0, S => some S
  | k + 1, S => (prepend 2 (le2 (IntKind.wrap .u16 (if vt[k]?.getD 0 = 0 then 0 else (obj : Int) - (vt[k]?.getD 0 : Nat)))) S).bind (prepEntries obj vt k)
def patch (obj : Nat) (bs : List UInt8) (S : St) : Option St :=
  if 4 ≤ obj ∧ obj ≤ S.buf.length then some { S with buf := sets S.buf (S.buf.length - obj) bs } else none
def writeVtable (S : St) : Option (Nat × St) :=
  (prependS S).bind fun S1 =>
    if S1.vt.all (fun a => decide (a ≤ S1.buf.length)) && decide (S1.vt.length ≤ 1000) && decide (S1.oend ≤ S1.buf.length) && decide (S1.vts.length ≤ 100000) && S1.started then
      (findFrom S1.buf (trim S1.vt) S1.buf.length S1.vts S1.vts.length).bind fun
      | some v => (patch S1.buf.length (le4 ((v : Int) - S1.buf.length)) { S1 with vt := [] }).map fun S => (S1.buf.length, S)
      | none => (prepEntries S1.buf.length (trim S1.vt) (trim S1.vt).length { S1 with vt := trim S1.vt }).bind fun S2 =>
        (prepend 2 (le2 (IntKind.wrap .u16 ((S1.buf.length : Int) - S1.oend))) S2).bind fun S3 =>
        (prepend 2 (le2 (IntKind.wrap .u16 ((((trim S1.vt).length + 2) * 2 : Nat) : Int))) S3).bind fun S4 =>
        (patch S1.buf.length (le4 ((S4.buf.length : Int) - S1.buf.length)) { S4 with vts := S4.vts ++ [S4.buf.length], vt := [] }).map fun S => (S1.buf.length, S)
    else none
def endObject (S : St) : Option (Nat × St) := if S.nested then (writeVtable S).map fun x => (x.1, { x.2 with nested := false }) else none

/-- What stays. -/
structure SameF (S S' : St) : Prop where
  vt : S'.vt = S.vt
  vts : S'.vts = S.vts
  oend : S'.oend = S.oend
  nested : S'.nested = S.nested
  fin : S'.fin = S.fin
  started : S'.started = S.started
theorem SameF.trans {S S' S'' : St} (h : SameF S S') (h' : SameF S' S'') : SameF S S'' := ⟨h'.vt.trans h.vt, h'.vts.trans h.vts, h'.oend.trans h.oend, h'.nested.trans h.nested, h'.fin.trans h.fin, h'.started.trans h.started⟩
theorem prep_same {s a : Nat} {S S' : St} (h : prep s a S = some S') : SameF S S' ∧ S.buf.length ≤ S'.buf.length := by
  unfold prep at h
  by_cases hc : (okSize s && decide (S.buf.length + padOf s (S.buf.length + a) + s + a ≤ 268435456)) = true
  · simp only [hc, if_true] at h; obtain rfl := Option.some.inj h; exact ⟨⟨rfl, rfl, rfl, rfl, rfl, rfl⟩, by simp⟩
  · simp only [hc] at h; exact absurd h (by simp)
theorem place_same {bs : List UInt8} {S S' : St} (h : place bs S = some S') : SameF S S' ∧ S'.buf.length = S.buf.length + bs.length := by
  obtain ⟨_, rfl⟩ := place_some h
  exact ⟨⟨rfl, rfl, rfl, rfl, rfl, rfl⟩, by simp [Nat.add_comm]⟩
theorem prepend_same {s : Nat} {bs : List UInt8} {S S' : St} (h : prepend s bs S = some S') : SameF S S' ∧ S.buf.length + bs.length ≤ S'.buf.length ∧ S'.buf.length ≤ 268435456 + bs.length := by
  obtain ⟨S1, h1, h2⟩ := bind_some h
  have a := prep_same h1
  have b := place_same h2
  have c := prep_len h1
  exact ⟨a.1.trans b.1, by omega, by omega⟩

/-- The region in which a row of offsets is added. -/
theorem BldG.patch {F : Nat → Prop} {w w' : World} {bb : Nat} {S : St} {g : Gh} {bs : List UInt8} {obj : Nat} (h : BldG F w bb S g) (h4 : bs.length ≤ obj) (ho : obj ≤ S.buf.length)
    (hw : w' = w.setB g.kb (.cells (row (sets (g.junk ++ S.buf ++ g.extra) (g.junk.length + (S.buf.length - obj)) bs)) 5 (0, 0))) :
    BldG F w' bb { S with buf := sets S.buf (S.buf.length - obj) bs } g ∧ Keep F w w' := by
  have e1 : sets (g.junk ++ S.buf ++ g.extra) (g.junk.length + (S.buf.length - obj)) bs = g.junk ++ sets S.buf (S.buf.length - obj) bs ++ g.extra := by
    rw [sets_eq _ _ _ (by simp; omega), sets_eq _ _ _ (by omega)]
    have a1 : List.take (g.junk.length + (S.buf.length - obj)) (g.junk ++ S.buf ++ g.extra) = g.junk ++ S.buf.take (S.buf.length - obj) := by
      rw [List.take_append_of_le_length (by simp), List.take_append, List.take_of_length_le (by omega)]
      congr 2; omega
    have a2 : List.drop (g.junk.length + (S.buf.length - obj) + bs.length) (g.junk ++ S.buf ++ g.extra) = S.buf.drop (S.buf.length - obj + bs.length) ++ g.extra := by
      rw [List.drop_append_of_le_length (by simp; omega), List.drop_append, List.drop_of_length_le (by omega), List.nil_append]
      congr 2; omega
    rw [a1, a2]; simp
  have hl : (sets S.buf (S.buf.length - obj) bs).length = S.buf.length := by
    rw [sets_eq _ _ _ (by omega)]; simp; omega
  have hsz : w'.heap.size = w.heap.size := by rw [hw]; exact sb_size
  have ec : g.cells { S with buf := sets S.buf (S.buf.length - obj) bs } = g.cells S := by
    unfold Gh.cells; simp only [Gh.len, Gh.cap, hl]; rfl
  rw [e1] at hw
  refine ⟨{ hb := by rw [ec]; exact sb_at hw h.bk.symm h.hb, hk := sb_new hw h.hk, hv := fun b hb => sb_at hw (h.bv b hb).2.1 (h.hv b hb), hv0 := h.hv0, hst := h.hst, ht := sb_at hw h.kt h.ht,
            bk := h.bk, bv := h.bv, bt := h.bt, kt := h.kt, fb := h.fb, fk := h.fk, fv := h.fv, ft := h.ft, fs := fun b hb => by rw [hsz]; exact h.fs b hb, room := h.room,
            small := by have := h.small; simp only [Gh.len, hl] at this ⊢; exact this, vone := h.vone, tone := h.tone }, ?_⟩
  rw [hw]; exact Keep.setB h.fk

theorem BldG.retb {F : Nat → Prop} {w w' : World} {bb : Nat} {S : St} {g : Gh} (h : BldG F w bb S g) (tb' : Nat) (tx' : List Value) (S' : St) (e1 : S'.buf = S.buf) (e2 : S'.vt = S.vt) (e4 : S'.room = S.room) (e5 : S'.started = S.started) (hone : ∀ v ∈ tx', one v = true)
    (hb : w'.heap[bb]? = some (.cells (({ g with tb := tb', tx := tx' } : Gh).cells S') 110 (0, 0))) (ht : w'.heap[tb']? = some (.cells (rowU S'.vts tx') 65 (0, 0)))
    (ho : ∀ c x, bb ≠ c → g.tb ≠ c → w.heap[c]? = some x → w'.heap[c]? = some x) (htb : g.tb = tb' ∨ w.heap.size ≤ tb') (hsz : w.heap.size ≤ w'.heap.size) :
    BldG F w' bb S' { g with tb := tb', tx := tx' } ∧ Keep F w w' := by
  have nb : bb ≠ tb' := by
    rcases htb with e | e
    · rw [← e]; exact h.bt
    · have := lt_of_heap h.hb; omega
  have nk : g.kb ≠ tb' := by
    rcases htb with e | e
    · rw [← e]; exact h.kt
    · have := lt_of_heap h.hk; omega
  have nv : ∀ b, g.vb = some b → tb' ≠ b := fun b hb => by
    rcases htb with e | e
    · rw [← e]; exact (h.bv b hb).2.2
    · have := lt_of_heap (h.hv b hb); omega
  have nf : ¬ F tb' := by
    rcases htb with e | e
    · rw [← e]; exact h.ft
    · intro hf; have := h.fs _ hf; omega
  refine ⟨{ hb := hb, hk := by rw [e1]; exact ho _ _ h.bk h.kt.symm h.hk, hv := fun b e => by rw [e2]; exact ho _ _ (h.bv b e).1 (h.bv b e).2.2 (h.hv b e), hv0 := fun e => by rw [e2]; exact h.hv0 e, hst := fun e => h.hst (by rw [← e5]; exact e),
            ht := ht, bk := h.bk, bv := fun b e => ⟨(h.bv b e).1, (h.bv b e).2.1, nv b e⟩, bt := nb, kt := nk, fb := h.fb, fk := h.fk,
            fv := h.fv, ft := nf, fs := fun b hb => Nat.lt_of_lt_of_le (h.fs b hb) hsz, room := by rw [e4]; exact h.room,
            small := by have := h.small; simp only [Gh.len, e1] at this ⊢; exact this, vone := h.vone, tone := hone }, ⟨fun c hc => ?_, hsz⟩⟩
  have hcs := h.fs c hc
  have : w.heap[c]? = some w.heap[c] := Array.getElem?_eq_getElem hcs
  rw [this]
  exact ho c _ (fun e => h.fb (e ▸ hc)) (fun e => h.ft (e ▸ hc)) this

theorem ev_slh' {P : Program} {l : Slots} {w : World} {T t : TypeId} {x y z : Operand} {kd kd' : IntKind} {m n' : Int} {b off len cap e : Nat} {a' ln : Nat} (hx : ev l x = some (.slice (some ⟨b, off, none⟩) len cap)) (hy : ev l y = some (.int kd m)) (hz : ev l z = some (.int kd' n')) (hT : ∀ w, (underlying t).run P w = .ok (.slice e) w)
    (hs : ∀ w, (sizeOf e).run P w = .ok 1 w) (h0 : 0 ≤ m) (h1 : m ≤ n') (h2 : n' ≤ cap) (h3 : m < cap) (ha : off + m.toNat = a') (hln : n'.toNat - m.toNat = ln) :
    EV P l (.slice t x (some y) (some z) none) T w (.slice (some ⟨b, a', none⟩) ln (cap - m.toNat)) w := by
  subst hln; exact ev_slh hx hy hz hT hs h0 h1 h2 h3 ha
theorem ev_shi' {P : Program} {l : Slots} {w : World} {T t : TypeId} {x y : Operand} {kd : IntKind} {m : Int} {a : Option Addr} {len cap e s ln : Nat} (hx : ev l x = some (.slice a len cap)) (hy : ev l y = some (.int kd m)) (hT : ∀ w, (underlying t).run P w = .ok (.slice e) w)
    (hs : ∀ w, (sizeOf e).run P w = .ok s w) (h0 : 0 ≤ m) (h1 : m ≤ cap) (hln : m.toNat = ln) :
    EV P l (.slice t x none (some y) none) T w (.slice a ln cap) w := by
  subst hln; exact ev_shi hx hy hT hs h0 h1
end Go.Proofs.YtjaplgfgkigmiaaGreat