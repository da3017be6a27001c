/-
  What is packed, is packed: with room below a bound, every step of a clean monster's packing goes through.
-/
import Derived.Test.YtjaplgfgkigmiaaGreatMt
namespace Go.Proofs.YtjaplgfgkigmiaaGreat
open Go

def LIM : Nat := 6000000
def VOK (buf : List UInt8) (v : Nat) : Prop := 4 < v ∧ v ≤ buf.length ∧ 4 ≤ u16 buf (buf.length - v) ∧ u16 buf (buf.length - v) ≤ v
structure Good (n : Nat) (S : St) : Prop where
  len : S.buf.length ≤ n
  vcnt : 64 * S.vts.length ≤ n
  al : okSize S.malign = true
  vok : ∀ v ∈ S.vts, VOK S.buf v
/-- What a step leaves: more bytes in front, all else as it was. -/
structure Mo (S S' : St) : Prop where
  vt : S'.vt = S.vt
  vts : S'.vts = S.vts
  oend : S'.oend = S.oend
  nested : S'.nested = S.nested
  started : S'.started = S.started
  fin : S'.fin = S.fin
  buf : ∃ bs, S'.buf = bs ++ S.buf
theorem Mo.refl {S : St} : Mo S S := ⟨rfl, rfl, rfl, rfl, rfl, rfl, [], rfl⟩
theorem Mo.trans {S S' S'' : St} (h : Mo S S') (h' : Mo S' S'') : Mo S S'' := by
  obtain ⟨b, hb⟩ := h.buf
  obtain ⟨c, hc⟩ := h'.buf
  exact ⟨h'.vt.trans h.vt, h'.vts.trans h.vts, h'.oend.trans h.oend, h'.nested.trans h.nested, h'.started.trans h.started, h'.fin.trans h.fin, c ++ b, by rw [hc, hb, List.append_assoc]⟩
theorem Mo.len {S S' : St} (h : Mo S S') : S.buf.length ≤ S'.buf.length := by
  obtain ⟨b, hb⟩ := h.buf
  rw [hb]; simp

theorem u16_app (bs buf : List UInt8) (i : Nat) : u16 (bs ++ buf) (bs.length + i) = u16 buf i := by
  unfold u16
  rw [List.getElem?_append_right (by omega), show bs.length + i + 1 = bs.length + (i + 1) from by omega, List.getElem?_append_right (by omega)]
  simp
theorem VOK.app {buf : List UInt8} {v : Nat} (h : VOK buf v) (bs : List UInt8) : VOK (bs ++ buf) v := by
  obtain ⟨h1, h2, h3, h4⟩ := h
  have e : (bs ++ buf).length - v = bs.length + (buf.length - v) := by rw [List.length_append]; omega
  refine ⟨h1, by rw [List.length_append]; omega, ?_, ?_⟩ <;> rw [e, u16_app] <;> assumption
theorem Good.mono {n m : Nat} {S : St} (h : Good n S) (hm : n ≤ m) : Good m S := ⟨Nat.le_trans h.len hm, Nat.le_trans h.vcnt hm, h.al, h.vok⟩
theorem Good.ext {n m : Nat} {S S' : St} (h : Good n S) (hm : Mo S S') (hl : S'.buf.length ≤ m) (hn : n ≤ m) (ha : okSize S'.malign = true) : Good m S' := by
  obtain ⟨bs, hb⟩ := hm.buf
  exact ⟨hl, by rw [hm.vts]; exact Nat.le_trans h.vcnt hn, ha, fun v hv => by rw [hb]; rw [hm.vts] at hv; exact (h.vok v hv).app bs⟩

theorem okSize_cases {s : Nat} (h : okSize s = true) : s = 1 ∨ s = 2 ∨ s = 4 ∨ s = 8 := by
  simp only [okSize, Bool.or_eq_true, beq_iff_eq] at h; omega
theorem okSize_max {a b : Nat} (h : okSize a = true) (h' : okSize b = true) : okSize (max a b) = true := by
  rw [Nat.max_def]; split <;> assumption
theorem tt_pad {s x : Nat} (h : okSize s = true) : padOf s x ≤ 7 ∧ (x + padOf s x) % s = 0 := by
  unfold padOf
  rcases okSize_cases h with rfl | rfl | rfl | rfl <;> omega

/-- Room is made. -/
theorem tt_prep {n s a : Nat} {S : St} (h : Good n S) (hs : okSize s = true) (ha : a ≤ 100000000) (hn : n + 7 ≤ LIM) :
    ∃ S', prep s a S = some S' ∧ Good (n + 7) S' ∧ Mo S S' ∧ S'.buf.length = S.buf.length + padOf s (S.buf.length + a) ∧ s + a ≤ S'.room ∧ S.room - padOf s (S.buf.length + a) ≤ S'.room ∧ (S'.buf.length + a) % s = 0 := by
  have hp := tt_pad (x := S.buf.length + a) hs
  have hl := h.len
  have h8 : s ≤ 8 := by rcases okSize_cases hs with rfl | rfl | rfl | rfl <;> omega
  unfold LIM at hn
  have hc : (okSize s && decide (S.buf.length + padOf s (S.buf.length + a) + s + a ≤ 268435456)) = true := by
    simp only [hs, Bool.true_and, decide_eq_true_eq]; omega
  refine ⟨{ S with malign := max S.malign s, buf := List.replicate (padOf s (S.buf.length + a)) 0 ++ S.buf, room := max (S.room - padOf s (S.buf.length + a)) (s + a) }, by unfold prep; simp only [hc, if_true], ?_, ⟨rfl, rfl, rfl, rfl, rfl, rfl, _, rfl⟩, by simp; omega, by simp; omega, by simp; omega, ?_⟩
  · exact h.ext ⟨rfl, rfl, rfl, rfl, rfl, rfl, _, rfl⟩ (by simp; omega) (by omega) (okSize_max h.al hs)
  · have e : (List.replicate (padOf s (S.buf.length + a)) (0 : UInt8) ++ S.buf).length + a = S.buf.length + a + padOf s (S.buf.length + a) := by simp; omega
    show ((List.replicate (padOf s (S.buf.length + a)) (0 : UInt8) ++ S.buf).length + a) % s = 0
    rw [e]; exact hp.2
theorem tt_place {n : Nat} {bs : List UInt8} {S : St} (h : Good n S) (hr : bs.length ≤ S.room) :
    ∃ S', place bs S = some S' ∧ Good (n + bs.length) S' ∧ Mo S S' ∧ S'.buf = bs ++ S.buf ∧ S'.room = S.room - bs.length := by
  refine ⟨{ S with buf := bs ++ S.buf, room := S.room - bs.length }, by unfold place; rw [if_pos hr], ?_, ⟨rfl, rfl, rfl, rfl, rfl, rfl, bs, rfl⟩, rfl, rfl⟩
  have := h.len
  exact h.ext ⟨rfl, rfl, rfl, rfl, rfl, rfl, bs, rfl⟩ (by simp; omega) (by omega) h.al
theorem tt_prepend {n s : Nat} {bs : List UInt8} {S : St} (h : Good n S) (hs : okSize s = true) (hb : bs.length = s) (hn : n + 15 ≤ LIM) :
    ∃ S', prepend s bs S = some S' ∧ Good (n + 15) S' ∧ Mo S S' ∧ S'.buf.length = S.buf.length + padOf s S.buf.length + s ∧ S.room - padOf s S.buf.length - s ≤ S'.room ∧ ∃ c, S'.buf = bs ++ c := by
  have h8 : s ≤ 8 := by rcases okSize_cases hs with rfl | rfl | rfl | rfl <;> omega
  obtain ⟨S1, e1, g1, m1, l1, r1, r2, _⟩ := tt_prep (a := 0) h hs (by omega) (by omega)
  obtain ⟨S2, e2, g2, m2, l2, r3⟩ := tt_place (bs := bs) g1 (by omega)
  rw [Nat.add_zero] at l1 r2
  refine ⟨S2, by unfold prepend; rw [e1]; exact e2, g2.mono (by omega), m1.trans m2, by rw [l2]; simp; omega, by omega, _, l2⟩
theorem tt_prependU {n off : Nat} {S : St} (h : Good n S) (ho : off ≤ S.buf.length) (hn : n + 15 ≤ LIM) :
    ∃ S', prependU off S = some S' ∧ Good (n + 15) S' ∧ Mo S S' ∧ S'.buf.length = S.buf.length + padOf 4 S.buf.length + 4 ∧ S.room - padOf 4 S.buf.length - 4 ≤ S'.room := by
  obtain ⟨S1, e1, g1, m1, l1, r1, r2, _⟩ := tt_prep (s := 4) (a := 0) h rfl (by omega) (by omega)
  have := m1.len
  obtain ⟨S2, e2, g2, m2, l2, r3⟩ := tt_place (bs := le4 ((S1.buf.length : Int) - off + 4)) g1 (by show 4 ≤ S1.room; omega)
  have hl4 : (le4 ((S1.buf.length : Int) - off + 4)).length = 4 := rfl
  rw [Nat.add_zero] at l1 r2
  refine ⟨S2, by unfold prependU; rw [e1]; show (if off ≤ S1.buf.length then _ else _) = _; rw [if_pos (by omega)]; exact e2, g2.mono (by omega), m1.trans m2, by rw [l2]; simp; omega, by omega⟩

/-! ### Values packed -/
def TotV (pk : PK) (c : Nat) : Prop := ∀ n S, Good n S → S.nested = false → n + c ≤ LIM → ∃ r S', pk S = some (r, S') ∧ Good (n + c) S' ∧ S'.nested = false ∧ r ≤ S'.buf.length ∧ S.buf.length ≤ S'.buf.length
theorem TotV.mono {pk : PK} {c c' : Nat} (h : TotV pk c) (hc : c ≤ c') : TotV pk c' := fun n S hg hn hl => by
  obtain ⟨r, S', e, g, q, l, m⟩ := h n S hg hn (by omega)
  exact ⟨r, S', e, g.mono (by omega), q, l, m⟩
theorem tot_ret0 : TotV (retV 0) 0 := fun _ S hg hn _ => ⟨0, S, rfl, hg, hn, Nat.zero_le _, Nat.le_refl _⟩
theorem tt_endVector {n k : Nat} {S : St} (h : Good n S) (hn : S.nested = true) (hk : k ≤ 1000) (hr : 4 ≤ S.room) :
    ∃ r S', endVector k S = some (r, S') ∧ Good (n + 4) S' ∧ S'.nested = false ∧ r ≤ S'.buf.length ∧ S.buf.length ≤ S'.buf.length := by
  obtain ⟨S1, e1, g1, m1, l1, r1⟩ := tt_place (bs := le4 (k : Int)) h hr
  refine ⟨S1.buf.length, { S1 with nested := false }, ?_, ⟨g1.len, g1.vcnt, g1.al, g1.vok⟩, rfl, Nat.le_refl _, m1.len⟩
  unfold endVector
  have hc : (S.nested && decide (k ≤ 268435456)) = true := by simp [hn]; omega
  rw [if_pos hc, e1]; rfl
theorem tot_string (s : List UInt8) (hs : s.length ≤ 1000) : TotV (createString s) (s.length + 12) := fun n S hg hn hl => by
  have hg' : Good n { S with nested := true } := ⟨hg.len, hg.vcnt, hg.al, hg.vok⟩
  obtain ⟨S1, e1, g1, m1, l1, r1, _, _⟩ := tt_prep (s := 4) (a := s.length + 1) hg' rfl (by omega) (by omega)
  obtain ⟨S2, e2, g2, m2, l2, r2⟩ := tt_place (bs := [0]) g1 (by show 1 ≤ S1.room; omega)
  have r2' : S2.room = S1.room - 1 := r2
  obtain ⟨S3, e3, g3, m3, l3, r3⟩ := tt_place (bs := s) g2 (by omega)
  have hnest : S3.nested = true := by rw [m3.nested, m2.nested, m1.nested]
  obtain ⟨r, S4, e4, g4, q4, l4, m4⟩ := tt_endVector (k := s.length) g3 hnest (by
    have : ([0] : List UInt8).length = 1 := rfl
    omega) (by omega)
  have := m1.len; have := m2.len; have := m3.len
  refine ⟨r, S4, ?_, g4.mono (by simp; omega), q4, l4, by simp at *; omega⟩
  unfold createString
  rw [hn]
  simp only [Bool.false_eq_true, if_false, e1, Option.bind_some, e2, e3, e4]

/-! ### Vectors -/
def El (f : St → Option St) (es a m : Nat) : Prop := ∀ n S, Good n S → S.buf.length % a = 0 → m ≤ S.buf.length → es ≤ S.room → n + 40 ≤ LIM → ∃ S', f S = some S' ∧ Good (n + 40) S' ∧ Mo S S' ∧ S'.buf.length = S.buf.length + es ∧ S.room - es ≤ S'.room
theorem tt_down {α : Type} {f : α → St → Option St} {l : List α} {es a m : Nat} (hf : ∀ x ∈ l, El (f x) es a m) (hes : es % a = 0) :
    ∀ (k n : Nat) (S : St), k ≤ l.length → Good n S → S.buf.length % a = 0 → m ≤ S.buf.length → 4 + es * k ≤ S.room → n + 40 * k ≤ LIM → ∃ S', downE f l k S = some S' ∧ Good (n + 40 * k) S' ∧ Mo S S' ∧ 4 ≤ S'.room
  | 0, n, S, _, hg, _, _, hr, _ => ⟨S, rfl, hg, Mo.refl, by omega⟩
  | k + 1, n, S, hk, hg, ha, hm, hr, hn => by
    have hk' : k < l.length := by omega
    rw [Nat.mul_add, Nat.mul_one] at hr
    obtain ⟨S1, e1, g1, m1, l1, r1⟩ := hf l[k] (List.getElem_mem hk') n S hg ha hm (by omega) (by omega)
    obtain ⟨S2, e2, g2, m2, r2⟩ := tt_down hf hes k (n + 40) S1 (by omega) g1 (by rw [l1, Nat.add_mod, ha, hes]; simp) (by omega) (by omega) (by omega)
    refine ⟨S2, ?_, g2.mono (by omega), m1.trans m2, r2⟩
    unfold downE
    rw [List.getElem?_eq_getElem hk']
    simp only [e1, Option.bind_some]
    exact e2
def vecAl (es al : Nat) : Prop := (es = 4 ∧ al = 2) ∨ (es = 1 ∧ al = 1) ∨ (es = 8 ∧ al = 4) ∨ (es = 8 ∧ al = 8) ∨ (es = 4 ∧ al = 4)
theorem tt_start {es al c n : Nat} {S : St} (hv : vecAl es al) (hg : Good n S) (hn : S.nested = false) (hes : es * c ≤ 400) (hl : n + 14 ≤ LIM) :
    ∃ r S', startVectorV es c al S = some (r, S') ∧ Good (n + 14) S' ∧ S'.nested = true ∧ S'.buf.length % al = 0 ∧ 4 + es * c ≤ S'.room ∧ S.buf.length ≤ S'.buf.length := by
  have hg' : Good n { S with nested := true } := ⟨hg.len, hg.vcnt, hg.al, hg.vok⟩
  have hos : okSize al = true := by rcases hv with ⟨_, rfl⟩ | ⟨_, rfl⟩ | ⟨_, rfl⟩ | ⟨_, rfl⟩ | ⟨_, rfl⟩ <;> rfl
  obtain ⟨S1, e1, g1, m1, l1, r1, r1', d1⟩ := tt_prep (s := 4) (a := es * c) hg' rfl (by omega) (by omega)
  obtain ⟨S2, e2, g2, m2, l2, r2, r2', d2⟩ := tt_prep (s := al) (a := es * c) g1 hos (by omega) (by omega)
  have h1 := m1.len
  have h2 := m2.len
  refine ⟨S2.buf.length, S2, ?_, g2.mono (by omega), by rw [m2.nested, m1.nested], ?_, ?_, Nat.le_trans h1 h2⟩
  · unfold startVectorV startVector
    rw [hn]
    simp only [Bool.false_eq_true, if_false, e1, Option.bind_some, e2, Option.map_some]
  · rcases hv with ⟨rfl, rfl⟩ | ⟨rfl, rfl⟩ | ⟨rfl, rfl⟩ | ⟨rfl, rfl⟩ | ⟨rfl, rfl⟩ <;> omega
  · unfold padOf at r2'
    rcases hv with ⟨rfl, rfl⟩ | ⟨rfl, rfl⟩ | ⟨rfl, rfl⟩ | ⟨rfl, rfl⟩ | ⟨rfl, rfl⟩ <;> omega
theorem vecAl_mod {es al : Nat} (hv : vecAl es al) : es % al = 0 := by
  rcases hv with ⟨rfl, rfl⟩ | ⟨rfl, rfl⟩ | ⟨rfl, rfl⟩ | ⟨rfl, rfl⟩ | ⟨rfl, rfl⟩ <;> rfl
theorem vecAl_le {es al c : Nat} (hv : vecAl es al) (hc : c ≤ 50) : es * c ≤ 400 := by
  rcases hv with ⟨rfl, _⟩ | ⟨rfl, _⟩ | ⟨rfl, _⟩ | ⟨rfl, _⟩ | ⟨rfl, _⟩ <;> omega
theorem tot_vecL {α : Type} {es al : Nat} {f : α → St → Option St} {l : List α} (hv : vecAl es al) (hl : es * l.length ≤ 400) (hl2 : l.length ≤ 300) (hf : ∀ x ∈ l, El (f x) es al 0) : TotV (vecI es al f l) (40 * l.length + 18) := fun n S hg hn hle => by
  unfold vecI
  by_cases h0 : l.length = 0
  · rw [if_pos h0]
    exact ⟨0, S, rfl, hg.mono (by omega), hn, Nat.zero_le _, Nat.le_refl _⟩
  · rw [if_neg h0]
    obtain ⟨r1, S1, e1, g1, q1, a1, o1, l1⟩ := tt_start (c := l.length) hv hg hn hl (by omega)
    obtain ⟨S2, e2, g2, m2, o2⟩ := tt_down hf (vecAl_mod hv) l.length _ S1 (Nat.le_refl _) g1 a1 (Nat.zero_le _) o1 (by omega)
    obtain ⟨r, S3, e3, g3, q3, l3, k3⟩ := tt_endVector (k := l.length) g2 (by rw [m2.nested, q1]) (by omega) o2
    have := m2.len
    refine ⟨r, S3, ?_, g3.mono (by omega), q3, l3, by omega⟩
    unfold withV thn
    simp only [e1, Option.bind_some, e2, e3]
theorem tot_vec {α : Type} {es al : Nat} {f : α → St → Option St} {l : List α} (hv : vecAl es al) (hl : l.length ≤ 50) (hf : ∀ x ∈ l, El (f x) es al 0) : TotV (vecI es al f l) 2018 :=
  (tot_vecL hv (vecAl_le hv hl) (by omega) hf).mono (by omega)
def TotL : List PK → Nat → Prop
  | [], _ => True
  | p :: l, c => ∃ a b, a + b ≤ c ∧ TotV p a ∧ TotL l b
theorem tt_up {α : Type} {f : α → PK} : ∀ (l : List α) (c n : Nat) (S : St), TotL (l.map f) c → Good n S → S.nested = false → n + c ≤ LIM →
    ∃ rs S', upE f l S = some (rs, S') ∧ Good (n + c) S' ∧ S'.nested = false ∧ (∀ r ∈ rs, r ≤ S'.buf.length) ∧ S.buf.length ≤ S'.buf.length ∧ rs.length = l.length
  | [], c, n, S, _, hg, hn, _ => ⟨[], S, rfl, hg.mono (by omega), hn, by simp, Nat.le_refl _, rfl⟩
  | x :: l, c, n, S, ⟨a, b, hab, hx, hl⟩, hg, hn, hle => by
    obtain ⟨r, S1, e1, g1, q1, l1, k1⟩ := hx n S hg hn (by omega)
    obtain ⟨rs, S2, e2, g2, q2, l2, k2, len2⟩ := tt_up l b (n + a) S1 hl g1 q1 (by omega)
    refine ⟨r :: rs, S2, ?_, g2.mono (by omega), q2, ?_, by omega, by simp [len2]⟩
    · unfold upE
      simp only [e1, Option.bind_some, e2, Option.map_some]
    · intro y hy
      rcases List.mem_cons.1 hy with rfl | hy
      · omega
      · exact l2 y hy
theorem el_prependU {off m : Nat} (h : off ≤ m) : El (prependU off) 4 4 m := fun n S hg ha hm hr hn => by
  obtain ⟨S', e, g, mo, l, r⟩ := tt_prependU hg (off := off) (by omega) (by omega)
  have hp : padOf 4 S.buf.length = 0 := by unfold padOf; omega
  rw [hp] at l r
  exact ⟨S', e, g.mono (by omega), mo, by omega, by omega⟩
theorem tot_offV {α : Type} {f : α → PK} {l : List α} {c : Nat} (hl : l.length ≤ 50) (hf : TotL (l.map f) c) : TotV (offV f l) (c + 2018) := fun n S hg hn hle => by
  unfold offV
  by_cases h0 : l.length = 0
  · rw [if_pos h0]
    exact ⟨0, S, rfl, hg.mono (by omega), hn, Nat.zero_le _, Nat.le_refl _⟩
  · rw [if_neg h0]
    obtain ⟨rs, S1, e1, g1, q1, l1, k1, len1⟩ := tt_up l c n S hf hg hn (by omega)
    obtain ⟨r2, S2, e2, g2, q2, a2, o2, l2⟩ := tt_start (es := 4) (al := 4) (.inr (.inr (.inr (.inr ⟨rfl, rfl⟩)))) g1 q1 (by omega : 4 * l.length ≤ 400) (by omega)
    obtain ⟨S3, e3, g3, m3, o3⟩ := tt_down (f := prependU) (l := rs) (es := 4) (a := 4) (m := S1.buf.length) (fun x hx => el_prependU (l1 x hx)) rfl l.length _ S2 (by omega) g2 a2 l2 o2 (by omega)
    obtain ⟨r, S4, e4, g4, q4, l4, k4⟩ := tt_endVector (k := l.length) g3 (by rw [m3.nested, q2]) (by omega) o3
    have := m3.len
    refine ⟨r, S4, ?_, g4.mono (by omega), q4, l4, by omega⟩
    unfold withV thn
    simp only [e1, e2, Option.bind_some, e3, e4]
theorem tot_bytes {l : List UInt8} (h : l.length ≤ 300) : TotV (bytesV l) 312 := by
  unfold bytesV
  split
  · exact tot_ret0.mono (by omega)
  · exact (tot_string l (by omega)).mono (by omega)
theorem el_prepend {s : Nat} {bs : List UInt8} (hs : okSize s = true) (hb : bs.length = s) : El (prepend s bs) s s 0 := fun n S hg ha hm hr hn => by
  obtain ⟨S', e, g, mo, l, r, _⟩ := tt_prepend hg hs hb (by omega)
  have hp : padOf s S.buf.length = 0 := by unfold padOf; rw [ha]; rcases okSize_cases hs with rfl | rfl | rfl | rfl <;> rfl
  rw [hp] at l r
  exact ⟨S', e, g.mono (by omega), mo, by omega, by omega⟩

theorem el_test (ab : Int × Int) : El (dropV (testPK ab)) 4 2 0 := fun n S hg ha hm hr hn => by
  obtain ⟨S1, e1, g1, m1, l1, r1, q1, _⟩ := tt_prep (s := 2) (a := 4) hg rfl (by omega) (by omega)
  have hp : padOf 2 (S.buf.length + 4) = 0 := by unfold padOf; omega
  rw [hp] at l1 q1
  obtain ⟨S2, e2, g2, m2, l2, r2⟩ := tt_place (bs := List.replicate 1 0) g1 (by show 1 ≤ S1.room; omega)
  have l2' : S2.buf.length = S1.buf.length + 1 := by rw [l2, List.length_append, List.length_replicate, Nat.add_comm]
  have r2' : S2.room = S1.room - 1 := r2
  have g2' : Good (n + 8) S2 := g2.mono (by simp)
  obtain ⟨S3, e3, g3, m3, l3, r3, _⟩ := tt_prepend (s := 1) (bs := [lb ab.2]) g2' rfl rfl (by omega)
  have hp3 : padOf 1 S2.buf.length = 0 := by unfold padOf; omega
  rw [hp3] at l3 r3
  obtain ⟨S4, e4, g4, m4, l4, r4, _⟩ := tt_prepend (s := 2) (bs := le2 ab.1) g3 rfl rfl (by omega)
  have hp4 : padOf 2 S3.buf.length = 0 := by unfold padOf; omega
  rw [hp4] at l4 r4
  refine ⟨S4, ?_, g4.mono (by omega), ((m1.trans m2).trans m3).trans m4, by omega, by omega⟩
  unfold dropV testPK createTest thn offsetV
  simp only [e1, Option.bind_some, e2, e3, e4, Option.map_some]
theorem el_abil (ab : Int × Int) : El (dropV (abilPK ab)) 8 4 0 := fun n S hg ha hm hr hn => by
  obtain ⟨S1, e1, g1, m1, l1, r1, q1, _⟩ := tt_prep (s := 4) (a := 8) hg rfl (by omega) (by omega)
  have hp : padOf 4 (S.buf.length + 8) = 0 := by unfold padOf; omega
  rw [hp] at l1 q1
  obtain ⟨S3, e3, g3, m3, l3, r3, _⟩ := tt_prepend (s := 4) (bs := le4 ab.2) g1 rfl rfl (by omega)
  have hp3 : padOf 4 S1.buf.length = 0 := by unfold padOf; omega
  rw [hp3] at l3 r3
  obtain ⟨S4, e4, g4, m4, l4, r4, _⟩ := tt_prepend (s := 4) (bs := le4 ab.1) g3 rfl rfl (by omega)
  have hp4 : padOf 4 S3.buf.length = 0 := by unfold padOf; omega
  rw [hp4] at l4 r4
  refine ⟨S4, ?_, g4.mono (by omega), (m1.trans m3).trans m4, by omega, by omega⟩
  unfold dropV abilPK createAbility thn offsetV
  simp only [e1, Option.bind_some, e3, e4, Option.map_some]
/-- Packed within an object. -/
def TotP (pk : PK) (c : Nat) : Prop := ∀ n S, Good n S → n + c ≤ LIM → ∃ r S', pk S = some (r, S') ∧ Good (n + c) S' ∧ Mo S S' ∧ (r = 0 ∨ r = S'.buf.length)
theorem totP_vec (v : Vec) : TotP (vecPK v) 130 := fun n S hg hn => by
  obtain ⟨S1, e1, g1, m1, l1, r1, q1, d1⟩ := tt_prep (s := 8) (a := 32) hg rfl (by omega) (by omega)
  obtain ⟨S2, e2, g2, m2, l2, r2⟩ := tt_place (bs := List.replicate 2 0) g1 (by show 2 ≤ S1.room; omega)
  have l2' : S2.buf.length = S1.buf.length + 2 := by rw [l2, List.length_append, List.length_replicate, Nat.add_comm]
  have r2' : S2.room = S1.room - 2 := r2
  have g2' : Good (n + 9) S2 := g2.mono (by simp)
  obtain ⟨S3, e3, g3, m3, l3, r3, q3, d3⟩ := tt_prep (s := 2) (a := 4) g2' rfl (by omega) (by omega)
  have hp3 : padOf 2 (S2.buf.length + 4) = 0 := by unfold padOf; omega
  rw [hp3] at l3 q3
  obtain ⟨S4, e4, g4, m4, l4, r4⟩ := tt_place (bs := List.replicate 1 0) g3 (by show 1 ≤ S3.room; omega)
  have l4' : S4.buf.length = S3.buf.length + 1 := by rw [l4, List.length_append, List.length_replicate, Nat.add_comm]
  have r4' : S4.room = S3.room - 1 := r4
  have g4' : Good (n + 17) S4 := g4.mono (by simp)
  obtain ⟨S5, e5, g5, m5, l5, r5, _⟩ := tt_prepend (s := 1) (bs := [lb v.b]) g4' rfl rfl (by omega)
  have hp5 : padOf 1 S4.buf.length = 0 := by unfold padOf; omega
  rw [hp5] at l5 r5
  obtain ⟨S6, e6, g6, m6, l6, r6, _⟩ := tt_prepend (s := 2) (bs := le2 v.a) g5 rfl rfl (by omega)
  have hp6 : padOf 2 S5.buf.length = 0 := by unfold padOf; omega
  rw [hp6] at l6 r6
  obtain ⟨S7, e7, g7, m7, l7, r7⟩ := tt_place (bs := List.replicate 1 0) g6 (by show 1 ≤ S6.room; omega)
  have l7' : S7.buf.length = S6.buf.length + 1 := by rw [l7, List.length_append, List.length_replicate, Nat.add_comm]
  have r7' : S7.room = S6.room - 1 := r7
  have g7' : Good (n + 48) S7 := g7.mono (by simp)
  obtain ⟨S8, e8, g8, m8, l8, r8, _⟩ := tt_prepend (s := 1) (bs := [v.t2]) g7' rfl rfl (by omega)
  have hp8 : padOf 1 S7.buf.length = 0 := by unfold padOf; omega
  rw [hp8] at l8 r8
  obtain ⟨S9, e9, g9, m9, l9, r9, _⟩ := tt_prepend (s := 8) (bs := le8 v.t1.toNat) g8 rfl rfl (by omega)
  have hp9 : padOf 8 S8.buf.length = 0 := by unfold padOf; omega
  rw [hp9] at l9 r9
  obtain ⟨SA, eA, gA, mA, lA, rA⟩ := tt_place (bs := List.replicate 4 0) g9 (by show 4 ≤ S9.room; omega)
  have lA' : SA.buf.length = S9.buf.length + 4 := by rw [lA, List.length_append, List.length_replicate, Nat.add_comm]
  have rA' : SA.room = S9.room - 4 := rA
  have gA' : Good (n + 82) SA := gA.mono (by simp)
  obtain ⟨SB, eB, gB, mB, lB, rB, _⟩ := tt_prepend (s := 4) (bs := le4 v.z.toNat) gA' rfl rfl (by omega)
  obtain ⟨SC, eC, gC, mC, lC, rC, _⟩ := tt_prepend (s := 4) (bs := le4 v.y.toNat) gB rfl rfl (by omega)
  obtain ⟨SD, eD, gD, mD, lD, rD, _⟩ := tt_prepend (s := 4) (bs := le4 v.x.toNat) gC rfl rfl (by omega)
  refine ⟨SD.buf.length, SD, ?_, gD.mono (by omega), (((((((((((m1.trans m2).trans m3).trans m4).trans m5).trans m6).trans m7).trans m8).trans m9).trans mA).trans mB).trans mC).trans mD, .inr rfl⟩
  unfold vecPK createVec3 thn offsetV
  simp only [e1, Option.bind_some, e2, e3, e4, e5, e6, e7, e8, e9, eA, eB, eC, eD]

/-! ### Objects -/
structure InO (n L : Nat) (S : St) : Prop where
  good : Good n S
  nest : S.nested = true
  st : S.started = true
  vl : S.vt.length = L
  va : ∀ a ∈ S.vt, a ≤ S.buf.length
  oe : S.oend ≤ S.buf.length
theorem tt_startObject {n L : Nat} {S : St} (hg : Good n S) (hn : S.nested = false) : ∃ S', startObject L S = some S' ∧ InO n L S' ∧ S'.buf = S.buf := by
  refine ⟨{ S with nested := true, vt := List.replicate L 0, oend := S.buf.length, started := true }, by unfold startObject; rw [hn]; simp, ⟨⟨hg.len, hg.vcnt, hg.al, hg.vok⟩, rfl, rfl, by simp, fun a ha => ?_, Nat.le_refl _⟩, rfl⟩
  have := (List.mem_replicate.1 ha).2
  omega
theorem InO.step {n m L : Nat} {S S' : St} (h : InO n L S) (hm : Mo S S') (hg : Good m S') : InO m L S' := by
  have := hm.len
  exact ⟨hg, hm.nested.trans h.nest, hm.started.trans h.st, by rw [hm.vt]; exact h.vl, fun a ha => by rw [hm.vt] at ha; exact Nat.le_trans (h.va a ha) this, by rw [hm.oend]; exact Nat.le_trans h.oe this⟩
theorem tt_slot {n L i : Nat} {S : St} (h : InO n L S) (hi : i < L) : ∃ S', slot i S = some S' ∧ InO n L S' ∧ S'.buf = S.buf := by
  refine ⟨{ S with vt := S.vt.set i S.buf.length }, by unfold slot; rw [if_pos (by rw [h.vl]; exact hi)], ⟨⟨h.good.len, h.good.vcnt, h.good.al, h.good.vok⟩, h.nest, h.st, by simp [h.vl], fun a ha => ?_, h.oe⟩, rfl⟩
  rcases List.mem_or_eq_of_mem_set ha with h1 | h1
  · exact h.va a h1
  · exact Nat.le_of_eq h1
theorem tt_slotOp {n L i s : Nat} {b : Bool} {bs : List UInt8} {S : St} (h : InO n L S) (hs : okSize s = true) (hb : bs.length = s) (hi : i < L) (hn : n + 15 ≤ LIM) : ∃ S', slotOp b (prepend s bs) i S = some S' ∧ InO (n + 15) L S' ∧ S.buf.length ≤ S'.buf.length := by
  unfold slotOp
  cases b
  · exact ⟨S, by simp, h.step Mo.refl (h.good.mono (by omega)), Nat.le_refl _⟩
  · obtain ⟨S1, e1, g1, m1, _⟩ := tt_prepend h.good hs hb hn
    obtain ⟨S2, e2, i2, b2⟩ := tt_slot (h.step m1 g1) hi
    exact ⟨S2, by simp [e1, e2], i2, by rw [b2]; exact m1.len⟩
theorem tt_slotU {n L i r : Nat} {b : Bool} {S : St} (h : InO n L S) (hr : r ≤ S.buf.length) (hi : i < L) (hn : n + 15 ≤ LIM) : ∃ S', slotOp b (prependU r) i S = some S' ∧ InO (n + 15) L S' ∧ S.buf.length ≤ S'.buf.length := by
  unfold slotOp
  cases b
  · exact ⟨S, by simp, h.step Mo.refl (h.good.mono (by omega)), Nat.le_refl _⟩
  · obtain ⟨S1, e1, g1, m1, _⟩ := tt_prependU h.good hr hn
    obtain ⟨S2, e2, i2, b2⟩ := tt_slot (h.step m1 g1) hi
    exact ⟨S2, by simp [e1, e2], i2, by rw [b2]; exact m1.len⟩
theorem tt_typeSlot {n L i : Nat} {k : Option UInt8} {S : St} (h : InO n L S) (hi : i < L) (hn : n + 15 ≤ LIM) : ∃ S', typeSlot i k S = some S' ∧ InO (n + 15) L S' ∧ S.buf.length ≤ S'.buf.length := by
  cases k with
  | none => exact ⟨S, rfl, h.step Mo.refl (h.good.mono (by omega)), Nat.le_refl _⟩
  | some k => exact tt_slotOp h rfl rfl hi hn
theorem tt_structSlot {n L i r : Nat} {S : St} (h : InO n L S) (hr : r = 0 ∨ r = S.buf.length) (hi : i < L) : ∃ S', structSlot i r 0 S = some S' ∧ InO n L S' ∧ S'.buf = S.buf := by
  unfold structSlot
  by_cases h0 : r = 0
  · rw [if_pos h0]; exact ⟨S, rfl, h, rfl⟩
  · rw [if_neg h0, if_pos (by simp [h.nest]; omega)]
    exact tt_slot h hi

theorem vtAt_ok {buf : List UInt8} {v : Nat} (h : VOK buf v) : ∃ bs, vtAt buf v = some bs := by
  obtain ⟨h1, h2, h3, h4⟩ := h
  unfold vtAt
  rw [if_pos ⟨h1, h2, h3, by omega⟩]
  exact ⟨_, rfl⟩
theorem find_ok {buf : List UInt8} {vt vts : List Nat} {obj : Nat} (h : ∀ v ∈ vts, VOK buf v) : ∀ k, k ≤ vts.length → ∃ fo, findFrom buf vt obj vts k = some fo
  | 0, _ => ⟨none, rfl⟩
  | k + 1, hk => by
    obtain ⟨bs, hb⟩ := vtAt_ok (h vts[k] (List.getElem_mem (by omega)))
    unfold findFrom
    rw [List.getElem?_eq_getElem (show k < vts.length by omega)]
    simp only [hb]
    split
    · exact ⟨_, rfl⟩
    · exact find_ok h k (by omega)
theorem sets_len : ∀ (bs l : List UInt8) (o : Nat), (sets l o bs).length = l.length
  | [], l, o => rfl
  | b :: bs, l, o => by rw [sets, sets_len bs]; simp
theorem sets_get : ∀ (bs l : List UInt8) (o i : Nat), (i < o ∨ o + bs.length ≤ i) → (sets l o bs)[i]? = l[i]?
  | [], l, o, i, _ => rfl
  | b :: bs, l, o, i, h => by
    simp only [List.length_cons] at h
    rw [sets, sets_get bs _ _ _ (by omega), List.getElem?_set_ne (by omega)]
theorem sets_app : ∀ (bs a c : List UInt8) (o : Nat), o + bs.length ≤ a.length → sets (a ++ c) o bs = sets a o bs ++ c
  | [], a, c, o, _ => rfl
  | b :: bs, a, c, o, h => by
    simp only [List.length_cons] at h
    rw [sets, sets, List.set_append_left _ _ (by omega), sets_app bs _ _ _ (by simp; omega)]
theorem VOK.patch {buf bs : List UInt8} {v obj : Nat} (h : VOK buf v) (hb : bs.length = 4) (ho : obj ≤ buf.length) (hv : v + 4 ≤ obj ∨ obj + 2 ≤ v) : VOK (sets buf (buf.length - obj) bs) v := by
  obtain ⟨h1, h2, h3, h4⟩ := h
  have e : u16 (sets buf (buf.length - obj) bs) (buf.length - v) = u16 buf (buf.length - v) := by
    unfold u16
    rw [sets_get _ _ _ _ (by omega), sets_get _ _ _ _ (by omega)]
  refine ⟨h1, by rw [sets_len]; exact h2, ?_, ?_⟩ <;> rw [sets_len, e] <;> assumption
theorem trim_sub (vt : List Nat) : ∀ a ∈ trim vt, a ∈ vt := fun a h => List.mem_of_mem_take h
theorem trim_le (vt : List Nat) : (trim vt).length ≤ vt.length := by unfold trim; simp; omega
theorem tt_entries {obj : Nat} {vt : List Nat} : ∀ (k n : Nat) (S : St), Good n S → n + 15 * k ≤ LIM → ∃ S', prepEntries obj vt k S = some S' ∧ Good (n + 15 * k) S' ∧ Mo S S' ∧ S.buf.length + 2 * k ≤ S'.buf.length
  | 0, n, S, hg, _ => ⟨S, rfl, hg, Mo.refl, by omega⟩
  | k + 1, n, S, hg, hn => by
    obtain ⟨S1, e1, g1, m1, l1, _⟩ := tt_prepend (s := 2) (bs := le2 (IntKind.wrap .u16 (if vt[k]?.getD 0 = 0 then 0 else (obj : Int) - (vt[k]?.getD 0 : Nat)))) hg rfl rfl (by omega)
    obtain ⟨S2, e2, g2, m2, l2⟩ := tt_entries (obj := obj) (vt := vt) k _ S1 g1 (by omega)
    refine ⟨S2, ?_, g2.mono (by omega), m1.trans m2, by omega⟩
    unfold prepEntries
    rw [e1]; exact e2
theorem u16_le2 {n : Nat} (h : n < 65536) (c : List UInt8) : u16 (le2 n ++ c) 0 = n := by
  unfold u16 le2
  simp only [List.cons_append, List.getElem?_cons_zero, List.getElem?_cons_succ, Option.getD_some, Nat.zero_add]
  have h1 : ((lb (n : Int)).toNat : Int) = (n : Int) % 256 := lb_toNat _
  have h2 : ((lb ((n : Int).fdiv (2 ^ 8))).toNat : Int) = ((n : Int).fdiv (2 ^ 8)) % 256 := lb_toNat _
  have h3 : (n : Int).fdiv (2 ^ 8) = (n : Int) / 256 := by rw [Int.fdiv_eq_ediv_of_nonneg _ (by decide)]; rfl
  rw [h3] at h2 ⊢
  omega
theorem tt_prependS {n : Nat} {S : St} (h : Good n S) (hn : n + 15 ≤ LIM) : ∃ S', prependS S = some S' ∧ Good (n + 15) S' ∧ Mo S S' ∧ S.buf.length + 4 ≤ S'.buf.length := by
  obtain ⟨S1, e1, g1, m1, l1, r1, r2, _⟩ := tt_prep (s := 4) (a := 0) h rfl (by omega) (by omega)
  have := m1.len
  obtain ⟨S2, e2, g2, m2, l2, r3⟩ := tt_place (bs := le4 ((S1.buf.length : Int) + 4)) g1 (by show 4 ≤ S1.room; omega)
  have hl4 : (le4 ((S1.buf.length : Int) + 4)).length = 4 := rfl
  refine ⟨S2, by unfold prependS; rw [e1]; exact e2, g2.mono (by omega), m1.trans m2, ?_⟩
  rw [l2, List.length_append, hl4]; omega
theorem tt_patch {obj : Nat} {bs : List UInt8} {S : St} (h : 4 ≤ obj) (h' : obj ≤ S.buf.length) : patch obj bs S = some { S with buf := sets S.buf (S.buf.length - obj) bs } := by
  unfold patch; rw [if_pos ⟨h, h'⟩]
/-- An object ended. -/
theorem tt_endObject {n L : Nat} {S : St} (h : InO n L S) (hL : L ≤ 49) (hn : n + 15 * L + 130 ≤ LIM) :
    ∃ r S', endObject S = some (r, S') ∧ Good (n + 15 * L + 130) S' ∧ S'.nested = false ∧ r ≤ S'.buf.length ∧ S.buf.length ≤ S'.buf.length := by
  obtain ⟨S1, e1, g1, m1, l1⟩ := tt_prependS h.good (by omega)
  have h1 := h.step m1 g1
  have hcond : (S1.vt.all (fun a => decide (a ≤ S1.buf.length)) && decide (S1.vt.length ≤ 1000) && decide (S1.oend ≤ S1.buf.length) && decide (S1.vts.length ≤ 100000) && S1.started) = true := by
    have hv := g1.vcnt
    unfold LIM at hn
    simp only [Bool.and_eq_true, List.all_eq_true, decide_eq_true_eq]
    exact ⟨⟨⟨⟨h1.va, by rw [h1.vl]; omega⟩, h1.oe⟩, by omega⟩, h1.st⟩
  obtain ⟨fo, hfo⟩ := find_ok (vt := trim S1.vt) (obj := S1.buf.length) g1.vok S1.vts.length (Nat.le_refl _)
  have hold : ∀ v ∈ S1.vts, v + 4 ≤ S1.buf.length := fun v hv => by
    rw [m1.vts] at hv
    have := (h.good.vok v hv).2.1
    omega
  unfold endObject
  rw [h.nest]
  simp only [if_true]
  unfold writeVtable
  rw [e1, Option.bind_some]
  rw [if_pos hcond, hfo, Option.bind_some]
  cases fo with
  | some v =>
    dsimp only
    rw [tt_patch (S := { S1 with vt := [] }) (by show 4 ≤ S1.buf.length; omega) (Nat.le_refl _)]
    refine ⟨S1.buf.length, { { { S1 with vt := [] } with buf := sets S1.buf (S1.buf.length - S1.buf.length) (le4 ((v : Int) - S1.buf.length)) } with nested := false }, rfl, ⟨?_, ?_, g1.al, fun u hu => ?_⟩, rfl, ?_, ?_⟩
    · show (sets _ _ _).length ≤ _
      rw [sets_len]; have := g1.len; omega
    · have := g1.vcnt; show 64 * S1.vts.length ≤ _; omega
    · exact (g1.vok u hu).patch rfl (Nat.le_refl _) (.inl (hold u hu))
    · show _ ≤ (sets _ _ _).length
      rw [sets_len]; exact Nat.le_refl _
    · show _ ≤ (sets _ _ _).length
      rw [sets_len]; omega
  | none =>
    have ht : (trim S1.vt).length ≤ L := by have := trim_le S1.vt; rw [h1.vl] at this; exact this
    have g1' : Good (n + 15) { S1 with vt := trim S1.vt } := ⟨g1.len, g1.vcnt, g1.al, g1.vok⟩
    obtain ⟨S2, e2, g2, m2, l2⟩ := tt_entries (obj := S1.buf.length) (vt := trim S1.vt) (trim S1.vt).length (n + 15) _ g1' (by omega)
    obtain ⟨S3, e3, g3, m3, l3, _⟩ := tt_prepend (s := 2) (bs := le2 (IntKind.wrap .u16 ((S1.buf.length : Int) - S1.oend))) g2 rfl rfl (by omega)
    have hw : IntKind.wrap .u16 ((((trim S1.vt).length + 2) * 2 : Nat) : Int) = ((((trim S1.vt).length + 2) * 2 : Nat) : Int) := w_u16 (by omega) (by omega)
    obtain ⟨S4, e4, g4, m4, l4, _, c4, b4⟩ := tt_prepend (s := 2) (bs := le2 (IntKind.wrap .u16 ((((trim S1.vt).length + 2) * 2 : Nat) : Int))) g3 rfl rfl (by omega)
    have l2' : S1.buf.length + 2 * (trim S1.vt).length ≤ S2.buf.length := l2
    have hu : u16 S4.buf 0 = ((trim S1.vt).length + 2) * 2 := by rw [b4, hw]; exact u16_le2 (by omega) c4
    have hvts : S4.vts = S1.vts := by rw [m4.vts, m3.vts, m2.vts]
    simp only [e2, Option.bind_some, e3, e4]
    rw [tt_patch (S := { S4 with vts := S4.vts ++ [S4.buf.length], vt := [] }) (by omega) (by show _ ≤ S4.buf.length; omega)]
    refine ⟨S1.buf.length, { { { S4 with vts := S4.vts ++ [S4.buf.length], vt := [] } with buf := sets S4.buf (S4.buf.length - S1.buf.length) (le4 ((S4.buf.length : Int) - S1.buf.length)) } with nested := false }, rfl, ⟨?_, ?_, g4.al, fun u hu' => ?_⟩, rfl, ?_, ?_⟩
    · show (sets _ _ _).length ≤ _
      rw [sets_len]; have := g4.len; omega
    · show 64 * (S4.vts ++ [S4.buf.length]).length ≤ _
      rw [hvts]
      have := g1.vcnt
      simp; omega
    · have hu2 : u ∈ S4.vts ++ [S4.buf.length] := hu'
      show VOK (sets S4.buf (S4.buf.length - S1.buf.length) _) u
      rcases List.mem_append.1 hu2 with h3 | h3
      · exact (g4.vok u h3).patch rfl (by omega) (.inl (hold u (by rw [← hvts]; exact h3)))
      · have h4 : u = S4.buf.length := by simpa using h3
        subst h4
        exact VOK.patch ⟨by omega, Nat.le_refl _, by rw [Nat.sub_self, hu]; omega, by rw [Nat.sub_self, hu]; omega⟩ rfl (by omega) (.inr (by omega))
    · show _ ≤ (sets _ _ _).length
      rw [sets_len]; omega
    · show _ ≤ (sets _ _ _).length
      rw [sets_len]; omega
end Go.Proofs.YtjaplgfgkigmiaaGreat
