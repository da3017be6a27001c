/-
  Reading: the structs; a monster, to any depth.
-/
import Derived.Test.YtjaplgfgkigmiaaGreatRd
namespace Go.Proofs.YtjaplgfgkigmiaaGreat
open Go Go.Proofs Go.Deep

def gl (cs : List Value) (i : Nat) : Value := cs[i]?.getD undef
theorem gl_one {cs : List Value} {i : Nat} (h : i < cs.length) : (cs.drop i).take 1 = [gl cs i] := by
  unfold gl
  rw [List.drop_eq_getElem_cons h, List.getElem?_eq_getElem h]; rfl
theorem gl_three {cs : List Value} {i : Nat} (h : i + 2 < cs.length) : (cs.drop i).take 3 = [gl cs i, gl cs (i + 1), gl cs (i + 2)] := by
  unfold gl
  rw [List.drop_eq_getElem_cons (by omega), List.drop_eq_getElem_cons (by omega), List.drop_eq_getElem_cons h, List.getElem?_eq_getElem (show i < cs.length by omega), List.getElem?_eq_getElem (show i + 1 < cs.length by omega), List.getElem?_eq_getElem h]; rfl
theorem gl_all {cs : List Value} {n : Nat} (h : cs.length = n) : cs = (List.range n).map (gl cs) := by
  apply List.ext_getElem
  · simp [h]
  · intro i h1 h2
    simp [gl, List.getElem?_eq_getElem h1]
section
variable {H : Type} {enc : TypeId × Value → H} {w : World} {base : Nat} {spare : Nat → Bool} {held : Bool}
/-- It reads. -/
abbrev RD (enc : TypeId × Value → H) (w : World) (base : Nat) (spare : Nat → Bool) (held : Bool) (t : TypeId) (cs : List Value) : Prop := ∃ n y, DataW.trod enc Tryz.prog w base spare held n t cs = some y
theorem rd_struct {t : TypeId} {fs : Array Field} {cs : List Value} (ht : Tryz.prog.underlying t = some (.struct fs)) (h : RD enc w base spare held t cs) : cs.length = Tryz.prog.cellsOf t ∧ ∀ (i : Nat) (f : Field), fs[i]? = some f → RD enc w base spare held f.type ((cs.drop f.offset).take (Tryz.prog.cellsOf f.type)) := by
  obtain ⟨n, y, h⟩ := h
  obtain ⟨xs, m, _, _, hl, hx, hf⟩ := DataW.trod_struct ht h
  refine ⟨hl, fun i f hi => ?_⟩
  have h1 := hf i f hi
  have hi2 : i < xs.length := by
    rw [hx]
    rcases Nat.lt_or_ge i fs.size with h | h
    · exact h
    · rw [Array.getElem?_eq_none h] at hi; cases hi
  rw [List.getElem?_eq_getElem hi2] at h1
  exact ⟨m, _, h1⟩
theorem rd_one {t : TypeId} {o : Nat} {cs : List Value} (h : RD enc w base spare held t ((cs.drop o).take (Tryz.prog.cellsOf t))) (hc : Tryz.prog.cellsOf t = 1) (ho : o < cs.length) : RD enc w base spare held t [gl cs o] := by
  rw [hc, gl_one ho] at h; exact h
theorem rd_int {t : TypeId} {k : IntKind} {v : Value} (ht : Tryz.prog.underlying t = some (.int k)) (h : RD enc w base spare held t [v]) : ∃ n, v = .int k n ∧ (Lit.int k n).wf = true := by
  obtain ⟨n, y, h⟩ := h
  obtain ⟨m, h1, _, h2⟩ := DataW.trod_int ht h
  exact ⟨m, by simpa using h1, h2⟩
theorem rd_u8 {t : TypeId} {v : Value} (ht : Tryz.prog.underlying t = some (.int .u8)) (h : RD enc w base spare held t [v]) : ∃ u : UInt8, v = B u := by
  obtain ⟨n, h1, h2⟩ := rd_int ht h
  have h3 : (0 : Int) ≤ n ∧ n < 256 := by
    simp [Lit.wf, IntKind.min, IntKind.max, IntKind.signed, IntKind.bits] at h2
    omega
  exact ⟨lb n, by rw [h1, ← B_lb, w_u8 h3.1 h3.2]⟩
theorem rd_string {t : TypeId} {v : Value} (ht : Tryz.prog.underlying t = some .string) (h : RD enc w base spare held t [v]) : ∃ s, v = .string s := by
  obtain ⟨n, y, h⟩ := h
  obtain ⟨m, h1, _, h2⟩ := DataW.trod_string ht h
  exact ⟨m, by simpa using h1⟩
theorem rd_bool {t : TypeId} {v : Value} (ht : Tryz.prog.underlying t = some .bool) (h : RD enc w base spare held t [v]) : ∃ b, v = .bool b := by
  obtain ⟨n, y, h⟩ := h
  obtain ⟨m, h1, _⟩ := DataW.trod_bool ht h
  exact ⟨m, by simpa using h1⟩

theorem rd_isVec {n : Nat} {cs : List Value} {y : DataW H × List MemPlace} (_ : cs.length = 7) (h : DataW.trod enc Tryz.prog w base spare held n 75 cs = some y) : ∃ s, isVec cs.toArray s := by
  obtain ⟨hl, hf⟩ := rd_struct Tryz.underlying75 ⟨n, y, h⟩
  rw [show Tryz.prog.cellsOf 75 = 7 from by kernel_rfl] at hl
  obtain ⟨a0, e0, _⟩ := rd_int Tryz.underlying30 (rd_one (hf 0 _ rfl) (by kernel_rfl) (by show 0 < cs.length; omega))
  obtain ⟨a1, e1, _⟩ := rd_int Tryz.underlying30 (rd_one (hf 1 _ rfl) (by kernel_rfl) (by show 1 < cs.length; omega))
  obtain ⟨a2, e2, _⟩ := rd_int Tryz.underlying30 (rd_one (hf 2 _ rfl) (by kernel_rfl) (by show 2 < cs.length; omega))
  obtain ⟨a3, e3, _⟩ := rd_int Tryz.underlying31 (rd_one (hf 3 _ rfl) (by kernel_rfl) (by show 3 < cs.length; omega))
  obtain ⟨a4, e4⟩ := rd_u8 Tryz.underlying5 (rd_one (hf 4 _ rfl) (by kernel_rfl) (by show 4 < cs.length; omega))
  obtain ⟨a5, e5, _⟩ := rd_int Tryz.underlying23 (rd_one (hf 5 _ rfl) (by kernel_rfl) (by show 5 < cs.length; omega))
  obtain ⟨a6, e6, _⟩ := rd_int Tryz.underlying36 (rd_one (hf 6 _ rfl) (by kernel_rfl) (by show 6 < cs.length; omega))
  refine ⟨⟨a0, a1, a2, a3, a4, a5, a6⟩, ?_⟩
  unfold isVec
  rw [gl_all hl]
  show #[gl cs 0, gl cs 1, gl cs 2, gl cs 3, gl cs 4, gl cs 5, gl cs 6] = _
  rw [show gl cs 0 = _ from e0, show gl cs 1 = _ from e1, show gl cs 2 = _ from e2, show gl cs 3 = _ from e3, show gl cs 4 = _ from e4, show gl cs 5 = _ from e5, show gl cs 6 = _ from e6]

theorem rd_isTest {n : Nat} {cs : List Value} {y : DataW H × List MemPlace} (_ : cs.length = 2) (h : DataW.trod enc Tryz.prog w base spare held n 80 cs = some y) : ∃ s, isTest cs.toArray s := by
  obtain ⟨hl, hf⟩ := rd_struct Tryz.underlying80 ⟨n, y, h⟩
  rw [show Tryz.prog.cellsOf 80 = 2 from by kernel_rfl] at hl
  obtain ⟨a0, e0, _⟩ := rd_int Tryz.underlying23 (rd_one (hf 0 _ rfl) (by kernel_rfl) (by show 0 < cs.length; omega))
  obtain ⟨a1, e1, _⟩ := rd_int Tryz.underlying36 (rd_one (hf 1 _ rfl) (by kernel_rfl) (by show 1 < cs.length; omega))
  refine ⟨(a0, a1), ?_⟩
  unfold isTest
  rw [gl_all hl]
  show #[gl cs 0, gl cs 1] = _
  rw [show gl cs 0 = _ from e0, show gl cs 1 = _ from e1]

theorem rd_isAbil {n : Nat} {cs : List Value} {y : DataW H × List MemPlace} (_ : cs.length = 2) (h : DataW.trod enc Tryz.prog w base spare held n 92 cs = some y) : ∃ s, isAbil cs.toArray s := by
  obtain ⟨hl, hf⟩ := rd_struct Tryz.underlying92 ⟨n, y, h⟩
  rw [show Tryz.prog.cellsOf 92 = 2 from by kernel_rfl] at hl
  obtain ⟨a0, e0, _⟩ := rd_int Tryz.underlying30 (rd_one (hf 0 _ rfl) (by kernel_rfl) (by show 0 < cs.length; omega))
  obtain ⟨a1, e1, _⟩ := rd_int Tryz.underlying30 (rd_one (hf 1 _ rfl) (by kernel_rfl) (by show 1 < cs.length; omega))
  refine ⟨(a0, a1), ?_⟩
  unfold isAbil
  rw [gl_all hl]
  show #[gl cs 0, gl cs 1] = _
  rw [show gl cs 0 = _ from e0, show gl cs 1 = _ from e1]

theorem rd_isStat {n : Nat} {cs : List Value} {y : DataW H × List MemPlace} (_ : cs.length = 3) (h : DataW.trod enc Tryz.prog w base spare held n 86 cs = some y) : ∃ s, isStat cs.toArray s := by
  obtain ⟨hl, hf⟩ := rd_struct Tryz.underlying86 ⟨n, y, h⟩
  rw [show Tryz.prog.cellsOf 86 = 3 from by kernel_rfl] at hl
  obtain ⟨a0, e0⟩ := rd_string Tryz.underlying9 (rd_one (hf 0 _ rfl) (by kernel_rfl) (by show 0 < cs.length; omega))
  obtain ⟨a1, e1, _⟩ := rd_int Tryz.underlying2 (rd_one (hf 1 _ rfl) (by kernel_rfl) (by show 1 < cs.length; omega))
  obtain ⟨a2, e2, _⟩ := rd_int Tryz.underlying39 (rd_one (hf 2 _ rfl) (by kernel_rfl) (by show 2 < cs.length; omega))
  refine ⟨(a0, a1, a2), ?_⟩
  unfold isStat
  rw [gl_all hl]
  show #[gl cs 0, gl cs 1, gl cs 2] = _
  rw [show gl cs 0 = _ from e0, show gl cs 1 = _ from e1, show gl cs 2 = _ from e2]

theorem rd_isStr {n : Nat} {c : Value} {y : DataW H × List MemPlace} (h : DataW.trod enc Tryz.prog w base spare held n 9 [c] = some y) : ∃ s, isStr c s := rd_string Tryz.underlying9 ⟨n, y, h⟩
theorem rd_isBool {n : Nat} {c : Value} {y : DataW H × List MemPlace} (h : DataW.trod enc Tryz.prog w base spare held n 4 [c] = some y) : ∃ s, isBool c s := rd_bool Tryz.underlying4 ⟨n, y, h⟩
theorem rd_isI64 {n : Nat} {c : Value} {y : DataW H × List MemPlace} (h : DataW.trod enc Tryz.prog w base spare held n 2 [c] = some y) : ∃ s, isI64 c s := by
  obtain ⟨m, h1, _⟩ := rd_int Tryz.underlying2 ⟨n, y, h⟩
  exact ⟨m, h1⟩
theorem rd_isU64 {n : Nat} {c : Value} {y : DataW H × List MemPlace} (h : DataW.trod enc Tryz.prog w base spare held n 31 [c] = some y) : ∃ s, isU64 c s := by
  obtain ⟨m, h1, _⟩ := rd_int Tryz.underlying31 ⟨n, y, h⟩
  exact ⟨m, h1⟩
/-- A monster that reads, and reads so within. -/
def MonD (enc : TypeId × Value → H) (w : World) (base : Nat) (spare : Nat → Bool) (held : Bool) (cs : Array Value) : Prop := RD enc w base spare held 38 cs.toList
theorem rd_subs {c : Value} (h : RD enc w base spare held 24 [c]) : ∃ l : List PK, rowM 51 (fun b => w.heap[b]?) c l (fun cs _ => MonD enc w base spare held cs) ∧ l.length ≤ 9223372036854775807 := by
  obtain ⟨n, y, h⟩ := h
  refine rowM_of (R := fun cs (_ : PK) => MonD enc w base spare held cs) Tryz.underlying24 (by kernel_rfl) (by decide) (fun m cs z hl hz => ⟨retV 0, m, z, by simpa using hz⟩) h
theorem rd_choice {cs : List Value} (h : RD enc w base spare held 26 cs) : ∃ (k col : UInt8) (l : List PK), gl cs 0 = B k ∧ gl cs 2 = B col ∧ rowM 51 (fun b => w.heap[b]?) (gl cs 1) l (fun cs _ => MonD enc w base spare held cs) := by
  obtain ⟨hl, hf⟩ := rd_struct Tryz.underlying26 h
  rw [show Tryz.prog.cellsOf 26 = 3 from by kernel_rfl] at hl
  obtain ⟨k, e0⟩ := rd_u8 Tryz.underlying5 (rd_one (hf 0 _ rfl) (by kernel_rfl) (by show 0 < cs.length; omega))
  obtain ⟨l, hl2, _⟩ := rd_subs (rd_one (hf 1 _ rfl) (by kernel_rfl) (by show 1 < cs.length; omega))
  obtain ⟨col, e2⟩ := rd_u8 Tryz.underlying5 (rd_one (hf 2 _ rfl) (by kernel_rfl) (by show 2 < cs.length; omega))
  exact ⟨k, col, l, e0, e2, hl2⟩

set_option maxHeartbeats 1000000 in
theorem rd_mon {cs : Array Value} (h : MonD enc w base spare held cs) : ∃ d x, cs = cells52 d x ∧ SrcR (fun _ cs (_ : PK) => MonD enc w base spare held cs) (fun b => w.heap[b]?) d x ∧ d.strs.length ≤ 9223372036854775807 ∧ d.strs2.length ≤ 9223372036854775807 ∧ d.stat.length ≤ 9223372036854775807 := by
  obtain ⟨hl, hf⟩ := rd_struct Tryz.underlying38 h
  rw [show Tryz.prog.cellsOf 38 = 51 from by kernel_rfl] at hl
  generalize hcs : cs.toList = L at hl hf
  obtain ⟨n0, y0, t0⟩ := rd_one (hf 0 _ rfl) (by kernel_rfl) (by show 0 < L.length; omega)
  obtain ⟨l0, r0, b0⟩ := rowM_of (sz := 7) (R := isVec) Tryz.underlying22 (by kernel_rfl) (by decide) (fun _ _ _ hh h => rd_isVec hh h) t0
  obtain ⟨a1, e1, _⟩ := rd_int Tryz.underlying23 (rd_one (hf 1 _ rfl) (by kernel_rfl) (by show 1 < L.length; omega))
  obtain ⟨a2, e2, _⟩ := rd_int Tryz.underlying23 (rd_one (hf 2 _ rfl) (by kernel_rfl) (by show 2 < L.length; omega))
  obtain ⟨a3, e3⟩ := rd_string Tryz.underlying9 (rd_one (hf 3 _ rfl) (by kernel_rfl) (by show 3 < L.length; omega))
  obtain ⟨a4, e4⟩ := rd_string Tryz.underlying9 (rd_one (hf 4 _ rfl) (by kernel_rfl) (by show 4 < L.length; omega))
  obtain ⟨a5, e5⟩ := rd_u8 Tryz.underlying5 (rd_one (hf 5 _ rfl) (by kernel_rfl) (by show 5 < L.length; omega))
  obtain ⟨k6, c6, l6, u6, v6, r6⟩ := rd_choice (cs := [gl L 6, gl L 7, gl L 8]) (by have this : RD enc w base spare held 26 ((L.drop 6).take (Tryz.prog.cellsOf 26)) := hf 6 _ rfl; rw [show Tryz.prog.cellsOf 26 = 3 from by kernel_rfl] at this; rw [← gl_three (cs := L) (i := 6) (by omega)]; exact this)
  replace u6 : gl L 6 = B k6 := u6
  replace v6 : gl L 8 = B c6 := v6
  obtain ⟨n7, y7, t7⟩ := rd_one (hf 7 _ rfl) (by kernel_rfl) (by show 9 < L.length; omega)
  obtain ⟨l7, r7, b7⟩ := rowM_of (sz := 2) (R := isTest) Tryz.underlying27 (by kernel_rfl) (by decide) (fun _ _ _ hh h => rd_isTest hh h) t7
  obtain ⟨n8, y8, t8⟩ := rd_one (hf 8 _ rfl) (by kernel_rfl) (by show 10 < L.length; omega)
  obtain ⟨l8, r8, b8⟩ := rowS_of (R := isStr) Tryz.underlying28 (by kernel_rfl) (fun _ _ _ h => rd_isStr h) t8
  obtain ⟨l9, r9, b9⟩ := rd_subs (rd_one (hf 9 _ rfl) (by kernel_rfl) (by show 11 < L.length; omega))
  obtain ⟨l10, r10, b10⟩ := rd_subs (rd_one (hf 10 _ rfl) (by kernel_rfl) (by show 12 < L.length; omega))
  obtain ⟨a11, e11⟩ := rd_string Tryz.underlying9 (rd_one (hf 11 _ rfl) (by kernel_rfl) (by show 13 < L.length; omega))
  obtain ⟨n12, y12, t12⟩ := rd_one (hf 12 _ rfl) (by kernel_rfl) (by show 14 < L.length; omega)
  obtain ⟨l12, r12, b12⟩ := rowM_of (sz := 3) (R := isStat) Tryz.underlying29 (by kernel_rfl) (by decide) (fun _ _ _ hh h => rd_isStat hh h) t12
  obtain ⟨a13, e13⟩ := rd_bool Tryz.underlying4 (rd_one (hf 13 _ rfl) (by kernel_rfl) (by show 15 < L.length; omega))
  obtain ⟨a14, e14, _⟩ := rd_int Tryz.underlying21 (rd_one (hf 14 _ rfl) (by kernel_rfl) (by show 16 < L.length; omega))
  obtain ⟨a15, e15, _⟩ := rd_int Tryz.underlying30 (rd_one (hf 15 _ rfl) (by kernel_rfl) (by show 17 < L.length; omega))
  obtain ⟨a16, e16, _⟩ := rd_int Tryz.underlying2 (rd_one (hf 16 _ rfl) (by kernel_rfl) (by show 18 < L.length; omega))
  obtain ⟨a17, e17, _⟩ := rd_int Tryz.underlying31 (rd_one (hf 17 _ rfl) (by kernel_rfl) (by show 19 < L.length; omega))
  obtain ⟨a18, e18, _⟩ := rd_int Tryz.underlying21 (rd_one (hf 18 _ rfl) (by kernel_rfl) (by show 20 < L.length; omega))
  obtain ⟨a19, e19, _⟩ := rd_int Tryz.underlying30 (rd_one (hf 19 _ rfl) (by kernel_rfl) (by show 21 < L.length; omega))
  obtain ⟨a20, e20, _⟩ := rd_int Tryz.underlying2 (rd_one (hf 20 _ rfl) (by kernel_rfl) (by show 22 < L.length; omega))
  obtain ⟨a21, e21, _⟩ := rd_int Tryz.underlying31 (rd_one (hf 21 _ rfl) (by kernel_rfl) (by show 23 < L.length; omega))
  obtain ⟨n22, y22, t22⟩ := rd_one (hf 22 _ rfl) (by kernel_rfl) (by show 24 < L.length; omega)
  obtain ⟨l22, r22, b22⟩ := rowS_of (R := isBool) Tryz.underlying32 (by kernel_rfl) (fun _ _ _ h => rd_isBool h) t22
  obtain ⟨a23, e23, _⟩ := rd_int Tryz.underlying30 (rd_one (hf 23 _ rfl) (by kernel_rfl) (by show 25 < L.length; omega))
  obtain ⟨a24, e24, _⟩ := rd_int Tryz.underlying30 (rd_one (hf 24 _ rfl) (by kernel_rfl) (by show 26 < L.length; omega))
  obtain ⟨a25, e25, _⟩ := rd_int Tryz.underlying30 (rd_one (hf 25 _ rfl) (by kernel_rfl) (by show 27 < L.length; omega))
  obtain ⟨n26, y26, t26⟩ := rd_one (hf 26 _ rfl) (by kernel_rfl) (by show 28 < L.length; omega)
  obtain ⟨l26, r26, b26⟩ := rowS_of (R := isStr) Tryz.underlying28 (by kernel_rfl) (fun _ _ _ h => rd_isStr h) t26
  obtain ⟨n27, y27, t27⟩ := rd_one (hf 27 _ rfl) (by kernel_rfl) (by show 29 < L.length; omega)
  obtain ⟨l27, r27, b27⟩ := rowM_of (sz := 2) (R := isAbil) Tryz.underlying33 (by kernel_rfl) (by decide) (fun _ _ _ hh h => rd_isAbil hh h) t27
  obtain ⟨a28, e28⟩ := rd_string Tryz.underlying9 (rd_one (hf 28 _ rfl) (by kernel_rfl) (by show 30 < L.length; omega))
  obtain ⟨n29, y29, t29⟩ := rd_one (hf 29 _ rfl) (by kernel_rfl) (by show 31 < L.length; omega)
  obtain ⟨l29, r29, b29⟩ := rowM_of (sz := 2) (R := isTest) Tryz.underlying27 (by kernel_rfl) (by decide) (fun _ _ _ hh h => rd_isTest hh h) t29
  obtain ⟨n30, y30, t30⟩ := rd_one (hf 30 _ rfl) (by kernel_rfl) (by show 32 < L.length; omega)
  obtain ⟨l30, r30, b30⟩ := rowS_of (R := isI64) Tryz.underlying34 (by kernel_rfl) (fun _ _ _ h => rd_isI64 h) t30
  obtain ⟨n31, y31, t31⟩ := rd_one (hf 31 _ rfl) (by kernel_rfl) (by show 33 < L.length; omega)
  obtain ⟨l31, r31, b31⟩ := rowS_of (R := isU64) Tryz.underlying35 (by kernel_rfl) (fun _ _ _ h => rd_isU64 h) t31
  obtain ⟨a32, e32⟩ := rd_bool Tryz.underlying4 (rd_one (hf 32 _ rfl) (by kernel_rfl) (by show 34 < L.length; omega))
  obtain ⟨n33, y33, t33⟩ := rd_one (hf 33 _ rfl) (by kernel_rfl) (by show 35 < L.length; omega)
  obtain ⟨l33, r33, b33⟩ := rowS_of (R := isU64) Tryz.underlying35 (by kernel_rfl) (fun _ _ _ h => rd_isU64 h) t33
  obtain ⟨a34, e34, _⟩ := rd_int Tryz.underlying31 (rd_one (hf 34 _ rfl) (by kernel_rfl) (by show 36 < L.length; omega))
  obtain ⟨n35, y35, t35⟩ := rd_one (hf 35 _ rfl) (by kernel_rfl) (by show 37 < L.length; omega)
  obtain ⟨l35, r35, b35⟩ := rowS_of (R := isU64) Tryz.underlying35 (by kernel_rfl) (fun _ _ _ h => rd_isU64 h) t35
  obtain ⟨n36, y36, t36⟩ := rd_one (hf 36 _ rfl) (by kernel_rfl) (by show 38 < L.length; omega)
  obtain ⟨l36, r36, b36⟩ := rowS_of (R := isU64) Tryz.underlying35 (by kernel_rfl) (fun _ _ _ h => rd_isU64 h) t36
  obtain ⟨a37, e37, _⟩ := rd_int Tryz.underlying31 (rd_one (hf 37 _ rfl) (by kernel_rfl) (by show 39 < L.length; omega))
  obtain ⟨n38, y38, t38⟩ := rd_one (hf 38 _ rfl) (by kernel_rfl) (by show 40 < L.length; omega)
  obtain ⟨l38, r38, b38⟩ := rowS_of (R := isU64) Tryz.underlying35 (by kernel_rfl) (fun _ _ _ h => rd_isU64 h) t38
  obtain ⟨a39, e39, _⟩ := rd_int Tryz.underlying31 (rd_one (hf 39 _ rfl) (by kernel_rfl) (by show 41 < L.length; omega))
  obtain ⟨n40, y40, t40⟩ := rd_one (hf 40 _ rfl) (by kernel_rfl) (by show 42 < L.length; omega)
  obtain ⟨l40, r40, b40⟩ := rowS_of (R := isU64) Tryz.underlying35 (by kernel_rfl) (fun _ _ _ h => rd_isU64 h) t40
  obtain ⟨k41, c41, l41, u41, v41, r41⟩ := rd_choice (cs := [gl L 43, gl L 44, gl L 45]) (by have this : RD enc w base spare held 26 ((L.drop 43).take (Tryz.prog.cellsOf 26)) := hf 41 _ rfl; rw [show Tryz.prog.cellsOf 26 = 3 from by kernel_rfl] at this; rw [← gl_three (cs := L) (i := 43) (by omega)]; exact this)
  replace u41 : gl L 43 = B k41 := u41
  replace v41 : gl L 45 = B c41 := v41
  obtain ⟨k42, c42, l42, u42, v42, r42⟩ := rd_choice (cs := [gl L 46, gl L 47, gl L 48]) (by have this : RD enc w base spare held 26 ((L.drop 46).take (Tryz.prog.cellsOf 26)) := hf 42 _ rfl; rw [show Tryz.prog.cellsOf 26 = 3 from by kernel_rfl] at this; rw [← gl_three (cs := L) (i := 46) (by omega)]; exact this)
  replace u42 : gl L 46 = B k42 := u42
  replace v42 : gl L 48 = B c42 := v42
  obtain ⟨a43, e43⟩ := rd_string Tryz.underlying9 (rd_one (hf 43 _ rfl) (by kernel_rfl) (by show 49 < L.length; omega))
  obtain ⟨a44, e44, _⟩ := rd_int Tryz.underlying36 (rd_one (hf 44 _ rfl) (by kernel_rfl) (by show 50 < L.length; omega))
  refine ⟨{ pos := l0, mana := a1, hp := a2, name := a3, inv := a4, color := a5, test := ⟨k6, l6, c6⟩, test4 := l7, strs := l8, tables := l9, enemy := l10, nest := a11, stat := l12, tbool := a13, s32 := a14, u32 := a15, s64 := a16, u64 := a17, s32a := a18, u32a := a19, s64a := a20, u64a := a21, bools := l22, f1 := a23, f2 := a24, f3 := a25, strs2 := l26, abil := l27, flex := a28, test5 := l29, longs := l30, doubles := l31, parent := a32, refs := l33, single := a34, weak := l35, strong := l36, co := a37, coown := l38, non := a39, nonown := l40, anyU := ⟨k41, l41, c41⟩, anyA := ⟨k42, l42, c42⟩, enums := a43, signed := a44 }, { pos := gl L 0, test := gl L 7, test4 := gl L 9, strs := gl L 10, tables := gl L 11, enemy := gl L 12, stat := gl L 14, bools := gl L 24, strs2 := gl L 28, abil := gl L 29, test5 := gl L 31, longs := gl L 32, doubles := gl L 33, refs := gl L 35, weak := gl L 37, strong := gl L 38, coown := gl L 40, nonown := gl L 42, anyU := gl L 44, anyA := gl L 47 }, ?_, ?_, b8, b26, b12⟩
  · have e : cs = ((List.range 51).map (gl L)).toArray := by rw [← gl_all hl, ← hcs]
    rw [e]
    show #[gl L 0, gl L 1, gl L 2, gl L 3, gl L 4, gl L 5, gl L 6, gl L 7, gl L 8, gl L 9, gl L 10, gl L 11, gl L 12, gl L 13, gl L 14, gl L 15, gl L 16, gl L 17, gl L 18, gl L 19, gl L 20, gl L 21, gl L 22, gl L 23, gl L 24, gl L 25, gl L 26, gl L 27, gl L 28, gl L 29, gl L 30, gl L 31, gl L 32, gl L 33, gl L 34, gl L 35, gl L 36, gl L 37, gl L 38, gl L 39, gl L 40, gl L 41, gl L 42, gl L 43, gl L 44, gl L 45, gl L 46, gl L 47, gl L 48, gl L 49, gl L 50] = _
    rw [show gl L 1 = _ from e1, show gl L 2 = _ from e2, show gl L 3 = _ from e3, show gl L 4 = _ from e4, show gl L 5 = _ from e5, u6, v6, show gl L 13 = _ from e11, show gl L 15 = _ from e13, show gl L 16 = _ from e14, show gl L 17 = _ from e15, show gl L 18 = _ from e16, show gl L 19 = _ from e17, show gl L 20 = _ from e18, show gl L 21 = _ from e19, show gl L 22 = _ from e20, show gl L 23 = _ from e21, show gl L 25 = _ from e23, show gl L 26 = _ from e24, show gl L 27 = _ from e25, show gl L 30 = _ from e28, show gl L 34 = _ from e32, show gl L 36 = _ from e34, show gl L 39 = _ from e37, show gl L 41 = _ from e39, u41, v41, u42, v42, show gl L 49 = _ from e43, show gl L 50 = _ from e44]
    rfl
  · exact { pos := r0, test := r6, test4 := r7, strs := r8, tables := r9, enemy := r10, stat := r12, bools := r22, strs2 := r26, abil := r27, test5 := r29, longs := r30, doubles := r31, refs := r33, weak := r35, strong := r36, coown := r38, nonown := r40, anyU := r41, anyA := r42 }
/-- To any depth. -/
theorem rd_monR : ∀ (n : Nat) {cs : Array Value}, MonD enc w base spare held cs → MonR n (fun b => w.heap[b]?) cs
  | 0, cs, h => by
    obtain ⟨d, x, rfl, hs, _⟩ := rd_mon h
    exact ⟨rfl, hs.ones⟩
  | n + 1, cs, h => by
    obtain ⟨d, x, e, hs, _⟩ := rd_mon h
    have f : ∀ (cs : Array Value) (_ : PK), MonD enc w base spare held cs → MonR n (fun b => w.heap[b]?) cs := fun cs _ h => rd_monR n h
    exact ⟨d, x, e, { pos := hs.pos, test := hs.test.sub Sub.refl f, test4 := hs.test4, strs := hs.strs, tables := hs.tables.sub Sub.refl f, enemy := hs.enemy.sub Sub.refl f, stat := hs.stat, bools := hs.bools, strs2 := hs.strs2, abil := hs.abil, test5 := hs.test5, longs := hs.longs, doubles := hs.doubles, refs := hs.refs, weak := hs.weak, strong := hs.strong, coown := hs.coown, nonown := hs.nonown, anyU := hs.anyU.sub Sub.refl f, anyA := hs.anyA.sub Sub.refl f }⟩
end
end Go.Proofs.YtjaplgfgkigmiaaGreat