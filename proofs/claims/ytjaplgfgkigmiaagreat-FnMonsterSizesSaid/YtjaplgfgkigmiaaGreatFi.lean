/-
  Objects ended, struct slots, the finish; a new builder.
-/
import Derived.Test.YtjaplgfgkigmiaaGreatWv
import Derived.Laws.Tables
namespace Go.Proofs.YtjaplgfgkigmiaaGreat
open Go Go.Proofs

section
variable {P : Program} {l : Slots} {w : World} {T t : TypeId} {x y z : Operand}
def evp (l : Slots) : List (Nat × Operand) → Option (List (Nat × Value))
  | [] => some []
  | (i, x) :: r => match ev l x, evp l r with
    | some v, some vs => some ((i, v) :: vs)
    | _, _ => none
theorem evp_map {ρ : Operand → Value} (hρ : ∀ x v, ev l x = some v → ρ x = v) : ∀ {ps : List (Nat × Operand)} {vs : List (Nat × Value)}, evp l ps = some vs → ps.map (fun p => (p.1, ρ p.2)) = vs
  | [], vs, h => by simp [evp] at h; simp [h]
  | (i, x) :: r, vs, h => by
    simp only [evp] at h
    cases hx : ev l x with
    | none => rw [hx] at h; cases h' : evp l r <;> simp [h'] at h
    | some v =>
      cases hr : evp l r with
      | none => simp [hx, hr] at h
      | some vs' =>
        simp only [hx, hr, Option.some.injEq] at h
        subst h
        simp [hρ _ _ hx, evp_map hρ hr]
theorem ev_build {ps : List (Nat × Operand)} {vs : List (Nat × Value)} {cs : Array Value} (hx : evp l ps = some vs) (hc : P.built t vs = some cs) : EV P l (.build t ps.toArray) T w (.agg cs) w := ev_of <| fun ρ o ho _ hρ => by
  have hm := evp_map hρ hx
  have h1 : (ps.toArray.map fun p => (p.1, ρ p.2)) = vs.toArray := by rw [List.map_toArray, hm]
  have := run_build (P := P) w t vs.toArray cs hc
  simp only [execOp, ho]
  rw [show (ps.toArray.map fun (x : Nat × Operand) => (match x with | (i, x) => (i, ρ x) : Nat × Value)) = vs.toArray from h1]
  simp [this]
theorem ev_box {v : Value} (hx : ev l x = some v) : EV P l (.box t x) T w (.pointer (some ⟨w.heap.size, 0, none⟩)) (w.alloc (.cells v.cells t)) := ev_of <| fun ρ o ho _ hρ => by
  simp [execOp, ho, hρ _ _ hx, Instr.box, newVar, newRow]
theorem ev_alloc {zv : Value} (hz : ∀ w, (zeroValue t).run P w = .ok zv w) : EV P l (.alloc t) T w (.pointer (some ⟨w.heap.size, 0, none⟩)) (w.alloc (.cells zv.cells t)) := ev_of <| fun ρ o ho _ hρ => by
  simp [execOp, ho, Instr.alloc, hz, newVar, newRow]
theorem ev_ext1 {vs : Array Value} {i : Nat} {v : Value} (hx : ev l x = some (.tuple vs)) (hi : vs[i]? = some v) : EV P l (.extract x i) T w v w := ev_of <| fun ρ o ho _ hρ => by
  simp [execOp, ho, hρ _ _ hx, Instr.extract, hi]
theorem ev_mkif {v : Value} {d : TypeDesc} (hx : ev l x = some v) (hT : ∀ w, (underlying t).run P w = .ok d w) (hd : (match d with | .interface _ => false | _ => true) = true) : EV P l (.makeInterface t x) T w (.iface t v) w := ev_of <| fun ρ o ho _ hρ => by
  simp only [execOp, ho, hρ _ _ hx, Instr.makeInterface]
  cases d <;> simp_all
theorem ev_asrt {v : Value} {a : TypeId} {d : TypeDesc} (hx : ev l x = some (.iface a v)) (hT : ∀ w, (underlying a).run P w = .ok d w) (hd : (match d with | .interface _ => false | _ => true) = true) : EV P l (.typeAssert x t a false) T w v w := ev_of <| fun ρ o ho _ hρ => by
  simp only [execOp, ho, hρ _ _ hx, Instr.typeAssert]
  cases d <;> simp_all
theorem ev_eqPP {b : Addr} {u : TypeId} {e : Nat} (hx : ev l x = some (.pointer (some b))) (hy : ev l y = some (.pointer none)) (hT : ∀ w, (underlying t).run P w = .ok (.pointer e) w) : EV P l (.binOp .eql t x y u) T w (.bool false) w := ev_pointereql hx hy hT
end

theorem c266 : BVal 266 [] endObject := by
  rintro F w bb S r S' ⟨g, h⟩ hm
  unfold endObject at hm
  cases hn : S.nested
  case false => rw [hn] at hm; exact absurd hm (by simp)
  rw [hn] at hm
  simp only [if_true] at hm
  obtain ⟨⟨r1, S1⟩, h1, hr⟩ := map_some' hm
  simp only [Prod.mk.injEq] at hr
  obtain ⟨rfl, rfl⟩ := hr
  refine cr_enter Tryz.func266 rfl Tryz.ntmps266 ?_
  refine gk_seq ?_
  refine gk_region ?_
  refine gr_v (ev_as rfl) ?_
  refine gr_nil ?_
  refine gk_seq ?_
  refine gk_region ?_
  refine gr_v (ev_mv rfl) ?_
  refine gr_call (ec_func Tryz.call237 rfl) (c237 h hn) ?_
  rintro _ _ ⟨rfl, rfl⟩
  refine gr_nil ?_
  refine gk_seq ?_
  refine gk_region ?_
  refine gr_v (ev_mv rfl) ?_
  refine gr_call (ec_func Tryz.call312 rfl) (c312 F w bb _ _ _ ⟨g, h⟩ h1) ?_
  rintro _ w1 ⟨rfl, ⟨g1, h2⟩, hK1⟩
  have hb1 := h2.hb
  refine gr_v (ev_as rfl) ?_
  refine gr_nil ?_
  refine gk_seq ?_
  refine gk_region ?_
  refine gr_v (ev_mv rfl) ?_
  refine gr_v (ev_nil rfl) ?_
  refine gr_v (ev_fa (j := 6) rfl Tryz.runUnderlying110 rfl Tryz.sizeOf4 rfl rfl) ?_
  refine gr_st rfl rfl (by rfl) Tryz.sizeOf4 (by first | exact hb1) (by rfl) (by rfl) ?_
  intro wz hwz hbz
  refine gr_nil ?_
  refine gk_seq ?_
  refine gk_region ?_
  refine gr_v (ev_mv rfl) ?_
  refine gr_v (ev_as rfl) ?_
  refine gr_nil ?_
  refine gk_ret1 Tryz.results266 rfl ?_
  have hf := h2.upd (w1 := wz) { S1 with nested := false } rfl rfl rfl rfl rfl (by rw [hwz]; congr 1)
  exact ⟨_, rfl, rfl, ⟨_, hf.1⟩, hK1.trans hf.2⟩

def structSlot (i off d : Nat) (S : St) : Option St := if off = d then some S else if S.nested && decide (off = S.buf.length) then slot i S else none
theorem c255 (i off d : Nat) : BOp 255 [.int .i64 i, U off, U d] (structSlot i off d) := by
  rintro F w bb S S' ⟨g, h⟩ hm
  unfold structSlot at hm
  by_cases hd : off = d
  · rw [if_pos hd] at hm
    obtain rfl := Option.some.inj hm
    refine cr_enter Tryz.func255 rfl Tryz.ntmps255 ?_
    refine gk_seq ?_
    refine gk_region ?_
    refine gr_v (ev_mv rfl) ?_
    refine gr_v (ev_mv rfl) ?_
    refine gr_v (ev_neq rfl rfl) ?_
    refine gr_nil ?_
    refine gk_false rfl (by rw [bne_eq_false_iff_eq]; omega) ?_
    refine gk_skip ?_
    refine gk_end0 Tryz.results255 ?_
    exact ⟨_, rfl, rfl, ⟨g, h⟩, Keep.refl⟩
  · rw [if_neg hd] at hm
    by_cases hc : (S.nested && decide (off = S.buf.length)) = true
    case neg => simp only [hc] at hm; exact absurd hm (by simp)
    simp only [hc, if_true] at hm
    simp only [Bool.and_eq_true, decide_eq_true_eq] at hc
    obtain ⟨hn, ho⟩ := hc
    refine cr_enter Tryz.func255 rfl Tryz.ntmps255 ?_
    refine gk_seq ?_
    refine gk_region ?_
    refine gr_v (ev_mv rfl) ?_
    refine gr_v (ev_mv rfl) ?_
    refine gr_v (ev_neq rfl rfl) ?_
    refine gr_nil ?_
    refine gk_true rfl (by rw [bne_iff_ne]; omega) ?_
    refine gk_seq ?_
    refine gk_region ?_
    refine gr_v (ev_mv rfl) ?_
    refine gr_call (ec_func Tryz.call237 rfl) (c237 h hn) ?_
    rintro _ _ ⟨rfl, rfl⟩
    refine gr_nil ?_
    refine gk_seq ?_
    refine gk_seq ?_
    refine gk_region ?_
    refine gr_v (ev_mv rfl) ?_
    refine gr_v (ev_mv rfl) ?_
    refine gr_call (ec_func Tryz.call230 rfl) (Bld.offset ⟨g, h⟩) ?_
    rintro _ w1 ⟨rfl, hB1, hK1⟩
    refine gr_v (ev_neq rfl rfl) ?_
    refine gr_nil ?_
    refine gk_false rfl (by rw [bne_eq_false_iff_eq]; omega) ?_
    refine gk_skip ?_
    refine gk_region ?_
    refine gr_v (ev_mv rfl) ?_
    refine gr_v (ev_mv rfl) ?_
    refine gr_call (ec_func Tryz.call310 rfl) (c310 i F w1 bb _ _ hB1 hm) ?_
    rintro _ w2 ⟨rfl, hB2, hK2⟩
    refine gr_nil ?_
    refine gk_end0 Tryz.results255 ?_
    exact ⟨_, rfl, rfl, hB2, hK1.trans hK2⟩

theorem c259 (i : Nat) (n d : Bool) : BOp 259 [.int .i64 i, .bool n, .bool d] (slotOp (((bb1 n).toNat : Int) != ((bb1 d).toNat : Int)) (prepend 1 [bb1 n]) i) := by
  rintro F w bb S S' h hm
  cases n <;> cases d
  · skip
    refine cr_enter Tryz.func259 rfl Tryz.ntmps259 ?_
    refine gk_seq ?_
    refine gk_region ?_
    refine gr_v (ev_as rfl) ?_
    refine gr_nil ?_
    refine gk_seq ?_
    refine gk_seq ?_
    refine gk_region ?_
    refine gr_v (ev_mv rfl) ?_
    refine gr_nil ?_
    refine gk_false rfl (rfl) ?_
    refine gk_skip ?_
    refine gk_seq ?_
    refine gk_region ?_
    refine gr_v (ev_as rfl) ?_
    refine gr_nil ?_
    refine gk_seq ?_
    refine gk_seq ?_
    refine gk_region ?_
    refine gr_v (ev_mv rfl) ?_
    refine gr_nil ?_
    refine gk_false rfl (rfl) ?_
    refine gk_skip ?_
    refine gk_region ?_
    refine gr_v (ev_mv rfl) ?_
    refine gr_v (ev_mv rfl) ?_
    refine gr_v (ev_mv rfl) ?_
    refine gr_v (ev_mv rfl) ?_
    refine gr_call (ec_func Tryz.call258 rfl) (c258 i 0 0 F w bb _ _ h hm) ?_
    rintro _ w1 ⟨rfl, hB1, hK1⟩
    refine gr_nil ?_
    refine gk_end0 Tryz.results259 ?_
    exact ⟨_, rfl, rfl, hB1, hK1⟩
  · skip
    refine cr_enter Tryz.func259 rfl Tryz.ntmps259 ?_
    refine gk_seq ?_
    refine gk_region ?_
    refine gr_v (ev_as rfl) ?_
    refine gr_nil ?_
    refine gk_seq ?_
    refine gk_seq ?_
    refine gk_region ?_
    refine gr_v (ev_mv rfl) ?_
    refine gr_nil ?_
    refine gk_false rfl (rfl) ?_
    refine gk_skip ?_
    refine gk_seq ?_
    refine gk_region ?_
    refine gr_v (ev_as rfl) ?_
    refine gr_nil ?_
    refine gk_seq ?_
    refine gk_seq ?_
    refine gk_region ?_
    refine gr_v (ev_mv rfl) ?_
    refine gr_nil ?_
    refine gk_true rfl (rfl) ?_
    refine gk_region ?_
    refine gr_v (ev_as rfl) ?_
    refine gr_nil ?_
    refine gk_region ?_
    refine gr_v (ev_mv rfl) ?_
    refine gr_v (ev_mv rfl) ?_
    refine gr_v (ev_mv rfl) ?_
    refine gr_v (ev_mv rfl) ?_
    refine gr_call (ec_func Tryz.call258 rfl) (c258 i 0 1 F w bb _ _ h hm) ?_
    rintro _ w1 ⟨rfl, hB1, hK1⟩
    refine gr_nil ?_
    refine gk_end0 Tryz.results259 ?_
    exact ⟨_, rfl, rfl, hB1, hK1⟩
  · skip
    refine cr_enter Tryz.func259 rfl Tryz.ntmps259 ?_
    refine gk_seq ?_
    refine gk_region ?_
    refine gr_v (ev_as rfl) ?_
    refine gr_nil ?_
    refine gk_seq ?_
    refine gk_seq ?_
    refine gk_region ?_
    refine gr_v (ev_mv rfl) ?_
    refine gr_nil ?_
    refine gk_true rfl (rfl) ?_
    refine gk_region ?_
    refine gr_v (ev_as rfl) ?_
    refine gr_nil ?_
    refine gk_seq ?_
    refine gk_region ?_
    refine gr_v (ev_as rfl) ?_
    refine gr_nil ?_
    refine gk_seq ?_
    refine gk_seq ?_
    refine gk_region ?_
    refine gr_v (ev_mv rfl) ?_
    refine gr_nil ?_
    refine gk_false rfl (rfl) ?_
    refine gk_skip ?_
    refine gk_region ?_
    refine gr_v (ev_mv rfl) ?_
    refine gr_v (ev_mv rfl) ?_
    refine gr_v (ev_mv rfl) ?_
    refine gr_v (ev_mv rfl) ?_
    refine gr_call (ec_func Tryz.call258 rfl) (c258 i 1 0 F w bb _ _ h hm) ?_
    rintro _ w1 ⟨rfl, hB1, hK1⟩
    refine gr_nil ?_
    refine gk_end0 Tryz.results259 ?_
    exact ⟨_, rfl, rfl, hB1, hK1⟩
  · skip
    refine cr_enter Tryz.func259 rfl Tryz.ntmps259 ?_
    refine gk_seq ?_
    refine gk_region ?_
    refine gr_v (ev_as rfl) ?_
    refine gr_nil ?_
    refine gk_seq ?_
    refine gk_seq ?_
    refine gk_region ?_
    refine gr_v (ev_mv rfl) ?_
    refine gr_nil ?_
    refine gk_true rfl (rfl) ?_
    refine gk_region ?_
    refine gr_v (ev_as rfl) ?_
    refine gr_nil ?_
    refine gk_seq ?_
    refine gk_region ?_
    refine gr_v (ev_as rfl) ?_
    refine gr_nil ?_
    refine gk_seq ?_
    refine gk_seq ?_
    refine gk_region ?_
    refine gr_v (ev_mv rfl) ?_
    refine gr_nil ?_
    refine gk_true rfl (rfl) ?_
    refine gk_region ?_
    refine gr_v (ev_as rfl) ?_
    refine gr_nil ?_
    refine gk_region ?_
    refine gr_v (ev_mv rfl) ?_
    refine gr_v (ev_mv rfl) ?_
    refine gr_v (ev_mv rfl) ?_
    refine gr_v (ev_mv rfl) ?_
    refine gr_call (ec_func Tryz.call258 rfl) (c258 i 1 1 F w bb _ _ h hm) ?_
    rintro _ w1 ⟨rfl, hB1, hK1⟩
    refine gr_nil ?_
    refine gk_end0 Tryz.results259 ?_
    exact ⟨_, rfl, rfl, hB1, hK1⟩

def finish (off : Nat) (S : St) : Option St := if S.nested then none else ((prep S.malign 4 S).bind (prependU off)).map fun S => { S with fin := true }
theorem c16 (off : Nat) : BOp 16 [U off] (finish off) := by
  rintro F w bb S S' ⟨g, h⟩ hm
  unfold finish at hm
  cases hn : S.nested
  case true => rw [hn] at hm; exact absurd hm (by simp)
  rw [hn] at hm
  simp only [Bool.false_eq_true, if_false] at hm
  obtain ⟨S2, h12, hr⟩ := map_some' hm
  obtain ⟨S1, h1, h2⟩ := bind_some h12
  obtain rfl := hr
  have hb := h.hb
  refine cr_enter Tryz.func16 rfl Tryz.ntmps16 ?_
  refine gk_seq ?_
  refine gk_region ?_
  refine gr_v (ev_mv rfl) ?_
  refine gr_call (ec_func Tryz.call44 rfl) (c44 h hn) ?_
  rintro _ _ ⟨rfl, rfl⟩
  refine gr_nil ?_
  refine gk_seq ?_
  refine gk_region ?_
  refine gr_v (ev_mv rfl) ?_
  refine gr_v (ev_mv rfl) ?_
  refine gr_v (ev_nil rfl) ?_
  refine gr_v (ev_fa (j := 1) rfl Tryz.runUnderlying110 rfl Tryz.sizeOf3 rfl rfl) ?_
  refine gr_v (ev_ld rfl Tryz.isAgg3 (by first | exact hb) (by rfl)) ?_
  refine gr_call (ec_func Tryz.call45 rfl) (c45 S.malign 4 F w bb _ _ ⟨g, h⟩ h1) ?_
  rintro _ w1 ⟨rfl, hB1, hK1⟩
  refine gr_nil ?_
  refine gk_seq ?_
  refine gk_region ?_
  refine gr_v (ev_mv rfl) ?_
  refine gr_v (ev_mv rfl) ?_
  refine gr_call (ec_func Tryz.call46 rfl) (c46 off F w1 bb _ _ hB1 h2) ?_
  rintro _ w2 ⟨rfl, ⟨g2, h3⟩, hK2⟩
  have hb2 := h3.hb
  refine gr_nil ?_
  refine gk_region ?_
  refine gr_v (ev_mv rfl) ?_
  refine gr_v (ev_nil rfl) ?_
  refine gr_v (ev_fa (j := 7) rfl Tryz.runUnderlying110 rfl Tryz.sizeOf4 rfl rfl) ?_
  refine gr_st rfl rfl (by rfl) Tryz.sizeOf4 (by first | exact hb2) (by rfl) (by rfl) ?_
  intro wz hwz hbz
  refine gr_nil ?_
  refine gk_end0 Tryz.results16 ?_
  have hf := h3.upd (w1 := wz) { S2 with fin := true } rfl rfl rfl rfl rfl (by rw [hwz]; congr 1)
  exact ⟨_, rfl, rfl, ⟨_, hf.1⟩, (hK1.trans hK2).trans hf.2⟩

theorem c19 {F : Nat → Prop} {w : World} {bb : Nat} {S : St} {g : Gh} (h : BldG F w bb S g) (hf : S.fin = true) (hpos : 0 < S.buf.length) :
    CR Tryz.prog 19 #[ptr bb] w (fun v w' => v = .slice (some ⟨g.kb, g.junk.length, none⟩) S.buf.length (S.buf.length + g.extra.length) ∧ w'.heap = w.heap) := by
  have hb := h.hb
  have hd := h.same (w1 := w.drew) rfl
  have e1 : g.len S = g.junk.length + S.buf.length := rfl
  have e2 : g.cap S = g.junk.length + S.buf.length + g.extra.length := rfl
  refine cr_enter Tryz.func19 rfl Tryz.ntmps19 ?_
  refine gk_seq ?_
  refine gk_region ?_
  refine gr_v (ev_as rfl) ?_
  refine gr_nil ?_
  refine gk_seq ?_
  refine gk_region ?_
  refine gr_v (ev_mv rfl) ?_
  refine gr_call (ec_func Tryz.call140 rfl) (c140 h hf) ?_
  rintro _ _ ⟨rfl, rfl⟩
  refine gr_nil ?_
  refine gk_seq ?_
  refine gk_draw (fun w' => w'.heap[bb]? = some (.cells (g.cells S) 110 (0, 0))) (by kernel_rfl) ?_
  have hS := hb
  refine ga_take 0 rfl (by kernel_rfl) (fun _ _ => (ev_mv rfl)) hS ?_
  refine ga_take 1 rfl (by kernel_rfl) (fun _ _ => (ev_nil rfl)) hS ?_
  refine ga_take 2 rfl (by kernel_rfl) (fun _ _ => (ev_fa (j := 0) rfl Tryz.runUnderlying110 rfl Tryz.sizeOf69 rfl rfl)) hS ?_
  refine ga_take 3 rfl (by kernel_rfl) (fun _ hs => (ev_ld rfl Tryz.isAgg69 (by first | exact hs | exact hs.1 | exact hs.2 | exact hs.2.1 | exact hs.2.2) (by rfl))) hS ?_
  refine ga_take 4 rfl (by kernel_rfl) (fun _ _ => (ev_mv rfl)) hS ?_
  refine ga_call 5 rfl (by kernel_rfl) (ec_func Tryz.call141 rfl) (c141 hd) ?_
  rintro _ _ ⟨rfl, rfl⟩
  refine ⟨hS, fun hS => ?_⟩
  refine ga_take 6 rfl (by kernel_rfl) (fun _ _ => (ev_slo (a' := g.junk.length) rfl rfl Tryz.runUnderlying69 Tryz.sizeOf5 (by omega) (by omega) (by omega) (by omega))) hS ?_
  refine ga_take 7 rfl (by kernel_rfl) (fun _ _ => (ev_as rfl)) hS ?_
  refine ga_nil (by kernel_rfl) ?_
  refine gk_ret1 Tryz.results19 rfl ?_
  refine ⟨_, rfl, ?_, rfl⟩
  congr 1 <;> omega

def St0 : St := { buf := [], malign := 1, vt := [], oend := 0, vts := [], nested := false, fin := false, room := 0, started := false }
theorem c15 (n : Nat) (hn : n ≤ 100000) (F : Nat → Prop) (w : World) (hF : ∀ b, F b → b < w.heap.size) :
    CR Tryz.prog 15 #[.int .i64 n] w (fun v w' => ∃ bb, v = ptr bb ∧ Bld F w' bb St0 ∧ Keep F w w') := by
  refine cr_enter Tryz.func15 rfl Tryz.ntmps15 ?_
  refine gk_seq ?_
  refine gk_region ?_
  refine gr_v (ev_as rfl) ?_
  refine gr_nil ?_
  refine gk_seq ?_
  refine gk_seq ?_
  refine gk_region ?_
  refine gr_v (ev_mv rfl) ?_
  refine gr_v (ev_leq rfl rfl) ?_
  refine gr_nil ?_
  refine gk_cut (ι := Unit) (fun _ => [(0, .int .i64 n), (2, .pointer none)]) (fun _ w' => w = w') ?_ ?_
  · skip
    by_cases h0 : n = 0
    · skip
      subst h0
      refine gk_true rfl (rfl) ?_
      refine gk_region ?_
      refine gr_v (ev_as rfl) ?_
      refine gr_nil ?_
      refine gk_fin fun a ha => ?_
      exact ⟨(), ha.keep ⟨rfl, rfl, trivial⟩, rfl⟩
    · skip
      refine gk_false rfl (decide_eq_false (by omega)) ?_
      refine gk_skip ?_
      refine gk_fin fun a ha => ?_
      exact ⟨(), ha.keep ⟨rfl, rfl, trivial⟩, rfl⟩
  rintro _ _ rfl
  refine gk_seq ?_
  refine gk_region ?_
  refine gr_v (ev_build (ps := []) (vs := []) (cs := #[.slice none 0 0, .int .i64 0, .slice none 0 0, .int .u32 0, .slice none 0 0, .int .u32 0, .bool false, .bool false, .map none]) rfl (by kernel_rfl)) ?_
  refine gr_v (ev_box rfl) ?_
  generalize hw1 : w.alloc _ = w1
  have hb1 : w1.heap[w.heap.size]? = some (.cells #[.slice none 0 0, .int .i64 0, .slice none 0 0, .int .u32 0, .slice none 0 0, .int .u32 0, .bool false, .bool false, .map none] 110 (0, 0)) := by rw [← hw1]; exact al_new
  have hs1 : w1.heap.size = w.heap.size + 1 := by rw [← hw1]; exact al_size
  refine gr_v (ev_as rfl) ?_
  refine gr_nil ?_
  refine gk_seq ?_
  refine gk_region ?_
  refine gr_v (ev_mv rfl) ?_
  refine gr_v (ev_mv rfl) ?_
  refine gr_v (ev_mk (c := n) (cap' := n) rfl rfl Tryz.runUnderlying69 Tryz.typeInfo5 Tryz.sizeOf5 Tryz.zeroValue5 rfl (by omega) (by omega) (by omega) rfl (by omega) (by omega)) ?_
  generalize hw2 : w1.alloc _ = w2
  have hb2 := hw2 ▸ al_old (o := .cells (Array.replicate n (Value.int .u8 0)) 5 (0, 0)) hb1
  have hk2 : w2.heap[w1.heap.size]? = some (.cells (Array.replicate n (Value.int .u8 0)) 5 (0, 0)) := hw2 ▸ al_new
  have hs2 : w2.heap.size = w1.heap.size + 1 := by rw [← hw2]; exact al_size
  refine gr_v (ev_nil rfl) ?_
  refine gr_v (ev_fa (j := 0) rfl Tryz.runUnderlying110 rfl Tryz.sizeOf69 rfl rfl) ?_
  refine gr_st rfl rfl (by rfl) Tryz.sizeOf69 (by first | exact hb2) (by rfl) (by rfl) ?_
  intro w3 hw3 hbw3
  refine gr_nil ?_
  refine gk_seq ?_
  refine gk_region ?_
  refine gr_v (ev_mv rfl) ?_
  refine gr_v (ev_mv rfl) ?_
  refine gr_v (ev_cv rfl ⟨_, Tryz.runUnderlying3⟩ Tryz.runUnderlying65 (w_u32 (by omega) (by omega))) ?_
  refine gr_v (ev_nil rfl) ?_
  refine gr_v (ev_fa (j := 5) rfl Tryz.runUnderlying110 rfl Tryz.sizeOf65 rfl rfl) ?_
  refine gr_st rfl rfl (by rfl) Tryz.sizeOf65 (by first | exact hbw3) (by rfl) (by rfl) ?_
  intro w4 hw4 hbw4
  refine gr_nil ?_
  refine gk_seq ?_
  refine gk_region ?_
  refine gr_v (ev_mv rfl) ?_
  refine gr_v (ev_nil rfl) ?_
  refine gr_v (ev_fa (j := 1) rfl Tryz.runUnderlying110 rfl Tryz.sizeOf3 rfl rfl) ?_
  refine gr_st rfl rfl (by rfl) Tryz.sizeOf3 (by first | exact hbw4) (by rfl) (by rfl) ?_
  intro w5 hw5 hbw5
  refine gr_nil ?_
  refine gk_seq ?_
  refine gk_region ?_
  refine gr_v (ev_mv rfl) ?_
  refine gr_v (ev_mk (c := 0) (cap' := 16) rfl rfl Tryz.runUnderlying107 Tryz.typeInfo65 Tryz.sizeOf65 Tryz.zeroValue65 rfl (by omega) (by omega) (by omega) rfl (by omega) (by omega)) ?_
  have hs5 : w5.heap.size = w2.heap.size := by rw [hw5, sb_size, hw4, sb_size, hw3, sb_size]
  generalize hw6 : w5.alloc _ = w6
  have hb6 := hw6 ▸ al_old (o := .cells (Array.replicate 16 (Value.int .u32 0)) 65 (0, 0)) hbw5
  have ht6 : w6.heap[w5.heap.size]? = some (.cells (Array.replicate 16 (Value.int .u32 0)) 65 (0, 0)) := hw6 ▸ al_new
  have hs6 : w6.heap.size = w5.heap.size + 1 := by rw [← hw6]; exact al_size
  refine gr_v (ev_nil rfl) ?_
  refine gr_v (ev_fa (j := 4) rfl Tryz.runUnderlying110 rfl Tryz.sizeOf107 rfl rfl) ?_
  refine gr_st rfl rfl (by rfl) Tryz.sizeOf107 (by first | exact hb6) (by rfl) (by rfl) ?_
  intro w7 hw7 hbw7
  refine gr_nil ?_
  refine gk_seq ?_
  refine gk_region ?_
  refine gr_v (ev_mv rfl) ?_
  refine gr_v (ev_as rfl) ?_
  refine gr_nil ?_
  refine gk_ret1 Tryz.results15 rfl ?_
  have hk7 : w7.heap[w1.heap.size]? = some (.cells (Array.replicate n (Value.int .u8 0)) 5 (0, 0)) := sb_at hw7 (by omega) (hw6 ▸ al_old (sb_at hw5 (by omega) (sb_at hw4 (by omega) (sb_at hw3 (by omega) hk2))))
  have ht7 : w7.heap[w5.heap.size]? = some (.cells (Array.replicate 16 (Value.int .u32 0)) 65 (0, 0)) := sb_at hw7 (by omega) ht6
  have hK : Keep F w w7 := by
    refine ⟨fun b hb => ?_, by rw [hw7, sb_size]; omega⟩
    have hlt := hF b hb
    have hx : w.heap[b]? = some w.heap[b] := Array.getElem?_eq_getElem hlt
    rw [hx]
    exact sb_at hw7 (by omega) (hw6 ▸ al_old (sb_at hw5 (by omega) (sb_at hw4 (by omega) (sb_at hw3 (by omega) (hw2 ▸ al_old (hw1 ▸ al_old hx))))))
  refine ⟨_, rfl, w.heap.size, rfl, ⟨{ kb := w1.heap.size, junk := List.replicate n 0, extra := [], vb := none, vx := [], tb := w5.heap.size, tx := List.replicate 16 (U 0) }, ?_⟩, hK⟩
  exact { hb := by rw [hbw7]; simp [Gh.cells, Gh.vtv, Gh.len, Gh.cap, St0],
          hk := by rw [hk7]; congr 2; simp [St0, ← row_rep],
          hv := (fun b hb => by cases hb), hv0 := (fun _ => rfl), hst := (fun h => by cases h),
          ht := by rw [ht7]; rfl,
          bk := (by show w.heap.size ≠ w1.heap.size; omega), bv := (fun b hb => by cases hb), bt := (by show w.heap.size ≠ w5.heap.size; omega), kt := (by show w1.heap.size ≠ w5.heap.size; omega),
          fb := (fun h => by have := hF _ h; omega), fk := (fun h => by have := hF _ h; simp only at this; omega), fv := (fun b hb => by cases hb), ft := (fun h => by have := hF _ h; simp only at this; omega),
          fs := (fun b hb => by have := hF b hb; rw [hw7, sb_size]; omega), room := Nat.zero_le _, small := by simp [Gh.len, St0]; omega,
          vone := (fun v hv => by cases hv), tone := fun v hv => by rw [(List.mem_replicate.1 hv).2]; rfl }
end Go.Proofs.YtjaplgfgkigmiaaGreat