/-
  Two vtables compared.
-/
import Derived.Test.YtjaplgfgkigmiaaGreatOb
namespace Go.Proofs.YtjaplgfgkigmiaaGreat
open Go Go.Proofs

def u16 (bs : List UInt8) (i : Nat) : Nat := (bs[i]?.getD 0).toNat + 256 * (bs[i + 1]?.getD 0).toNat
def entryEq (obj x a : Nat) : Bool := (x == 0 && a == 0) || ((x : Int) == (obj : Int) - (a : Int))
def vtEq (vt : List Nat) (obj : Nat) (bs : List UInt8) : Bool := decide (vt.length * 2 = bs.length) && (List.range vt.length).all fun i => entryEq obj (u16 bs (2 * i)) (vt[i]?.getD 0)

theorem or16_0 {x : Int} (h0 : 0 ≤ x) (h1 : x < 65536) : IntKind.wrap .u16 ((BitVec.ofInt 16 0 ||| BitVec.ofInt 16 x).toNat : Int) = x := by
  rw [show BitVec.ofInt 16 0 = 0#16 from rfl, BitVec.zero_or, BitVec.toNat_ofInt]
  simp [IntKind.wrap, IntKind.bits, IntKind.signed]; omega
theorem or16 {x y : Nat} (h0 : x < 256) (h1 : y < 256) : IntKind.wrap .u16 ((BitVec.ofInt 16 (x : Int) ||| BitVec.ofInt 16 ((y : Int) * 256)).toNat : Int) = ((x + 256 * y : Nat) : Int) := by
  have e1 : (BitVec.ofInt 16 (x : Int)).toNat = x := by rw [BitVec.toNat_ofInt]; omega
  have e2 : (BitVec.ofInt 16 ((y : Int) * 256)).toNat = 2 ^ 8 * y := by rw [BitVec.toNat_ofInt]; omega
  rw [BitVec.toNat_or, e1, e2, Nat.or_comm, ← Nat.two_pow_add_eq_or_of_lt (by omega)]
  simp [IntKind.wrap, IntKind.bits, IntKind.signed]; omega
theorem ev_shl8 {P : Program} {l : Slots} {w : World} {T t u : TypeId} {x y : Operand} {kd kd' : IntKind} {m c r : Int} (hx : ev l x = some (.int kd m)) (hy : ev l y = some (.int kd' c)) (h0 : decide (0 ≤ c) = true) (h1 : decide (c.toNat ≤ kd.bits) = true) (h : kd.wrap (m * 2 ^ c.toNat) = r) :
    EV P l (.binOp .shl t x y u) T w (.int kd r) w := ev_of <| fun ρ o ho _ hρ => by
  have h0' : ¬ c < 0 := by have := of_decide_eq_true h0; omega
  have h1' : min c.toNat kd.bits = c.toNat := Nat.min_eq_left (of_decide_eq_true h1)
  simp [execOp, ho, hρ _ _ hx, hρ _ _ hy, eqGuard, binOp, Op.shift, h0', h1', h]

theorem c324 {w : World} {b o len cap : Nat} {ls : List UInt8} (hk : w.heap[b]? = some (.cells (row ls) 5 (0, 0))) (hl : 2 ≤ len) (ho : o + 2 ≤ ls.length) :
    CR Tryz.prog 324 #[.slice (some ⟨b, o, none⟩) len cap] w (fun v w' => v = .int .u16 (u16 ls o : Nat) ∧ w = w') := by
  have b0 := UInt8.toNat_lt ls[o]
  have b1 := UInt8.toNat_lt ls[o + 1]
  have e0 : u16 ls o = ls[o].toNat + 256 * ls[o + 1].toNat := by unfold u16; simp [List.getElem?_eq_getElem (show o < ls.length by omega), List.getElem?_eq_getElem (show o + 1 < ls.length by omega)]
  refine cr_enter Tryz.func324 rfl Tryz.ntmps324 ?_
  refine gk_seq ?_
  refine gk_region ?_
  refine gr_v (ev_as rfl) ?_
  refine gr_nil ?_
  refine gk_seq ?_
  refine gk_region ?_
  refine gr_v (ev_mv rfl) ?_
  refine gr_v (ev_ix (a' := o + 1) rfl rfl Tryz.runUnderlying69 Tryz.sizeOf5 (by omega) (by omega) rfl) ?_
  refine gr_v (ev_ld rfl Tryz.isAgg5 (by first | exact hk) (row_at (by omega))) ?_
  refine gr_nil ?_
  refine gk_seq ?_
  refine gk_region ?_
  refine gr_v (ev_mv rfl) ?_
  refine gr_v (ev_mv rfl) ?_
  refine gr_v (ev_ix (a' := o) rfl rfl Tryz.runUnderlying69 Tryz.sizeOf5 (by omega) (by omega) rfl) ?_
  refine gr_v (ev_ld rfl Tryz.isAgg5 (by first | exact hk) (row_at (by omega))) ?_
  refine gr_v (ev_cv rfl ⟨_, Tryz.runUnderlying5⟩ Tryz.runUnderlying39 (w_u16 (by omega) (by have := UInt8.toNat_lt ls[o]; have := UInt8.toNat_lt ls[o + 1]; omega))) ?_
  refine gr_v (ev_or rfl rfl (or16_0 (by omega) (by omega))) ?_
  refine gr_v (ev_as rfl) ?_
  refine gr_nil ?_
  refine gk_seq ?_
  refine gk_region ?_
  refine gr_v (ev_mv rfl) ?_
  refine gr_v (ev_mv rfl) ?_
  refine gr_v (ev_ix (a' := o + 1) rfl rfl Tryz.runUnderlying69 Tryz.sizeOf5 (by omega) (by omega) rfl) ?_
  refine gr_v (ev_ld rfl Tryz.isAgg5 (by first | exact hk) (row_at (by omega))) ?_
  refine gr_v (ev_cv rfl ⟨_, Tryz.runUnderlying5⟩ Tryz.runUnderlying39 (w_u16 (by omega) (by have := UInt8.toNat_lt ls[o]; have := UInt8.toNat_lt ls[o + 1]; omega))) ?_
  refine gr_v (ev_shl8 (r := (ls[o + 1].toNat : Int) * 256) rfl rfl rfl rfl (w_u16 (n := (ls[o + 1].toNat : Int) * 256) (by omega) (by omega))) ?_
  refine gr_v (ev_or rfl rfl (or16 b0 b1)) ?_
  refine gr_v (ev_as rfl) ?_
  refine gr_nil ?_
  refine gk_ret1 Tryz.results324 rfl ?_
  exact ⟨_, rfl, by rw [e0], rfl⟩

theorem c335 {w : World} {b o len cap : Nat} {ls : List UInt8} (hk : w.heap[b]? = some (.cells (row ls) 5 (0, 0))) (hl : 2 ≤ len) (ho : o + 2 ≤ ls.length) :
    CR Tryz.prog 335 #[.slice (some ⟨b, o, none⟩) len cap] w (fun v w' => v = .int .u16 (u16 ls o : Nat) ∧ w = w') := by
  refine cr_enter Tryz.func335 rfl Tryz.ntmps335 ?_
  refine gk_seq ?_
  refine gk_region ?_
  refine gr_v (ev_as rfl) ?_
  refine gr_nil ?_
  refine gk_seq ?_
  refine gk_region ?_
  refine gr_v (ev_mv rfl) ?_
  refine gr_call (ec_func Tryz.call324 rfl) (c324 hk hl ho) ?_
  rintro _ _ ⟨rfl, rfl⟩
  refine gr_v (ev_as rfl) ?_
  refine gr_nil ?_
  refine gk_ret1 Tryz.results335 rfl ?_
  exact ⟨_, rfl, rfl, rfl⟩

theorem u16_sub {ls bs : List UInt8} {o i : Nat} (h : (ls.drop o).take bs.length = bs) (hi : i + 1 < bs.length) : u16 ls (o + i) = u16 bs i := by
  have e : ∀ j, j < bs.length → ls[o + j]? = bs[j]? := fun j hj => by
    conv => rhs; rw [← h]
    rw [List.getElem?_take_of_lt hj, List.getElem?_drop]
  unfold u16
  rw [e i (by omega), show o + i + 1 = o + (i + 1) from rfl, e (i + 1) hi]
theorem vtEq_true {vt : List Nat} {obj : Nat} {bs : List UInt8} (h : vt.length * 2 = bs.length) (hall : ∀ j, j < vt.length → entryEq obj (u16 bs (2 * j)) (vt[j]?.getD 0) = true) : vtEq vt obj bs = true := by
  unfold vtEq
  rw [Bool.and_eq_true, List.all_eq_true]
  exact ⟨by simpa using h, fun j hj => hall j (by simpa using hj)⟩
theorem vtEq_false {vt : List Nat} {obj : Nat} {bs : List UInt8} {j : Nat} (hj : j < vt.length) (hf : entryEq obj (u16 bs (2 * j)) (vt[j]?.getD 0) = false) : vtEq vt obj bs = false := by
  unfold vtEq
  rw [Bool.and_eq_false_iff]
  right
  rw [List.all_eq_false]
  exact ⟨j, by simpa using hj, by simp [hf]⟩

theorem c336 {w : World} {vb kb o c1 c2 obj : Nat} {vt : List Nat} {vx : List Value} {ls bs : List UInt8} (hv : w.heap[vb]? = some (.cells (rowU vt vx) 65 (0, 0))) (hk : w.heap[kb]? = some (.cells (row ls) 5 (0, 0)))
    (hbs : (ls.drop o).take bs.length = bs) (ho : o + bs.length ≤ ls.length) (hc2 : bs.length ≤ c2) (hvb : ∀ a ∈ vt, a ≤ 268435456) (hobj : obj ≤ 268435456) (hvl : vt.length ≤ 100000) :
    CR Tryz.prog 336 #[.slice (some ⟨vb, 0, none⟩) vt.length c1, U obj, .slice (some ⟨kb, o, none⟩) bs.length c2] w (fun v w' => v = .bool (vtEq vt obj bs) ∧ w = w') := by
  by_cases hlen : vt.length * 2 = bs.length
  case neg =>
    have hfalse : vtEq vt obj bs = false := by unfold vtEq; simp [hlen]
    refine cr_enter Tryz.func336 rfl Tryz.ntmps336 ?_
    refine gk_seq ?_
    refine gk_region ?_
    refine gr_v (ev_as rfl) ?_
    refine gr_nil ?_
    refine gk_seq ?_
    refine gk_seq ?_
    refine gk_region ?_
    refine gr_v (ev_mv rfl) ?_
    refine gr_v (ev_len rfl ⟨_, rfl, _, Tryz.runUnderlying107⟩) ?_
    refine gr_v (ev_mul rfl rfl (w_i64 (by omega) (by omega))) ?_
    refine gr_v (ev_mv rfl) ?_
    refine gr_v (ev_len rfl ⟨_, rfl, _, Tryz.runUnderlying69⟩) ?_
    refine gr_v (ev_neq rfl rfl) ?_
    refine gr_nil ?_
    refine gk_true rfl (by rw [bne_iff_ne]; omega) ?_
    refine gk_seq ?_
    refine gk_region ?_
    refine gr_v (ev_as rfl) ?_
    refine gr_nil ?_
    refine gk_ret1 Tryz.results336 rfl ?_
    exact ⟨_, rfl, by rw [hfalse], rfl⟩
  case pos =>
    refine cr_enter Tryz.func336 rfl Tryz.ntmps336 ?_
    refine gk_seq ?_
    refine gk_region ?_
    refine gr_v (ev_as rfl) ?_
    refine gr_nil ?_
    refine gk_seq ?_
    refine gk_seq ?_
    refine gk_region ?_
    refine gr_v (ev_mv rfl) ?_
    refine gr_v (ev_len rfl ⟨_, rfl, _, Tryz.runUnderlying107⟩) ?_
    refine gr_v (ev_mul rfl rfl (w_i64 (by omega) (by omega))) ?_
    refine gr_v (ev_mv rfl) ?_
    refine gr_v (ev_len rfl ⟨_, rfl, _, Tryz.runUnderlying69⟩) ?_
    refine gr_v (ev_neq rfl rfl) ?_
    refine gr_nil ?_
    refine gk_false rfl (by rw [bne_eq_false_iff_eq]; omega) ?_
    refine gk_skip ?_
    refine gk_seq ?_
    refine gk_seq ?_
    refine gk_region ?_
    refine gr_v (ev_as rfl) ?_
    refine gr_nil ?_
    refine gk_block ?_
    refine gk_loop (fun i : Nat => [(0, .slice (some ⟨vb, 0, none⟩) vt.length c1), (1, U obj), (2, .slice (some ⟨kb, o, none⟩) bs.length c2), (7, .int .i64 i)]) (fun i w' => i ≤ vt.length ∧ w = w' ∧ ∀ j, j < i → entryEq obj (u16 bs (2 * j)) (vt[j]?.getD 0) = true) (fun i => vt.length - i) 0 ⟨rfl, rfl, rfl, rfl, trivial⟩ ⟨Nat.zero_le _, rfl, fun j hj => absurd hj (by omega)⟩ ?_
    rintro i _ ⟨hil, rfl, hall⟩
    have h6 : (∃ h : i < vt.length, u16 bs (2 * i) = 0 ∧ vt[i] = 0) ∨ (∃ h : i < vt.length, u16 bs (2 * i) = 0 ∧ vt[i] ≠ 0 ∧ (u16 bs (2 * i) : Int) = (obj : Int) - (vt[i] : Int)) ∨ (∃ h : i < vt.length, u16 bs (2 * i) = 0 ∧ vt[i] ≠ 0 ∧ (u16 bs (2 * i) : Int) ≠ (obj : Int) - (vt[i] : Int)) ∨ (∃ h : i < vt.length, u16 bs (2 * i) ≠ 0 ∧ (u16 bs (2 * i) : Int) = (obj : Int) - (vt[i] : Int)) ∨ (∃ h : i < vt.length, u16 bs (2 * i) ≠ 0 ∧ (u16 bs (2 * i) : Int) ≠ (obj : Int) - (vt[i] : Int)) ∨ i = vt.length := by
      by_cases hlt : i < vt.length
      · by_cases h1 : u16 bs (2 * i) = 0 <;> by_cases h2 : vt[i] = 0 <;> by_cases h3 : (u16 bs (2 * i) : Int) = (obj : Int) - (vt[i] : Int) <;> simp [hlt, h1, h2, h3] <;> omega
      · simp; omega
    rcases h6 with hp | hp | hp | hp | hp | hp
    · skip
      obtain ⟨hi, h1⟩ := hp
      have hgd : vt[i]?.getD 0 = vt[i] := by simp [List.getElem?_eq_getElem hi]
      have hxb : u16 bs (2 * i) < 65536 := by unfold u16; have := UInt8.toNat_lt (bs[2 * i]?.getD 0); have := UInt8.toNat_lt (bs[2 * i + 1]?.getD 0); omega
      have hxe : u16 ls (o + 2 * i) = u16 bs (2 * i) := u16_sub hbs (by omega)
      have hle := hvb _ (List.getElem_mem hi)
      generalize hx : u16 bs (2 * i) = x at *
      generalize hav : vt[i] = av at *
      have hnext : entryEq obj x av = true → ∀ j, j < i + 1 → entryEq obj (u16 bs (2 * j)) (vt[j]?.getD 0) = true := fun he j hj => by
        by_cases hji : j = i
        · subst hji; rw [hx, hgd]; exact he
        · exact hall j (by omega)
      refine gk_seq ?_
      refine gk_seq ?_
      refine gk_region ?_
      refine gr_v (ev_mv rfl) ?_
      refine gr_v (ev_mv rfl) ?_
      refine gr_v (ev_len rfl ⟨_, rfl, _, Tryz.runUnderlying107⟩) ?_
      refine gr_v (ev_lss rfl rfl) ?_
      refine gr_nil ?_
      refine gk_true rfl (decide_eq_true (by omega)) ?_
      refine gk_skip ?_
      refine gk_seq ?_
      refine gk_block ?_
      refine gk_seq ?_
      refine gk_region ?_
      refine gr_v (ev_mv rfl) ?_
      refine gr_v (ev_mv rfl) ?_
      refine gr_v (ev_mul rfl rfl (w_i64 (by omega) (by omega))) ?_
      refine gr_v (ev_mv rfl) ?_
      refine gr_v (ev_add rfl rfl (w_i64 (by omega) (by omega))) ?_
      refine gr_v (ev_mul rfl rfl (w_i64 (by omega) (by omega))) ?_
      refine gr_v (ev_slh (a' := o + 2 * i) rfl rfl rfl Tryz.runUnderlying69 Tryz.sizeOf5 (by omega) (by omega) (by omega) (by omega) (by omega)) ?_
      refine gr_call (ec_func Tryz.call335 rfl) (c335 hk (by omega) (by omega)) ?_
      rintro _ _ ⟨rfl, rfl⟩
      rw [hxe]
      refine gr_v (ev_as rfl) ?_
      refine gr_nil ?_
      refine gk_seq ?_
      refine gk_seq ?_
      refine gk_region ?_
      refine gr_v (ev_mv rfl) ?_
      refine gr_v (ev_eql rfl rfl) ?_
      refine gr_v (ev_mv rfl) ?_
      refine gr_gv rfl rfl (by rw [beq_iff_eq]; omega) (ev_mv rfl) ?_
      refine gr_gv rfl rfl (by rw [beq_iff_eq]; omega) (ev_mv rfl) ?_
      refine gr_gv rfl rfl (by rw [beq_iff_eq]; omega) (ev_ix (a' := i) rfl rfl Tryz.runUnderlying107 Tryz.sizeOf65 (by omega) (by omega) (by omega)) ?_
      refine gr_gv rfl rfl (by rw [beq_iff_eq]; omega) (ev_ld rfl Tryz.isAgg65 hv (rowU_at hi)) ?_
      refine gr_gv rfl rfl (by rw [beq_iff_eq]; omega) (ev_eql rfl rfl) ?_
      refine gr_v (ev_pickT rfl (by rw [beq_iff_eq]; omega) rfl) ?_
      refine gr_nil ?_
      refine gk_true rfl (by rw [beq_iff_eq]; omega) ?_
      refine gk_exit rfl ?_
      refine gk_region ?_
      refine gr_v (ev_mv rfl) ?_
      refine gr_v (ev_add rfl rfl (w_i64 (by omega) (by omega))) ?_
      refine gr_v (ev_as rfl) ?_
      refine gr_nil ?_
      refine gk_fin fun a ha => ?_
      exact ⟨i + 1, ha.keep ⟨rfl, rfl, rfl, rfl, trivial⟩, ⟨by omega, rfl, hnext (by unfold entryEq; simp; omega)⟩, by omega⟩
    · skip
      obtain ⟨hi, h1⟩ := hp
      have hgd : vt[i]?.getD 0 = vt[i] := by simp [List.getElem?_eq_getElem hi]
      have hxb : u16 bs (2 * i) < 65536 := by unfold u16; have := UInt8.toNat_lt (bs[2 * i]?.getD 0); have := UInt8.toNat_lt (bs[2 * i + 1]?.getD 0); omega
      have hxe : u16 ls (o + 2 * i) = u16 bs (2 * i) := u16_sub hbs (by omega)
      have hle := hvb _ (List.getElem_mem hi)
      generalize hx : u16 bs (2 * i) = x at *
      generalize hav : vt[i] = av at *
      have hnext : entryEq obj x av = true → ∀ j, j < i + 1 → entryEq obj (u16 bs (2 * j)) (vt[j]?.getD 0) = true := fun he j hj => by
        by_cases hji : j = i
        · subst hji; rw [hx, hgd]; exact he
        · exact hall j (by omega)
      refine gk_seq ?_
      refine gk_seq ?_
      refine gk_region ?_
      refine gr_v (ev_mv rfl) ?_
      refine gr_v (ev_mv rfl) ?_
      refine gr_v (ev_len rfl ⟨_, rfl, _, Tryz.runUnderlying107⟩) ?_
      refine gr_v (ev_lss rfl rfl) ?_
      refine gr_nil ?_
      refine gk_true rfl (decide_eq_true (by omega)) ?_
      refine gk_skip ?_
      refine gk_seq ?_
      refine gk_block ?_
      refine gk_seq ?_
      refine gk_region ?_
      refine gr_v (ev_mv rfl) ?_
      refine gr_v (ev_mv rfl) ?_
      refine gr_v (ev_mul rfl rfl (w_i64 (by omega) (by omega))) ?_
      refine gr_v (ev_mv rfl) ?_
      refine gr_v (ev_add rfl rfl (w_i64 (by omega) (by omega))) ?_
      refine gr_v (ev_mul rfl rfl (w_i64 (by omega) (by omega))) ?_
      refine gr_v (ev_slh (a' := o + 2 * i) rfl rfl rfl Tryz.runUnderlying69 Tryz.sizeOf5 (by omega) (by omega) (by omega) (by omega) (by omega)) ?_
      refine gr_call (ec_func Tryz.call335 rfl) (c335 hk (by omega) (by omega)) ?_
      rintro _ _ ⟨rfl, rfl⟩
      rw [hxe]
      refine gr_v (ev_as rfl) ?_
      refine gr_nil ?_
      refine gk_seq ?_
      refine gk_seq ?_
      refine gk_region ?_
      refine gr_v (ev_mv rfl) ?_
      refine gr_v (ev_eql rfl rfl) ?_
      refine gr_v (ev_mv rfl) ?_
      refine gr_gv rfl rfl (by rw [beq_iff_eq]; omega) (ev_mv rfl) ?_
      refine gr_gv rfl rfl (by rw [beq_iff_eq]; omega) (ev_mv rfl) ?_
      refine gr_gv rfl rfl (by rw [beq_iff_eq]; omega) (ev_ix (a' := i) rfl rfl Tryz.runUnderlying107 Tryz.sizeOf65 (by omega) (by omega) (by omega)) ?_
      refine gr_gv rfl rfl (by rw [beq_iff_eq]; omega) (ev_ld rfl Tryz.isAgg65 hv (rowU_at hi)) ?_
      refine gr_gv rfl rfl (by rw [beq_iff_eq]; omega) (ev_eql rfl rfl) ?_
      refine gr_v (ev_pickT rfl (by rw [beq_iff_eq]; omega) rfl) ?_
      refine gr_nil ?_
      refine gk_false rfl (by rw [beq_eq_false_iff_ne]; omega) ?_
      refine gk_skip ?_
      refine gk_seq ?_
      refine gk_region ?_
      refine gr_v (ev_mv rfl) ?_
      refine gr_v (ev_cv rfl ⟨_, Tryz.runUnderlying65⟩ Tryz.runUnderlying289 (w_i32 (by omega) (by omega))) ?_
      refine gr_v (ev_mv rfl) ?_
      refine gr_v (ev_mv rfl) ?_
      refine gr_v (ev_ix (a' := i) rfl rfl Tryz.runUnderlying107 Tryz.sizeOf65 (by omega) (by omega) (by omega)) ?_
      refine gr_v (ev_ld rfl Tryz.isAgg65 hv (rowU_at hi)) ?_
      refine gr_v (ev_cv rfl ⟨_, Tryz.runUnderlying65⟩ Tryz.runUnderlying289 (w_i32 (by omega) (by omega))) ?_
      refine gr_v (ev_sub rfl rfl (w_i32 (by omega) (by omega))) ?_
      refine gr_v (ev_as rfl) ?_
      refine gr_nil ?_
      refine gk_seq ?_
      refine gk_region ?_
      refine gr_v (ev_mv rfl) ?_
      refine gr_v (ev_cv rfl ⟨_, Tryz.runUnderlying255⟩ Tryz.runUnderlying289 (w_i32 (by omega) (by omega))) ?_
      refine gr_v (ev_mv rfl) ?_
      refine gr_v (ev_neq rfl rfl) ?_
      refine gr_nil ?_
      refine gk_false rfl (by rw [bne_eq_false_iff_eq]; omega) ?_
      refine gk_skip ?_
      refine gk_endblk ?_
      refine gk_region ?_
      refine gr_v (ev_mv rfl) ?_
      refine gr_v (ev_add rfl rfl (w_i64 (by omega) (by omega))) ?_
      refine gr_v (ev_as rfl) ?_
      refine gr_nil ?_
      refine gk_fin fun a ha => ?_
      exact ⟨i + 1, ha.keep ⟨rfl, rfl, rfl, rfl, trivial⟩, ⟨by omega, rfl, hnext (by unfold entryEq; simp; omega)⟩, by omega⟩
    · skip
      obtain ⟨hi, h1⟩ := hp
      have hgd : vt[i]?.getD 0 = vt[i] := by simp [List.getElem?_eq_getElem hi]
      have hxb : u16 bs (2 * i) < 65536 := by unfold u16; have := UInt8.toNat_lt (bs[2 * i]?.getD 0); have := UInt8.toNat_lt (bs[2 * i + 1]?.getD 0); omega
      have hxe : u16 ls (o + 2 * i) = u16 bs (2 * i) := u16_sub hbs (by omega)
      have hle := hvb _ (List.getElem_mem hi)
      generalize hx : u16 bs (2 * i) = x at *
      generalize hav : vt[i] = av at *
      have hnext : entryEq obj x av = true → ∀ j, j < i + 1 → entryEq obj (u16 bs (2 * j)) (vt[j]?.getD 0) = true := fun he j hj => by
        by_cases hji : j = i
        · subst hji; rw [hx, hgd]; exact he
        · exact hall j (by omega)
      refine gk_seq ?_
      refine gk_seq ?_
      refine gk_region ?_
      refine gr_v (ev_mv rfl) ?_
      refine gr_v (ev_mv rfl) ?_
      refine gr_v (ev_len rfl ⟨_, rfl, _, Tryz.runUnderlying107⟩) ?_
      refine gr_v (ev_lss rfl rfl) ?_
      refine gr_nil ?_
      refine gk_true rfl (decide_eq_true (by omega)) ?_
      refine gk_skip ?_
      refine gk_seq ?_
      refine gk_block ?_
      refine gk_seq ?_
      refine gk_region ?_
      refine gr_v (ev_mv rfl) ?_
      refine gr_v (ev_mv rfl) ?_
      refine gr_v (ev_mul rfl rfl (w_i64 (by omega) (by omega))) ?_
      refine gr_v (ev_mv rfl) ?_
      refine gr_v (ev_add rfl rfl (w_i64 (by omega) (by omega))) ?_
      refine gr_v (ev_mul rfl rfl (w_i64 (by omega) (by omega))) ?_
      refine gr_v (ev_slh (a' := o + 2 * i) rfl rfl rfl Tryz.runUnderlying69 Tryz.sizeOf5 (by omega) (by omega) (by omega) (by omega) (by omega)) ?_
      refine gr_call (ec_func Tryz.call335 rfl) (c335 hk (by omega) (by omega)) ?_
      rintro _ _ ⟨rfl, rfl⟩
      rw [hxe]
      refine gr_v (ev_as rfl) ?_
      refine gr_nil ?_
      refine gk_seq ?_
      refine gk_seq ?_
      refine gk_region ?_
      refine gr_v (ev_mv rfl) ?_
      refine gr_v (ev_eql rfl rfl) ?_
      refine gr_v (ev_mv rfl) ?_
      refine gr_gv rfl rfl (by rw [beq_iff_eq]; omega) (ev_mv rfl) ?_
      refine gr_gv rfl rfl (by rw [beq_iff_eq]; omega) (ev_mv rfl) ?_
      refine gr_gv rfl rfl (by rw [beq_iff_eq]; omega) (ev_ix (a' := i) rfl rfl Tryz.runUnderlying107 Tryz.sizeOf65 (by omega) (by omega) (by omega)) ?_
      refine gr_gv rfl rfl (by rw [beq_iff_eq]; omega) (ev_ld rfl Tryz.isAgg65 hv (rowU_at hi)) ?_
      refine gr_gv rfl rfl (by rw [beq_iff_eq]; omega) (ev_eql rfl rfl) ?_
      refine gr_v (ev_pickT rfl (by rw [beq_iff_eq]; omega) rfl) ?_
      refine gr_nil ?_
      refine gk_false rfl (by rw [beq_eq_false_iff_ne]; omega) ?_
      refine gk_skip ?_
      refine gk_seq ?_
      refine gk_region ?_
      refine gr_v (ev_mv rfl) ?_
      refine gr_v (ev_cv rfl ⟨_, Tryz.runUnderlying65⟩ Tryz.runUnderlying289 (w_i32 (by omega) (by omega))) ?_
      refine gr_v (ev_mv rfl) ?_
      refine gr_v (ev_mv rfl) ?_
      refine gr_v (ev_ix (a' := i) rfl rfl Tryz.runUnderlying107 Tryz.sizeOf65 (by omega) (by omega) (by omega)) ?_
      refine gr_v (ev_ld rfl Tryz.isAgg65 hv (rowU_at hi)) ?_
      refine gr_v (ev_cv rfl ⟨_, Tryz.runUnderlying65⟩ Tryz.runUnderlying289 (w_i32 (by omega) (by omega))) ?_
      refine gr_v (ev_sub rfl rfl (w_i32 (by omega) (by omega))) ?_
      refine gr_v (ev_as rfl) ?_
      refine gr_nil ?_
      refine gk_seq ?_
      refine gk_region ?_
      refine gr_v (ev_mv rfl) ?_
      refine gr_v (ev_cv rfl ⟨_, Tryz.runUnderlying255⟩ Tryz.runUnderlying289 (w_i32 (by omega) (by omega))) ?_
      refine gr_v (ev_mv rfl) ?_
      refine gr_v (ev_neq rfl rfl) ?_
      refine gr_nil ?_
      refine gk_true rfl (by rw [bne_iff_ne]; omega) ?_
      refine gk_seq ?_
      refine gk_region ?_
      refine gr_v (ev_as rfl) ?_
      refine gr_nil ?_
      refine gk_ret1 Tryz.results336 rfl ?_
      exact ⟨_, rfl, by rw [vtEq_false hi (by rw [hx, hgd]; unfold entryEq; simp; omega)], rfl⟩
    · skip
      obtain ⟨hi, h1⟩ := hp
      have hgd : vt[i]?.getD 0 = vt[i] := by simp [List.getElem?_eq_getElem hi]
      have hxb : u16 bs (2 * i) < 65536 := by unfold u16; have := UInt8.toNat_lt (bs[2 * i]?.getD 0); have := UInt8.toNat_lt (bs[2 * i + 1]?.getD 0); omega
      have hxe : u16 ls (o + 2 * i) = u16 bs (2 * i) := u16_sub hbs (by omega)
      have hle := hvb _ (List.getElem_mem hi)
      generalize hx : u16 bs (2 * i) = x at *
      generalize hav : vt[i] = av at *
      have hnext : entryEq obj x av = true → ∀ j, j < i + 1 → entryEq obj (u16 bs (2 * j)) (vt[j]?.getD 0) = true := fun he j hj => by
        by_cases hji : j = i
        · subst hji; rw [hx, hgd]; exact he
        · exact hall j (by omega)
      refine gk_seq ?_
      refine gk_seq ?_
      refine gk_region ?_
      refine gr_v (ev_mv rfl) ?_
      refine gr_v (ev_mv rfl) ?_
      refine gr_v (ev_len rfl ⟨_, rfl, _, Tryz.runUnderlying107⟩) ?_
      refine gr_v (ev_lss rfl rfl) ?_
      refine gr_nil ?_
      refine gk_true rfl (decide_eq_true (by omega)) ?_
      refine gk_skip ?_
      refine gk_seq ?_
      refine gk_block ?_
      refine gk_seq ?_
      refine gk_region ?_
      refine gr_v (ev_mv rfl) ?_
      refine gr_v (ev_mv rfl) ?_
      refine gr_v (ev_mul rfl rfl (w_i64 (by omega) (by omega))) ?_
      refine gr_v (ev_mv rfl) ?_
      refine gr_v (ev_add rfl rfl (w_i64 (by omega) (by omega))) ?_
      refine gr_v (ev_mul rfl rfl (w_i64 (by omega) (by omega))) ?_
      refine gr_v (ev_slh (a' := o + 2 * i) rfl rfl rfl Tryz.runUnderlying69 Tryz.sizeOf5 (by omega) (by omega) (by omega) (by omega) (by omega)) ?_
      refine gr_call (ec_func Tryz.call335 rfl) (c335 hk (by omega) (by omega)) ?_
      rintro _ _ ⟨rfl, rfl⟩
      rw [hxe]
      refine gr_v (ev_as rfl) ?_
      refine gr_nil ?_
      refine gk_seq ?_
      refine gk_seq ?_
      refine gk_region ?_
      refine gr_v (ev_mv rfl) ?_
      refine gr_v (ev_eql rfl rfl) ?_
      refine gr_v (ev_mv rfl) ?_
      refine gr_gs rfl rfl (by rw [beq_eq_false_iff_ne.2 (by omega)]; rfl) ?_
      refine gr_gs rfl rfl (by rw [beq_eq_false_iff_ne.2 (by omega)]; rfl) ?_
      refine gr_gs rfl rfl (by rw [beq_eq_false_iff_ne.2 (by omega)]; rfl) ?_
      refine gr_gs rfl rfl (by rw [beq_eq_false_iff_ne.2 (by omega)]; rfl) ?_
      refine gr_gs rfl rfl (by rw [beq_eq_false_iff_ne.2 (by omega)]; rfl) ?_
      refine gr_v (ev_pickF rfl (by rw [beq_eq_false_iff_ne]; omega) rfl) ?_
      refine gr_nil ?_
      refine gk_false rfl (rfl) ?_
      refine gk_skip ?_
      refine gk_seq ?_
      refine gk_region ?_
      refine gr_v (ev_mv rfl) ?_
      refine gr_v (ev_cv rfl ⟨_, Tryz.runUnderlying65⟩ Tryz.runUnderlying289 (w_i32 (by omega) (by omega))) ?_
      refine gr_v (ev_mv rfl) ?_
      refine gr_v (ev_mv rfl) ?_
      refine gr_v (ev_ix (a' := i) rfl rfl Tryz.runUnderlying107 Tryz.sizeOf65 (by omega) (by omega) (by omega)) ?_
      refine gr_v (ev_ld rfl Tryz.isAgg65 hv (rowU_at hi)) ?_
      refine gr_v (ev_cv rfl ⟨_, Tryz.runUnderlying65⟩ Tryz.runUnderlying289 (w_i32 (by omega) (by omega))) ?_
      refine gr_v (ev_sub rfl rfl (w_i32 (by omega) (by omega))) ?_
      refine gr_v (ev_as rfl) ?_
      refine gr_nil ?_
      refine gk_seq ?_
      refine gk_region ?_
      refine gr_v (ev_mv rfl) ?_
      refine gr_v (ev_cv rfl ⟨_, Tryz.runUnderlying255⟩ Tryz.runUnderlying289 (w_i32 (by omega) (by omega))) ?_
      refine gr_v (ev_mv rfl) ?_
      refine gr_v (ev_neq rfl rfl) ?_
      refine gr_nil ?_
      refine gk_false rfl (by rw [bne_eq_false_iff_eq]; omega) ?_
      refine gk_skip ?_
      refine gk_endblk ?_
      refine gk_region ?_
      refine gr_v (ev_mv rfl) ?_
      refine gr_v (ev_add rfl rfl (w_i64 (by omega) (by omega))) ?_
      refine gr_v (ev_as rfl) ?_
      refine gr_nil ?_
      refine gk_fin fun a ha => ?_
      exact ⟨i + 1, ha.keep ⟨rfl, rfl, rfl, rfl, trivial⟩, ⟨by omega, rfl, hnext (by unfold entryEq; simp; omega)⟩, by omega⟩
    · skip
      obtain ⟨hi, h1⟩ := hp
      have hgd : vt[i]?.getD 0 = vt[i] := by simp [List.getElem?_eq_getElem hi]
      have hxb : u16 bs (2 * i) < 65536 := by unfold u16; have := UInt8.toNat_lt (bs[2 * i]?.getD 0); have := UInt8.toNat_lt (bs[2 * i + 1]?.getD 0); omega
      have hxe : u16 ls (o + 2 * i) = u16 bs (2 * i) := u16_sub hbs (by omega)
      have hle := hvb _ (List.getElem_mem hi)
      generalize hx : u16 bs (2 * i) = x at *
      generalize hav : vt[i] = av at *
      have hnext : entryEq obj x av = true → ∀ j, j < i + 1 → entryEq obj (u16 bs (2 * j)) (vt[j]?.getD 0) = true := fun he j hj => by
        by_cases hji : j = i
        · subst hji; rw [hx, hgd]; exact he
        · exact hall j (by omega)
      refine gk_seq ?_
      refine gk_seq ?_
      refine gk_region ?_
      refine gr_v (ev_mv rfl) ?_
      refine gr_v (ev_mv rfl) ?_
      refine gr_v (ev_len rfl ⟨_, rfl, _, Tryz.runUnderlying107⟩) ?_
      refine gr_v (ev_lss rfl rfl) ?_
      refine gr_nil ?_
      refine gk_true rfl (decide_eq_true (by omega)) ?_
      refine gk_skip ?_
      refine gk_seq ?_
      refine gk_block ?_
      refine gk_seq ?_
      refine gk_region ?_
      refine gr_v (ev_mv rfl) ?_
      refine gr_v (ev_mv rfl) ?_
      refine gr_v (ev_mul rfl rfl (w_i64 (by omega) (by omega))) ?_
      refine gr_v (ev_mv rfl) ?_
      refine gr_v (ev_add rfl rfl (w_i64 (by omega) (by omega))) ?_
      refine gr_v (ev_mul rfl rfl (w_i64 (by omega) (by omega))) ?_
      refine gr_v (ev_slh (a' := o + 2 * i) rfl rfl rfl Tryz.runUnderlying69 Tryz.sizeOf5 (by omega) (by omega) (by omega) (by omega) (by omega)) ?_
      refine gr_call (ec_func Tryz.call335 rfl) (c335 hk (by omega) (by omega)) ?_
      rintro _ _ ⟨rfl, rfl⟩
      rw [hxe]
      refine gr_v (ev_as rfl) ?_
      refine gr_nil ?_
      refine gk_seq ?_
      refine gk_seq ?_
      refine gk_region ?_
      refine gr_v (ev_mv rfl) ?_
      refine gr_v (ev_eql rfl rfl) ?_
      refine gr_v (ev_mv rfl) ?_
      refine gr_gs rfl rfl (by rw [beq_eq_false_iff_ne.2 (by omega)]; rfl) ?_
      refine gr_gs rfl rfl (by rw [beq_eq_false_iff_ne.2 (by omega)]; rfl) ?_
      refine gr_gs rfl rfl (by rw [beq_eq_false_iff_ne.2 (by omega)]; rfl) ?_
      refine gr_gs rfl rfl (by rw [beq_eq_false_iff_ne.2 (by omega)]; rfl) ?_
      refine gr_gs rfl rfl (by rw [beq_eq_false_iff_ne.2 (by omega)]; rfl) ?_
      refine gr_v (ev_pickF rfl (by rw [beq_eq_false_iff_ne]; omega) rfl) ?_
      refine gr_nil ?_
      refine gk_false rfl (rfl) ?_
      refine gk_skip ?_
      refine gk_seq ?_
      refine gk_region ?_
      refine gr_v (ev_mv rfl) ?_
      refine gr_v (ev_cv rfl ⟨_, Tryz.runUnderlying65⟩ Tryz.runUnderlying289 (w_i32 (by omega) (by omega))) ?_
      refine gr_v (ev_mv rfl) ?_
      refine gr_v (ev_mv rfl) ?_
      refine gr_v (ev_ix (a' := i) rfl rfl Tryz.runUnderlying107 Tryz.sizeOf65 (by omega) (by omega) (by omega)) ?_
      refine gr_v (ev_ld rfl Tryz.isAgg65 hv (rowU_at hi)) ?_
      refine gr_v (ev_cv rfl ⟨_, Tryz.runUnderlying65⟩ Tryz.runUnderlying289 (w_i32 (by omega) (by omega))) ?_
      refine gr_v (ev_sub rfl rfl (w_i32 (by omega) (by omega))) ?_
      refine gr_v (ev_as rfl) ?_
      refine gr_nil ?_
      refine gk_seq ?_
      refine gk_region ?_
      refine gr_v (ev_mv rfl) ?_
      refine gr_v (ev_cv rfl ⟨_, Tryz.runUnderlying255⟩ Tryz.runUnderlying289 (w_i32 (by omega) (by omega))) ?_
      refine gr_v (ev_mv rfl) ?_
      refine gr_v (ev_neq rfl rfl) ?_
      refine gr_nil ?_
      refine gk_true rfl (by rw [bne_iff_ne]; omega) ?_
      refine gk_seq ?_
      refine gk_region ?_
      refine gr_v (ev_as rfl) ?_
      refine gr_nil ?_
      refine gk_ret1 Tryz.results336 rfl ?_
      exact ⟨_, rfl, by rw [vtEq_false hi (by rw [hx, hgd]; unfold entryEq; simp; omega)], rfl⟩
    · skip
      subst hp
      refine gk_seq ?_
      refine gk_seq ?_
      refine gk_region ?_
      refine gr_v (ev_mv rfl) ?_
      refine gr_v (ev_mv rfl) ?_
      refine gr_v (ev_len rfl ⟨_, rfl, _, Tryz.runUnderlying107⟩) ?_
      refine gr_v (ev_lss rfl rfl) ?_
      refine gr_nil ?_
      refine gk_false rfl (decide_eq_false (by omega)) ?_
      refine gk_exit rfl ?_
      refine gk_seq ?_
      refine gk_region ?_
      refine gr_v (ev_as rfl) ?_
      refine gr_nil ?_
      refine gk_ret1 Tryz.results336 rfl ?_
      exact ⟨_, rfl, by rw [vtEq_true hlen hall], rfl⟩
end Go.Proofs.YtjaplgfgkigmiaaGreat