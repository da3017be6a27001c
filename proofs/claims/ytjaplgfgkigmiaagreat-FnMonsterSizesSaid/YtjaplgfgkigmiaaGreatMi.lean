/-
  The generated code's small functions, over the builder.
-/
import Derived.Test.YtjaplgfgkigmiaaGreatFi
namespace Go.Proofs.YtjaplgfgkigmiaaGreat
open Go Go.Proofs

def thn {β : Type} (x : St → Option St) (y : St → Option β) : St → Option β := fun S => (x S).bind y
def withV {β : Type} (x : St → Option (Nat × St)) (y : Nat → St → Option β) : St → Option β := fun S => (x S).bind fun p => y p.1 p.2
def retV (r : Nat) : St → Option (Nat × St) := fun S => some (r, S)
def offsetV : St → Option (Nat × St) := fun S => some (S.buf.length, S)
theorem thn_some {β : Type} {x : St → Option St} {y : St → Option β} {S : St} {b : β} (h : thn x y S = some b) : ∃ S1, x S = some S1 ∧ y S1 = some b := bind_some h
theorem withV_some {β : Type} {x : St → Option (Nat × St)} {y : Nat → St → Option β} {S : St} {b : β} (h : withV x y S = some b) : ∃ r S1, x S = some (r, S1) ∧ y r S1 = some b := by
  obtain ⟨⟨r, S1⟩, h1, h2⟩ := bind_some h
  exact ⟨r, S1, h1, h2⟩
theorem retV_some {r r' : Nat} {S S' : St} (h : retV r S = some (r', S')) : r = r' ∧ S = S' := by
  unfold retV at h
  simpa using h
theorem c230v : BVal 230 [] offsetV := by
  rintro F w bb S r S' h hm
  unfold offsetV at hm
  simp only [Option.some.injEq, Prod.mk.injEq] at hm
  obtain ⟨rfl, rfl⟩ := hm
  exact h.offset

theorem c61 (a : Nat) : BVal 61 [.int .i64 a] (startVectorV 4 a 2) := by
  rintro F w bb S r S' h hm
  have h1 := hm
  refine cr_enter Tryz.func61 rfl Tryz.ntmps61 ?_
  refine gk_seq ?_
  refine gk_region ?_
  refine gr_v (ev_as rfl) ?_
  refine gr_nil ?_
  refine gk_seq ?_
  refine gk_region ?_
  refine gr_v (ev_mv rfl) ?_
  refine gr_v (ev_mv rfl) ?_
  refine gr_call (ec_func Tryz.call235 rfl) (c235 (4) (a) (2) F _ bb _ _ _ h h1) ?_
  rintro _ w1 ⟨rfl, hB1, hK1⟩
  refine gr_v (ev_as rfl) ?_
  refine gr_nil ?_
  refine gk_ret1 Tryz.results61 rfl ?_
  exact ⟨_, rfl, rfl, hB1, hK1⟩

theorem c64 (a : Nat) : BVal 64 [.int .i64 a] (startVectorV 4 a 4) := by
  rintro F w bb S r S' h hm
  have h1 := hm
  refine cr_enter Tryz.func64 rfl Tryz.ntmps64 ?_
  refine gk_seq ?_
  refine gk_region ?_
  refine gr_v (ev_as rfl) ?_
  refine gr_nil ?_
  refine gk_seq ?_
  refine gk_region ?_
  refine gr_v (ev_mv rfl) ?_
  refine gr_v (ev_mv rfl) ?_
  refine gr_call (ec_func Tryz.call235 rfl) (c235 (4) (a) (4) F _ bb _ _ _ h h1) ?_
  rintro _ w1 ⟨rfl, hB1, hK1⟩
  refine gr_v (ev_as rfl) ?_
  refine gr_nil ?_
  refine gk_ret1 Tryz.results64 rfl ?_
  exact ⟨_, rfl, rfl, hB1, hK1⟩

theorem c65 (a : Nat) : BVal 65 [.int .i64 a] (startVectorV 4 a 4) := by
  rintro F w bb S r S' h hm
  have h1 := hm
  refine cr_enter Tryz.func65 rfl Tryz.ntmps65 ?_
  refine gk_seq ?_
  refine gk_region ?_
  refine gr_v (ev_as rfl) ?_
  refine gr_nil ?_
  refine gk_seq ?_
  refine gk_region ?_
  refine gr_v (ev_mv rfl) ?_
  refine gr_v (ev_mv rfl) ?_
  refine gr_call (ec_func Tryz.call235 rfl) (c235 (4) (a) (4) F _ bb _ _ _ h h1) ?_
  rintro _ w1 ⟨rfl, hB1, hK1⟩
  refine gr_v (ev_as rfl) ?_
  refine gr_nil ?_
  refine gk_ret1 Tryz.results65 rfl ?_
  exact ⟨_, rfl, rfl, hB1, hK1⟩

theorem c67 (a : Nat) : BVal 67 [.int .i64 a] (startVectorV 1 a 1) := by
  rintro F w bb S r S' h hm
  have h1 := hm
  refine cr_enter Tryz.func67 rfl Tryz.ntmps67 ?_
  refine gk_seq ?_
  refine gk_region ?_
  refine gr_v (ev_as rfl) ?_
  refine gr_nil ?_
  refine gk_seq ?_
  refine gk_region ?_
  refine gr_v (ev_mv rfl) ?_
  refine gr_v (ev_mv rfl) ?_
  refine gr_call (ec_func Tryz.call235 rfl) (c235 (1) (a) (1) F _ bb _ _ _ h h1) ?_
  rintro _ w1 ⟨rfl, hB1, hK1⟩
  refine gr_v (ev_as rfl) ?_
  refine gr_nil ?_
  refine gk_ret1 Tryz.results67 rfl ?_
  exact ⟨_, rfl, rfl, hB1, hK1⟩

theorem c69 (a : Nat) : BVal 69 [.int .i64 a] (startVectorV 4 a 4) := by
  rintro F w bb S r S' h hm
  have h1 := hm
  refine cr_enter Tryz.func69 rfl Tryz.ntmps69 ?_
  refine gk_seq ?_
  refine gk_region ?_
  refine gr_v (ev_as rfl) ?_
  refine gr_nil ?_
  refine gk_seq ?_
  refine gk_region ?_
  refine gr_v (ev_mv rfl) ?_
  refine gr_v (ev_mv rfl) ?_
  refine gr_call (ec_func Tryz.call235 rfl) (c235 (4) (a) (4) F _ bb _ _ _ h h1) ?_
  rintro _ w1 ⟨rfl, hB1, hK1⟩
  refine gr_v (ev_as rfl) ?_
  refine gr_nil ?_
  refine gk_ret1 Tryz.results69 rfl ?_
  exact ⟨_, rfl, rfl, hB1, hK1⟩

theorem c70 (a : Nat) : BVal 70 [.int .i64 a] (startVectorV 8 a 4) := by
  rintro F w bb S r S' h hm
  have h1 := hm
  refine cr_enter Tryz.func70 rfl Tryz.ntmps70 ?_
  refine gk_seq ?_
  refine gk_region ?_
  refine gr_v (ev_as rfl) ?_
  refine gr_nil ?_
  refine gk_seq ?_
  refine gk_region ?_
  refine gr_v (ev_mv rfl) ?_
  refine gr_v (ev_mv rfl) ?_
  refine gr_call (ec_func Tryz.call235 rfl) (c235 (8) (a) (4) F _ bb _ _ _ h h1) ?_
  rintro _ w1 ⟨rfl, hB1, hK1⟩
  refine gr_v (ev_as rfl) ?_
  refine gr_nil ?_
  refine gk_ret1 Tryz.results70 rfl ?_
  exact ⟨_, rfl, rfl, hB1, hK1⟩

theorem c72 (a : Nat) : BVal 72 [.int .i64 a] (startVectorV 4 a 2) := by
  rintro F w bb S r S' h hm
  have h1 := hm
  refine cr_enter Tryz.func72 rfl Tryz.ntmps72 ?_
  refine gk_seq ?_
  refine gk_region ?_
  refine gr_v (ev_as rfl) ?_
  refine gr_nil ?_
  refine gk_seq ?_
  refine gk_region ?_
  refine gr_v (ev_mv rfl) ?_
  refine gr_v (ev_mv rfl) ?_
  refine gr_call (ec_func Tryz.call235 rfl) (c235 (4) (a) (2) F _ bb _ _ _ h h1) ?_
  rintro _ w1 ⟨rfl, hB1, hK1⟩
  refine gr_v (ev_as rfl) ?_
  refine gr_nil ?_
  refine gk_ret1 Tryz.results72 rfl ?_
  exact ⟨_, rfl, rfl, hB1, hK1⟩

theorem c73 (a : Nat) : BVal 73 [.int .i64 a] (startVectorV 8 a 8) := by
  rintro F w bb S r S' h hm
  have h1 := hm
  refine cr_enter Tryz.func73 rfl Tryz.ntmps73 ?_
  refine gk_seq ?_
  refine gk_region ?_
  refine gr_v (ev_as rfl) ?_
  refine gr_nil ?_
  refine gk_seq ?_
  refine gk_region ?_
  refine gr_v (ev_mv rfl) ?_
  refine gr_v (ev_mv rfl) ?_
  refine gr_call (ec_func Tryz.call235 rfl) (c235 (8) (a) (8) F _ bb _ _ _ h h1) ?_
  rintro _ w1 ⟨rfl, hB1, hK1⟩
  refine gr_v (ev_as rfl) ?_
  refine gr_nil ?_
  refine gk_ret1 Tryz.results73 rfl ?_
  exact ⟨_, rfl, rfl, hB1, hK1⟩

theorem c75 (a : Nat) : BVal 75 [.int .i64 a] (startVectorV 8 a 8) := by
  rintro F w bb S r S' h hm
  have h1 := hm
  refine cr_enter Tryz.func75 rfl Tryz.ntmps75 ?_
  refine gk_seq ?_
  refine gk_region ?_
  refine gr_v (ev_as rfl) ?_
  refine gr_nil ?_
  refine gk_seq ?_
  refine gk_region ?_
  refine gr_v (ev_mv rfl) ?_
  refine gr_v (ev_mv rfl) ?_
  refine gr_call (ec_func Tryz.call235 rfl) (c235 (8) (a) (8) F _ bb _ _ _ h h1) ?_
  rintro _ w1 ⟨rfl, hB1, hK1⟩
  refine gr_v (ev_as rfl) ?_
  refine gr_nil ?_
  refine gk_ret1 Tryz.results75 rfl ?_
  exact ⟨_, rfl, rfl, hB1, hK1⟩

theorem c79 (a : Nat) : BVal 79 [.int .i64 a] (startVectorV 4 a 4) := by
  rintro F w bb S r S' h hm
  have h1 := hm
  refine cr_enter Tryz.func79 rfl Tryz.ntmps79 ?_
  refine gk_seq ?_
  refine gk_region ?_
  refine gr_v (ev_as rfl) ?_
  refine gr_nil ?_
  refine gk_seq ?_
  refine gk_region ?_
  refine gr_v (ev_mv rfl) ?_
  refine gr_v (ev_mv rfl) ?_
  refine gr_call (ec_func Tryz.call235 rfl) (c235 (4) (a) (4) F _ bb _ _ _ h h1) ?_
  rintro _ w1 ⟨rfl, hB1, hK1⟩
  refine gr_v (ev_as rfl) ?_
  refine gr_nil ?_
  refine gk_ret1 Tryz.results79 rfl ?_
  exact ⟨_, rfl, rfl, hB1, hK1⟩

theorem c80 (a : Nat) : BVal 80 [.int .i64 a] (startVectorV 8 a 8) := by
  rintro F w bb S r S' h hm
  have h1 := hm
  refine cr_enter Tryz.func80 rfl Tryz.ntmps80 ?_
  refine gk_seq ?_
  refine gk_region ?_
  refine gr_v (ev_as rfl) ?_
  refine gr_nil ?_
  refine gk_seq ?_
  refine gk_region ?_
  refine gr_v (ev_mv rfl) ?_
  refine gr_v (ev_mv rfl) ?_
  refine gr_call (ec_func Tryz.call235 rfl) (c235 (8) (a) (8) F _ bb _ _ _ h h1) ?_
  rintro _ w1 ⟨rfl, hB1, hK1⟩
  refine gr_v (ev_as rfl) ?_
  refine gr_nil ?_
  refine gk_ret1 Tryz.results80 rfl ?_
  exact ⟨_, rfl, rfl, hB1, hK1⟩

theorem c82 (a : Nat) : BVal 82 [.int .i64 a] (startVectorV 4 a 4) := by
  rintro F w bb S r S' h hm
  have h1 := hm
  refine cr_enter Tryz.func82 rfl Tryz.ntmps82 ?_
  refine gk_seq ?_
  refine gk_region ?_
  refine gr_v (ev_as rfl) ?_
  refine gr_nil ?_
  refine gk_seq ?_
  refine gk_region ?_
  refine gr_v (ev_mv rfl) ?_
  refine gr_v (ev_mv rfl) ?_
  refine gr_call (ec_func Tryz.call235 rfl) (c235 (4) (a) (4) F _ bb _ _ _ h h1) ?_
  rintro _ w1 ⟨rfl, hB1, hK1⟩
  refine gr_v (ev_as rfl) ?_
  refine gr_nil ?_
  refine gk_ret1 Tryz.results82 rfl ?_
  exact ⟨_, rfl, rfl, hB1, hK1⟩

theorem c83 (a : Nat) : BVal 83 [.int .i64 a] (startVectorV 8 a 8) := by
  rintro F w bb S r S' h hm
  have h1 := hm
  refine cr_enter Tryz.func83 rfl Tryz.ntmps83 ?_
  refine gk_seq ?_
  refine gk_region ?_
  refine gr_v (ev_as rfl) ?_
  refine gr_nil ?_
  refine gk_seq ?_
  refine gk_region ?_
  refine gr_v (ev_mv rfl) ?_
  refine gr_v (ev_mv rfl) ?_
  refine gr_call (ec_func Tryz.call235 rfl) (c235 (8) (a) (8) F _ bb _ _ _ h h1) ?_
  rintro _ w1 ⟨rfl, hB1, hK1⟩
  refine gr_v (ev_as rfl) ?_
  refine gr_nil ?_
  refine gk_ret1 Tryz.results83 rfl ?_
  exact ⟨_, rfl, rfl, hB1, hK1⟩

theorem c84 (a : Nat) : BVal 84 [.int .i64 a] (startVectorV 8 a 8) := by
  rintro F w bb S r S' h hm
  have h1 := hm
  refine cr_enter Tryz.func84 rfl Tryz.ntmps84 ?_
  refine gk_seq ?_
  refine gk_region ?_
  refine gr_v (ev_as rfl) ?_
  refine gr_nil ?_
  refine gk_seq ?_
  refine gk_region ?_
  refine gr_v (ev_mv rfl) ?_
  refine gr_v (ev_mv rfl) ?_
  refine gr_call (ec_func Tryz.call235 rfl) (c235 (8) (a) (8) F _ bb _ _ _ h h1) ?_
  rintro _ w1 ⟨rfl, hB1, hK1⟩
  refine gr_v (ev_as rfl) ?_
  refine gr_nil ?_
  refine gk_ret1 Tryz.results84 rfl ?_
  exact ⟨_, rfl, rfl, hB1, hK1⟩

theorem c87 (a : Nat) : BVal 87 [.int .i64 a] (startVectorV 1 a 1) := by
  rintro F w bb S r S' h hm
  have h1 := hm
  refine cr_enter Tryz.func87 rfl Tryz.ntmps87 ?_
  refine gk_seq ?_
  refine gk_region ?_
  refine gr_v (ev_as rfl) ?_
  refine gr_nil ?_
  refine gk_seq ?_
  refine gk_region ?_
  refine gr_v (ev_mv rfl) ?_
  refine gr_v (ev_mv rfl) ?_
  refine gr_call (ec_func Tryz.call235 rfl) (c235 (1) (a) (1) F _ bb _ _ _ h h1) ?_
  rintro _ w1 ⟨rfl, hB1, hK1⟩
  refine gr_v (ev_as rfl) ?_
  refine gr_nil ?_
  refine gk_ret1 Tryz.results87 rfl ?_
  exact ⟨_, rfl, rfl, hB1, hK1⟩

theorem c89  : BOp 89 [] (startObject 49) := by
  rintro F w bb S S' h hm
  have h1 := hm
  refine cr_enter Tryz.func89 rfl Tryz.ntmps89 ?_
  refine gk_region ?_
  refine gr_v (ev_mv rfl) ?_
  refine gr_call (ec_func Tryz.call253 rfl) (c253 (49) (by decide) F _ bb _ _ h h1) ?_
  rintro _ w1 ⟨rfl, hB1, hK1⟩
  refine gr_nil ?_
  refine gk_end0 Tryz.results89 ?_
  exact ⟨_, rfl, rfl, hB1, hK1⟩

theorem c91 (a : Nat) : BOp 91 [U a] (structSlot 0 a 0) := by
  rintro F w bb S S' h hm
  have h1 := hm
  refine cr_enter Tryz.func91 rfl Tryz.ntmps91 ?_
  refine gk_region ?_
  refine gr_v (ev_mv rfl) ?_
  refine gr_v (ev_mv rfl) ?_
  refine gr_call (ec_func Tryz.call255 rfl) (c255 (0) (a) (0) F _ bb _ _ h h1) ?_
  rintro _ w1 ⟨rfl, hB1, hK1⟩
  refine gr_nil ?_
  refine gk_end0 Tryz.results91 ?_
  exact ⟨_, rfl, rfl, hB1, hK1⟩

theorem c92 (a : Int) : BOp 92 [.int .i16 a] (slotOp ((a : Int) != 150) (prepend 2 (le2 a)) 1) := by
  rintro F w bb S S' h hm
  have h1 := hm
  refine cr_enter Tryz.func92 rfl Tryz.ntmps92 ?_
  refine gk_region ?_
  refine gr_v (ev_mv rfl) ?_
  refine gr_v (ev_mv rfl) ?_
  refine gr_call (ec_func Tryz.call256 rfl) (c256 (1) (a) (150) F _ bb _ _ h h1) ?_
  rintro _ w1 ⟨rfl, hB1, hK1⟩
  refine gr_nil ?_
  refine gk_end0 Tryz.results92 ?_
  exact ⟨_, rfl, rfl, hB1, hK1⟩

theorem c93 (a : Int) : BOp 93 [.int .i16 a] (slotOp ((a : Int) != 100) (prepend 2 (le2 a)) 2) := by
  rintro F w bb S S' h hm
  have h1 := hm
  refine cr_enter Tryz.func93 rfl Tryz.ntmps93 ?_
  refine gk_region ?_
  refine gr_v (ev_mv rfl) ?_
  refine gr_v (ev_mv rfl) ?_
  refine gr_call (ec_func Tryz.call256 rfl) (c256 (2) (a) (100) F _ bb _ _ h h1) ?_
  rintro _ w1 ⟨rfl, hB1, hK1⟩
  refine gr_nil ?_
  refine gk_end0 Tryz.results93 ?_
  exact ⟨_, rfl, rfl, hB1, hK1⟩

theorem c94 (a : Nat) : BOp 94 [U a] (slotOp ((a : Int) != ((0 : Nat) : Int)) (prependU a) 3) := by
  rintro F w bb S S' h hm
  have h1 := hm
  refine cr_enter Tryz.func94 rfl Tryz.ntmps94 ?_
  refine gk_region ?_
  refine gr_v (ev_mv rfl) ?_
  refine gr_v (ev_mv rfl) ?_
  refine gr_call (ec_func Tryz.call257 rfl) (c257 (3) (a) (0) F _ bb _ _ h h1) ?_
  rintro _ w1 ⟨rfl, hB1, hK1⟩
  refine gr_nil ?_
  refine gk_end0 Tryz.results94 ?_
  exact ⟨_, rfl, rfl, hB1, hK1⟩

theorem c95 (a : Nat) : BOp 95 [U a] (slotOp ((a : Int) != ((0 : Nat) : Int)) (prependU a) 5) := by
  rintro F w bb S S' h hm
  have h1 := hm
  refine cr_enter Tryz.func95 rfl Tryz.ntmps95 ?_
  refine gk_region ?_
  refine gr_v (ev_mv rfl) ?_
  refine gr_v (ev_mv rfl) ?_
  refine gr_call (ec_func Tryz.call257 rfl) (c257 (5) (a) (0) F _ bb _ _ h h1) ?_
  rintro _ w1 ⟨rfl, hB1, hK1⟩
  refine gr_nil ?_
  refine gk_end0 Tryz.results95 ?_
  exact ⟨_, rfl, rfl, hB1, hK1⟩

theorem c96 (a : UInt8) : BOp 96 [B a] (slotOp (((a : UInt8).toNat : Int) != ((8 : UInt8).toNat : Int)) (prepend 1 [a]) 6) := by
  rintro F w bb S S' h hm
  have h1 := hm
  refine cr_enter Tryz.func96 rfl Tryz.ntmps96 ?_
  refine gk_region ?_
  refine gr_v (ev_mv rfl) ?_
  refine gr_v (ev_mv rfl) ?_
  refine gr_call (ec_func Tryz.call258 rfl) (c258 (6) (a) (8) F _ bb _ _ h h1) ?_
  rintro _ w1 ⟨rfl, hB1, hK1⟩
  refine gr_nil ?_
  refine gk_end0 Tryz.results96 ?_
  exact ⟨_, rfl, rfl, hB1, hK1⟩

theorem c97 (a : UInt8) : BOp 97 [B a] (slotOp (((a : UInt8).toNat : Int) != ((0 : UInt8).toNat : Int)) (prepend 1 [a]) 7) := by
  rintro F w bb S S' h hm
  have h1 := hm
  refine cr_enter Tryz.func97 rfl Tryz.ntmps97 ?_
  refine gk_region ?_
  refine gr_v (ev_mv rfl) ?_
  refine gr_v (ev_mv rfl) ?_
  refine gr_call (ec_func Tryz.call258 rfl) (c258 (7) (a) (0) F _ bb _ _ h h1) ?_
  rintro _ w1 ⟨rfl, hB1, hK1⟩
  refine gr_nil ?_
  refine gk_end0 Tryz.results97 ?_
  exact ⟨_, rfl, rfl, hB1, hK1⟩

theorem c98 (a : Nat) : BOp 98 [U a] (slotOp ((a : Int) != ((0 : Nat) : Int)) (prependU a) 8) := by
  rintro F w bb S S' h hm
  have h1 := hm
  refine cr_enter Tryz.func98 rfl Tryz.ntmps98 ?_
  refine gk_region ?_
  refine gr_v (ev_mv rfl) ?_
  refine gr_v (ev_mv rfl) ?_
  refine gr_call (ec_func Tryz.call257 rfl) (c257 (8) (a) (0) F _ bb _ _ h h1) ?_
  rintro _ w1 ⟨rfl, hB1, hK1⟩
  refine gr_nil ?_
  refine gk_end0 Tryz.results98 ?_
  exact ⟨_, rfl, rfl, hB1, hK1⟩

theorem c99 (a : Nat) : BOp 99 [U a] (slotOp ((a : Int) != ((0 : Nat) : Int)) (prependU a) 9) := by
  rintro F w bb S S' h hm
  have h1 := hm
  refine cr_enter Tryz.func99 rfl Tryz.ntmps99 ?_
  refine gk_region ?_
  refine gr_v (ev_mv rfl) ?_
  refine gr_v (ev_mv rfl) ?_
  refine gr_call (ec_func Tryz.call257 rfl) (c257 (9) (a) (0) F _ bb _ _ h h1) ?_
  rintro _ w1 ⟨rfl, hB1, hK1⟩
  refine gr_nil ?_
  refine gk_end0 Tryz.results99 ?_
  exact ⟨_, rfl, rfl, hB1, hK1⟩

theorem c100 (a : Nat) : BOp 100 [U a] (slotOp ((a : Int) != ((0 : Nat) : Int)) (prependU a) 10) := by
  rintro F w bb S S' h hm
  have h1 := hm
  refine cr_enter Tryz.func100 rfl Tryz.ntmps100 ?_
  refine gk_region ?_
  refine gr_v (ev_mv rfl) ?_
  refine gr_v (ev_mv rfl) ?_
  refine gr_call (ec_func Tryz.call257 rfl) (c257 (10) (a) (0) F _ bb _ _ h h1) ?_
  rintro _ w1 ⟨rfl, hB1, hK1⟩
  refine gr_nil ?_
  refine gk_end0 Tryz.results100 ?_
  exact ⟨_, rfl, rfl, hB1, hK1⟩

theorem c101 (a : Nat) : BOp 101 [U a] (slotOp ((a : Int) != ((0 : Nat) : Int)) (prependU a) 11) := by
  rintro F w bb S S' h hm
  have h1 := hm
  refine cr_enter Tryz.func101 rfl Tryz.ntmps101 ?_
  refine gk_region ?_
  refine gr_v (ev_mv rfl) ?_
  refine gr_v (ev_mv rfl) ?_
  refine gr_call (ec_func Tryz.call257 rfl) (c257 (11) (a) (0) F _ bb _ _ h h1) ?_
  rintro _ w1 ⟨rfl, hB1, hK1⟩
  refine gr_nil ?_
  refine gk_end0 Tryz.results101 ?_
  exact ⟨_, rfl, rfl, hB1, hK1⟩

theorem c102 (a : Nat) : BOp 102 [U a] (slotOp ((a : Int) != ((0 : Nat) : Int)) (prependU a) 12) := by
  rintro F w bb S S' h hm
  have h1 := hm
  refine cr_enter Tryz.func102 rfl Tryz.ntmps102 ?_
  refine gk_region ?_
  refine gr_v (ev_mv rfl) ?_
  refine gr_v (ev_mv rfl) ?_
  refine gr_call (ec_func Tryz.call257 rfl) (c257 (12) (a) (0) F _ bb _ _ h h1) ?_
  rintro _ w1 ⟨rfl, hB1, hK1⟩
  refine gr_nil ?_
  refine gk_end0 Tryz.results102 ?_
  exact ⟨_, rfl, rfl, hB1, hK1⟩

theorem c103 (a : Nat) : BOp 103 [U a] (slotOp ((a : Int) != ((0 : Nat) : Int)) (prependU a) 13) := by
  rintro F w bb S S' h hm
  have h1 := hm
  refine cr_enter Tryz.func103 rfl Tryz.ntmps103 ?_
  refine gk_region ?_
  refine gr_v (ev_mv rfl) ?_
  refine gr_v (ev_mv rfl) ?_
  refine gr_call (ec_func Tryz.call257 rfl) (c257 (13) (a) (0) F _ bb _ _ h h1) ?_
  rintro _ w1 ⟨rfl, hB1, hK1⟩
  refine gr_nil ?_
  refine gk_end0 Tryz.results103 ?_
  exact ⟨_, rfl, rfl, hB1, hK1⟩

theorem c104 (a : Nat) : BOp 104 [U a] (slotOp ((a : Int) != ((0 : Nat) : Int)) (prependU a) 14) := by
  rintro F w bb S S' h hm
  have h1 := hm
  refine cr_enter Tryz.func104 rfl Tryz.ntmps104 ?_
  refine gk_region ?_
  refine gr_v (ev_mv rfl) ?_
  refine gr_v (ev_mv rfl) ?_
  refine gr_call (ec_func Tryz.call257 rfl) (c257 (14) (a) (0) F _ bb _ _ h h1) ?_
  rintro _ w1 ⟨rfl, hB1, hK1⟩
  refine gr_nil ?_
  refine gk_end0 Tryz.results104 ?_
  exact ⟨_, rfl, rfl, hB1, hK1⟩

theorem c105 (a : Bool) : BOp 105 [.bool a] (slotOp (((bb1 a).toNat : Int) != ((bb1 false).toNat : Int)) (prepend 1 [bb1 a]) 15) := by
  rintro F w bb S S' h hm
  have h1 := hm
  refine cr_enter Tryz.func105 rfl Tryz.ntmps105 ?_
  refine gk_region ?_
  refine gr_v (ev_mv rfl) ?_
  refine gr_v (ev_mv rfl) ?_
  refine gr_call (ec_func Tryz.call259 rfl) (c259 (15) (a) (false) F _ bb _ _ h h1) ?_
  rintro _ w1 ⟨rfl, hB1, hK1⟩
  refine gr_nil ?_
  refine gk_end0 Tryz.results105 ?_
  exact ⟨_, rfl, rfl, hB1, hK1⟩

theorem c106 (a : Int) : BOp 106 [.int .i32 a] (slotOp ((a : Int) != 0) (prepend 4 (le4 a)) 16) := by
  rintro F w bb S S' h hm
  have h1 := hm
  refine cr_enter Tryz.func106 rfl Tryz.ntmps106 ?_
  refine gk_region ?_
  refine gr_v (ev_mv rfl) ?_
  refine gr_v (ev_mv rfl) ?_
  refine gr_call (ec_func Tryz.call260 rfl) (c260 (16) (a) (0) F _ bb _ _ h h1) ?_
  rintro _ w1 ⟨rfl, hB1, hK1⟩
  refine gr_nil ?_
  refine gk_end0 Tryz.results106 ?_
  exact ⟨_, rfl, rfl, hB1, hK1⟩

theorem c107 (a : Int) : BOp 107 [.int .u32 a] (slotOp ((a : Int) != 0) (prepend 4 (le4 a)) 17) := by
  rintro F w bb S S' h hm
  have h1 := hm
  refine cr_enter Tryz.func107 rfl Tryz.ntmps107 ?_
  refine gk_region ?_
  refine gr_v (ev_mv rfl) ?_
  refine gr_v (ev_mv rfl) ?_
  refine gr_call (ec_func Tryz.call261 rfl) (c261 (17) (a) (0) F _ bb _ _ h h1) ?_
  rintro _ w1 ⟨rfl, hB1, hK1⟩
  refine gr_nil ?_
  refine gk_end0 Tryz.results107 ?_
  exact ⟨_, rfl, rfl, hB1, hK1⟩

theorem c108 (a : Int) : BOp 108 [.int .i64 a] (slotOp ((a : Int) != 0) (prepend 8 (le8 a)) 18) := by
  rintro F w bb S S' h hm
  have h1 := hm
  refine cr_enter Tryz.func108 rfl Tryz.ntmps108 ?_
  refine gk_region ?_
  refine gr_v (ev_mv rfl) ?_
  refine gr_v (ev_mv rfl) ?_
  refine gr_call (ec_func Tryz.call262 rfl) (c262 (18) (a) (0) F _ bb _ _ h h1) ?_
  rintro _ w1 ⟨rfl, hB1, hK1⟩
  refine gr_nil ?_
  refine gk_end0 Tryz.results108 ?_
  exact ⟨_, rfl, rfl, hB1, hK1⟩

theorem c109 (a : Int) : BOp 109 [.int .u64 a] (slotOp ((a : Int) != 0) (prepend 8 (le8 a)) 19) := by
  rintro F w bb S S' h hm
  have h1 := hm
  refine cr_enter Tryz.func109 rfl Tryz.ntmps109 ?_
  refine gk_region ?_
  refine gr_v (ev_mv rfl) ?_
  refine gr_v (ev_mv rfl) ?_
  refine gr_call (ec_func Tryz.call263 rfl) (c263 (19) (a) (0) F _ bb _ _ h h1) ?_
  rintro _ w1 ⟨rfl, hB1, hK1⟩
  refine gr_nil ?_
  refine gk_end0 Tryz.results109 ?_
  exact ⟨_, rfl, rfl, hB1, hK1⟩

theorem c110 (a : Int) : BOp 110 [.int .i32 a] (slotOp ((a : Int) != 0) (prepend 4 (le4 a)) 20) := by
  rintro F w bb S S' h hm
  have h1 := hm
  refine cr_enter Tryz.func110 rfl Tryz.ntmps110 ?_
  refine gk_region ?_
  refine gr_v (ev_mv rfl) ?_
  refine gr_v (ev_mv rfl) ?_
  refine gr_call (ec_func Tryz.call260 rfl) (c260 (20) (a) (0) F _ bb _ _ h h1) ?_
  rintro _ w1 ⟨rfl, hB1, hK1⟩
  refine gr_nil ?_
  refine gk_end0 Tryz.results110 ?_
  exact ⟨_, rfl, rfl, hB1, hK1⟩

theorem c111 (a : Int) : BOp 111 [.int .u32 a] (slotOp ((a : Int) != 0) (prepend 4 (le4 a)) 21) := by
  rintro F w bb S S' h hm
  have h1 := hm
  refine cr_enter Tryz.func111 rfl Tryz.ntmps111 ?_
  refine gk_region ?_
  refine gr_v (ev_mv rfl) ?_
  refine gr_v (ev_mv rfl) ?_
  refine gr_call (ec_func Tryz.call261 rfl) (c261 (21) (a) (0) F _ bb _ _ h h1) ?_
  rintro _ w1 ⟨rfl, hB1, hK1⟩
  refine gr_nil ?_
  refine gk_end0 Tryz.results111 ?_
  exact ⟨_, rfl, rfl, hB1, hK1⟩

theorem c112 (a : Int) : BOp 112 [.int .i64 a] (slotOp ((a : Int) != 0) (prepend 8 (le8 a)) 22) := by
  rintro F w bb S S' h hm
  have h1 := hm
  refine cr_enter Tryz.func112 rfl Tryz.ntmps112 ?_
  refine gk_region ?_
  refine gr_v (ev_mv rfl) ?_
  refine gr_v (ev_mv rfl) ?_
  refine gr_call (ec_func Tryz.call262 rfl) (c262 (22) (a) (0) F _ bb _ _ h h1) ?_
  rintro _ w1 ⟨rfl, hB1, hK1⟩
  refine gr_nil ?_
  refine gk_end0 Tryz.results112 ?_
  exact ⟨_, rfl, rfl, hB1, hK1⟩

theorem c113 (a : Int) : BOp 113 [.int .u64 a] (slotOp ((a : Int) != 0) (prepend 8 (le8 a)) 23) := by
  rintro F w bb S S' h hm
  have h1 := hm
  refine cr_enter Tryz.func113 rfl Tryz.ntmps113 ?_
  refine gk_region ?_
  refine gr_v (ev_mv rfl) ?_
  refine gr_v (ev_mv rfl) ?_
  refine gr_call (ec_func Tryz.call263 rfl) (c263 (23) (a) (0) F _ bb _ _ h h1) ?_
  rintro _ w1 ⟨rfl, hB1, hK1⟩
  refine gr_nil ?_
  refine gk_end0 Tryz.results113 ?_
  exact ⟨_, rfl, rfl, hB1, hK1⟩

theorem c114 (a : Nat) : BOp 114 [U a] (slotOp ((a : Int) != ((0 : Nat) : Int)) (prependU a) 24) := by
  rintro F w bb S S' h hm
  have h1 := hm
  refine cr_enter Tryz.func114 rfl Tryz.ntmps114 ?_
  refine gk_region ?_
  refine gr_v (ev_mv rfl) ?_
  refine gr_v (ev_mv rfl) ?_
  refine gr_call (ec_func Tryz.call257 rfl) (c257 (24) (a) (0) F _ bb _ _ h h1) ?_
  rintro _ w1 ⟨rfl, hB1, hK1⟩
  refine gr_nil ?_
  refine gk_end0 Tryz.results114 ?_
  exact ⟨_, rfl, rfl, hB1, hK1⟩

theorem c115 (a : Nat) : BOp 115 [.float .f32 a] (slotOp (fne .f32 a 1078530000) (prepend 4 (le4 a)) 25) := by
  rintro F w bb S S' h hm
  have h1 := hm
  refine cr_enter Tryz.func115 rfl Tryz.ntmps115 ?_
  refine gk_region ?_
  refine gr_v (ev_mv rfl) ?_
  refine gr_v (ev_mv rfl) ?_
  refine gr_call (ec_func Tryz.call264 rfl) (c264 (25) (a) (1078530000) F _ bb _ _ h h1) ?_
  rintro _ w1 ⟨rfl, hB1, hK1⟩
  refine gr_nil ?_
  refine gk_end0 Tryz.results115 ?_
  exact ⟨_, rfl, rfl, hB1, hK1⟩

theorem c116 (a : Nat) : BOp 116 [.float .f32 a] (slotOp (fne .f32 a 1077936128) (prepend 4 (le4 a)) 26) := by
  rintro F w bb S S' h hm
  have h1 := hm
  refine cr_enter Tryz.func116 rfl Tryz.ntmps116 ?_
  refine gk_region ?_
  refine gr_v (ev_mv rfl) ?_
  refine gr_v (ev_mv rfl) ?_
  refine gr_call (ec_func Tryz.call264 rfl) (c264 (26) (a) (1077936128) F _ bb _ _ h h1) ?_
  rintro _ w1 ⟨rfl, hB1, hK1⟩
  refine gr_nil ?_
  refine gk_end0 Tryz.results116 ?_
  exact ⟨_, rfl, rfl, hB1, hK1⟩

theorem c117 (a : Nat) : BOp 117 [.float .f32 a] (slotOp (fne .f32 a 0) (prepend 4 (le4 a)) 27) := by
  rintro F w bb S S' h hm
  have h1 := hm
  refine cr_enter Tryz.func117 rfl Tryz.ntmps117 ?_
  refine gk_region ?_
  refine gr_v (ev_mv rfl) ?_
  refine gr_v (ev_mv rfl) ?_
  refine gr_call (ec_func Tryz.call264 rfl) (c264 (27) (a) (0) F _ bb _ _ h h1) ?_
  rintro _ w1 ⟨rfl, hB1, hK1⟩
  refine gr_nil ?_
  refine gk_end0 Tryz.results117 ?_
  exact ⟨_, rfl, rfl, hB1, hK1⟩

theorem c118 (a : Nat) : BOp 118 [U a] (slotOp ((a : Int) != ((0 : Nat) : Int)) (prependU a) 28) := by
  rintro F w bb S S' h hm
  have h1 := hm
  refine cr_enter Tryz.func118 rfl Tryz.ntmps118 ?_
  refine gk_region ?_
  refine gr_v (ev_mv rfl) ?_
  refine gr_v (ev_mv rfl) ?_
  refine gr_call (ec_func Tryz.call257 rfl) (c257 (28) (a) (0) F _ bb _ _ h h1) ?_
  rintro _ w1 ⟨rfl, hB1, hK1⟩
  refine gr_nil ?_
  refine gk_end0 Tryz.results118 ?_
  exact ⟨_, rfl, rfl, hB1, hK1⟩

theorem c119 (a : Nat) : BOp 119 [U a] (slotOp ((a : Int) != ((0 : Nat) : Int)) (prependU a) 29) := by
  rintro F w bb S S' h hm
  have h1 := hm
  refine cr_enter Tryz.func119 rfl Tryz.ntmps119 ?_
  refine gk_region ?_
  refine gr_v (ev_mv rfl) ?_
  refine gr_v (ev_mv rfl) ?_
  refine gr_call (ec_func Tryz.call257 rfl) (c257 (29) (a) (0) F _ bb _ _ h h1) ?_
  rintro _ w1 ⟨rfl, hB1, hK1⟩
  refine gr_nil ?_
  refine gk_end0 Tryz.results119 ?_
  exact ⟨_, rfl, rfl, hB1, hK1⟩

theorem c120 (a : Nat) : BOp 120 [U a] (slotOp ((a : Int) != ((0 : Nat) : Int)) (prependU a) 30) := by
  rintro F w bb S S' h hm
  have h1 := hm
  refine cr_enter Tryz.func120 rfl Tryz.ntmps120 ?_
  refine gk_region ?_
  refine gr_v (ev_mv rfl) ?_
  refine gr_v (ev_mv rfl) ?_
  refine gr_call (ec_func Tryz.call257 rfl) (c257 (30) (a) (0) F _ bb _ _ h h1) ?_
  rintro _ w1 ⟨rfl, hB1, hK1⟩
  refine gr_nil ?_
  refine gk_end0 Tryz.results120 ?_
  exact ⟨_, rfl, rfl, hB1, hK1⟩

theorem c121 (a : Nat) : BOp 121 [U a] (slotOp ((a : Int) != ((0 : Nat) : Int)) (prependU a) 31) := by
  rintro F w bb S S' h hm
  have h1 := hm
  refine cr_enter Tryz.func121 rfl Tryz.ntmps121 ?_
  refine gk_region ?_
  refine gr_v (ev_mv rfl) ?_
  refine gr_v (ev_mv rfl) ?_
  refine gr_call (ec_func Tryz.call257 rfl) (c257 (31) (a) (0) F _ bb _ _ h h1) ?_
  rintro _ w1 ⟨rfl, hB1, hK1⟩
  refine gr_nil ?_
  refine gk_end0 Tryz.results121 ?_
  exact ⟨_, rfl, rfl, hB1, hK1⟩

theorem c122 (a : Nat) : BOp 122 [U a] (slotOp ((a : Int) != ((0 : Nat) : Int)) (prependU a) 32) := by
  rintro F w bb S S' h hm
  have h1 := hm
  refine cr_enter Tryz.func122 rfl Tryz.ntmps122 ?_
  refine gk_region ?_
  refine gr_v (ev_mv rfl) ?_
  refine gr_v (ev_mv rfl) ?_
  refine gr_call (ec_func Tryz.call257 rfl) (c257 (32) (a) (0) F _ bb _ _ h h1) ?_
  rintro _ w1 ⟨rfl, hB1, hK1⟩
  refine gr_nil ?_
  refine gk_end0 Tryz.results122 ?_
  exact ⟨_, rfl, rfl, hB1, hK1⟩

theorem c123 (a : Nat) : BOp 123 [U a] (slotOp ((a : Int) != ((0 : Nat) : Int)) (prependU a) 33) := by
  rintro F w bb S S' h hm
  have h1 := hm
  refine cr_enter Tryz.func123 rfl Tryz.ntmps123 ?_
  refine gk_region ?_
  refine gr_v (ev_mv rfl) ?_
  refine gr_v (ev_mv rfl) ?_
  refine gr_call (ec_func Tryz.call257 rfl) (c257 (33) (a) (0) F _ bb _ _ h h1) ?_
  rintro _ w1 ⟨rfl, hB1, hK1⟩
  refine gr_nil ?_
  refine gk_end0 Tryz.results123 ?_
  exact ⟨_, rfl, rfl, hB1, hK1⟩

theorem c124 (a : Nat) : BOp 124 [U a] (slotOp ((a : Int) != ((0 : Nat) : Int)) (prependU a) 34) := by
  rintro F w bb S S' h hm
  have h1 := hm
  refine cr_enter Tryz.func124 rfl Tryz.ntmps124 ?_
  refine gk_region ?_
  refine gr_v (ev_mv rfl) ?_
  refine gr_v (ev_mv rfl) ?_
  refine gr_call (ec_func Tryz.call257 rfl) (c257 (34) (a) (0) F _ bb _ _ h h1) ?_
  rintro _ w1 ⟨rfl, hB1, hK1⟩
  refine gr_nil ?_
  refine gk_end0 Tryz.results124 ?_
  exact ⟨_, rfl, rfl, hB1, hK1⟩

theorem c125 (a : Nat) : BOp 125 [U a] (slotOp ((a : Int) != ((0 : Nat) : Int)) (prependU a) 35) := by
  rintro F w bb S S' h hm
  have h1 := hm
  refine cr_enter Tryz.func125 rfl Tryz.ntmps125 ?_
  refine gk_region ?_
  refine gr_v (ev_mv rfl) ?_
  refine gr_v (ev_mv rfl) ?_
  refine gr_call (ec_func Tryz.call257 rfl) (c257 (35) (a) (0) F _ bb _ _ h h1) ?_
  rintro _ w1 ⟨rfl, hB1, hK1⟩
  refine gr_nil ?_
  refine gk_end0 Tryz.results125 ?_
  exact ⟨_, rfl, rfl, hB1, hK1⟩

theorem c126 (a : Int) : BOp 126 [.int .u64 a] (slotOp ((a : Int) != 0) (prepend 8 (le8 a)) 36) := by
  rintro F w bb S S' h hm
  have h1 := hm
  refine cr_enter Tryz.func126 rfl Tryz.ntmps126 ?_
  refine gk_region ?_
  refine gr_v (ev_mv rfl) ?_
  refine gr_v (ev_mv rfl) ?_
  refine gr_call (ec_func Tryz.call263 rfl) (c263 (36) (a) (0) F _ bb _ _ h h1) ?_
  rintro _ w1 ⟨rfl, hB1, hK1⟩
  refine gr_nil ?_
  refine gk_end0 Tryz.results126 ?_
  exact ⟨_, rfl, rfl, hB1, hK1⟩

theorem c127 (a : Nat) : BOp 127 [U a] (slotOp ((a : Int) != ((0 : Nat) : Int)) (prependU a) 37) := by
  rintro F w bb S S' h hm
  have h1 := hm
  refine cr_enter Tryz.func127 rfl Tryz.ntmps127 ?_
  refine gk_region ?_
  refine gr_v (ev_mv rfl) ?_
  refine gr_v (ev_mv rfl) ?_
  refine gr_call (ec_func Tryz.call257 rfl) (c257 (37) (a) (0) F _ bb _ _ h h1) ?_
  rintro _ w1 ⟨rfl, hB1, hK1⟩
  refine gr_nil ?_
  refine gk_end0 Tryz.results127 ?_
  exact ⟨_, rfl, rfl, hB1, hK1⟩

theorem c128 (a : Nat) : BOp 128 [U a] (slotOp ((a : Int) != ((0 : Nat) : Int)) (prependU a) 38) := by
  rintro F w bb S S' h hm
  have h1 := hm
  refine cr_enter Tryz.func128 rfl Tryz.ntmps128 ?_
  refine gk_region ?_
  refine gr_v (ev_mv rfl) ?_
  refine gr_v (ev_mv rfl) ?_
  refine gr_call (ec_func Tryz.call257 rfl) (c257 (38) (a) (0) F _ bb _ _ h h1) ?_
  rintro _ w1 ⟨rfl, hB1, hK1⟩
  refine gr_nil ?_
  refine gk_end0 Tryz.results128 ?_
  exact ⟨_, rfl, rfl, hB1, hK1⟩

theorem c129 (a : Int) : BOp 129 [.int .u64 a] (slotOp ((a : Int) != 0) (prepend 8 (le8 a)) 39) := by
  rintro F w bb S S' h hm
  have h1 := hm
  refine cr_enter Tryz.func129 rfl Tryz.ntmps129 ?_
  refine gk_region ?_
  refine gr_v (ev_mv rfl) ?_
  refine gr_v (ev_mv rfl) ?_
  refine gr_call (ec_func Tryz.call263 rfl) (c263 (39) (a) (0) F _ bb _ _ h h1) ?_
  rintro _ w1 ⟨rfl, hB1, hK1⟩
  refine gr_nil ?_
  refine gk_end0 Tryz.results129 ?_
  exact ⟨_, rfl, rfl, hB1, hK1⟩

theorem c130 (a : Nat) : BOp 130 [U a] (slotOp ((a : Int) != ((0 : Nat) : Int)) (prependU a) 40) := by
  rintro F w bb S S' h hm
  have h1 := hm
  refine cr_enter Tryz.func130 rfl Tryz.ntmps130 ?_
  refine gk_region ?_
  refine gr_v (ev_mv rfl) ?_
  refine gr_v (ev_mv rfl) ?_
  refine gr_call (ec_func Tryz.call257 rfl) (c257 (40) (a) (0) F _ bb _ _ h h1) ?_
  rintro _ w1 ⟨rfl, hB1, hK1⟩
  refine gr_nil ?_
  refine gk_end0 Tryz.results130 ?_
  exact ⟨_, rfl, rfl, hB1, hK1⟩

theorem c131 (a : Int) : BOp 131 [.int .u64 a] (slotOp ((a : Int) != 0) (prepend 8 (le8 a)) 41) := by
  rintro F w bb S S' h hm
  have h1 := hm
  refine cr_enter Tryz.func131 rfl Tryz.ntmps131 ?_
  refine gk_region ?_
  refine gr_v (ev_mv rfl) ?_
  refine gr_v (ev_mv rfl) ?_
  refine gr_call (ec_func Tryz.call263 rfl) (c263 (41) (a) (0) F _ bb _ _ h h1) ?_
  rintro _ w1 ⟨rfl, hB1, hK1⟩
  refine gr_nil ?_
  refine gk_end0 Tryz.results131 ?_
  exact ⟨_, rfl, rfl, hB1, hK1⟩

theorem c132 (a : Nat) : BOp 132 [U a] (slotOp ((a : Int) != ((0 : Nat) : Int)) (prependU a) 42) := by
  rintro F w bb S S' h hm
  have h1 := hm
  refine cr_enter Tryz.func132 rfl Tryz.ntmps132 ?_
  refine gk_region ?_
  refine gr_v (ev_mv rfl) ?_
  refine gr_v (ev_mv rfl) ?_
  refine gr_call (ec_func Tryz.call257 rfl) (c257 (42) (a) (0) F _ bb _ _ h h1) ?_
  rintro _ w1 ⟨rfl, hB1, hK1⟩
  refine gr_nil ?_
  refine gk_end0 Tryz.results132 ?_
  exact ⟨_, rfl, rfl, hB1, hK1⟩

theorem c133 (a : UInt8) : BOp 133 [B a] (slotOp (((a : UInt8).toNat : Int) != ((0 : UInt8).toNat : Int)) (prepend 1 [a]) 43) := by
  rintro F w bb S S' h hm
  have h1 := hm
  refine cr_enter Tryz.func133 rfl Tryz.ntmps133 ?_
  refine gk_region ?_
  refine gr_v (ev_mv rfl) ?_
  refine gr_v (ev_mv rfl) ?_
  refine gr_call (ec_func Tryz.call258 rfl) (c258 (43) (a) (0) F _ bb _ _ h h1) ?_
  rintro _ w1 ⟨rfl, hB1, hK1⟩
  refine gr_nil ?_
  refine gk_end0 Tryz.results133 ?_
  exact ⟨_, rfl, rfl, hB1, hK1⟩

theorem c134 (a : Nat) : BOp 134 [U a] (slotOp ((a : Int) != ((0 : Nat) : Int)) (prependU a) 44) := by
  rintro F w bb S S' h hm
  have h1 := hm
  refine cr_enter Tryz.func134 rfl Tryz.ntmps134 ?_
  refine gk_region ?_
  refine gr_v (ev_mv rfl) ?_
  refine gr_v (ev_mv rfl) ?_
  refine gr_call (ec_func Tryz.call257 rfl) (c257 (44) (a) (0) F _ bb _ _ h h1) ?_
  rintro _ w1 ⟨rfl, hB1, hK1⟩
  refine gr_nil ?_
  refine gk_end0 Tryz.results134 ?_
  exact ⟨_, rfl, rfl, hB1, hK1⟩

theorem c135 (a : UInt8) : BOp 135 [B a] (slotOp (((a : UInt8).toNat : Int) != ((0 : UInt8).toNat : Int)) (prepend 1 [a]) 45) := by
  rintro F w bb S S' h hm
  have h1 := hm
  refine cr_enter Tryz.func135 rfl Tryz.ntmps135 ?_
  refine gk_region ?_
  refine gr_v (ev_mv rfl) ?_
  refine gr_v (ev_mv rfl) ?_
  refine gr_call (ec_func Tryz.call258 rfl) (c258 (45) (a) (0) F _ bb _ _ h h1) ?_
  rintro _ w1 ⟨rfl, hB1, hK1⟩
  refine gr_nil ?_
  refine gk_end0 Tryz.results135 ?_
  exact ⟨_, rfl, rfl, hB1, hK1⟩

theorem c136 (a : Nat) : BOp 136 [U a] (slotOp ((a : Int) != ((0 : Nat) : Int)) (prependU a) 46) := by
  rintro F w bb S S' h hm
  have h1 := hm
  refine cr_enter Tryz.func136 rfl Tryz.ntmps136 ?_
  refine gk_region ?_
  refine gr_v (ev_mv rfl) ?_
  refine gr_v (ev_mv rfl) ?_
  refine gr_call (ec_func Tryz.call257 rfl) (c257 (46) (a) (0) F _ bb _ _ h h1) ?_
  rintro _ w1 ⟨rfl, hB1, hK1⟩
  refine gr_nil ?_
  refine gk_end0 Tryz.results136 ?_
  exact ⟨_, rfl, rfl, hB1, hK1⟩

theorem c137 (a : Nat) : BOp 137 [U a] (slotOp ((a : Int) != ((0 : Nat) : Int)) (prependU a) 47) := by
  rintro F w bb S S' h hm
  have h1 := hm
  refine cr_enter Tryz.func137 rfl Tryz.ntmps137 ?_
  refine gk_region ?_
  refine gr_v (ev_mv rfl) ?_
  refine gr_v (ev_mv rfl) ?_
  refine gr_call (ec_func Tryz.call257 rfl) (c257 (47) (a) (0) F _ bb _ _ h h1) ?_
  rintro _ w1 ⟨rfl, hB1, hK1⟩
  refine gr_nil ?_
  refine gk_end0 Tryz.results137 ?_
  exact ⟨_, rfl, rfl, hB1, hK1⟩

theorem c138 (a : Int) : BOp 138 [.int .i8 a] (slotOp ((a : Int) != (-1)) (prepend 1 [lb a]) 48) := by
  rintro F w bb S S' h hm
  have h1 := hm
  refine cr_enter Tryz.func138 rfl Tryz.ntmps138 ?_
  refine gk_region ?_
  refine gr_v (ev_mv rfl) ?_
  refine gr_v (ev_mv rfl) ?_
  refine gr_call (ec_func Tryz.call265 rfl) (c265 (48) (a) ((-1)) F _ bb _ _ h h1) ?_
  rintro _ w1 ⟨rfl, hB1, hK1⟩
  refine gr_nil ?_
  refine gk_end0 Tryz.results138 ?_
  exact ⟨_, rfl, rfl, hB1, hK1⟩

theorem c139  : BVal 139 [] (endObject) := by
  rintro F w bb S r S' h hm
  have h1 := hm
  refine cr_enter Tryz.func139 rfl Tryz.ntmps139 ?_
  refine gk_seq ?_
  refine gk_region ?_
  refine gr_v (ev_as rfl) ?_
  refine gr_nil ?_
  refine gk_seq ?_
  refine gk_region ?_
  refine gr_v (ev_mv rfl) ?_
  refine gr_call (ec_func Tryz.call266 rfl) (c266  F _ bb _ _ _ h h1) ?_
  rintro _ w1 ⟨rfl, hB1, hK1⟩
  refine gr_v (ev_as rfl) ?_
  refine gr_nil ?_
  refine gk_ret1 Tryz.results139 rfl ?_
  exact ⟨_, rfl, rfl, hB1, hK1⟩

theorem c238  : BOp 238 [] (startObject 3) := by
  rintro F w bb S S' h hm
  have h1 := hm
  refine cr_enter Tryz.func238 rfl Tryz.ntmps238 ?_
  refine gk_region ?_
  refine gr_v (ev_mv rfl) ?_
  refine gr_call (ec_func Tryz.call253 rfl) (c253 (3) (by decide) F _ bb _ _ h h1) ?_
  rintro _ w1 ⟨rfl, hB1, hK1⟩
  refine gr_nil ?_
  refine gk_end0 Tryz.results238 ?_
  exact ⟨_, rfl, rfl, hB1, hK1⟩

theorem c239 (a : Nat) : BOp 239 [U a] (slotOp ((a : Int) != ((0 : Nat) : Int)) (prependU a) 0) := by
  rintro F w bb S S' h hm
  have h1 := hm
  refine cr_enter Tryz.func239 rfl Tryz.ntmps239 ?_
  refine gk_region ?_
  refine gr_v (ev_mv rfl) ?_
  refine gr_v (ev_mv rfl) ?_
  refine gr_call (ec_func Tryz.call257 rfl) (c257 (0) (a) (0) F _ bb _ _ h h1) ?_
  rintro _ w1 ⟨rfl, hB1, hK1⟩
  refine gr_nil ?_
  refine gk_end0 Tryz.results239 ?_
  exact ⟨_, rfl, rfl, hB1, hK1⟩

theorem c240 (a : Int) : BOp 240 [.int .i64 a] (slotOp ((a : Int) != 0) (prepend 8 (le8 a)) 1) := by
  rintro F w bb S S' h hm
  have h1 := hm
  refine cr_enter Tryz.func240 rfl Tryz.ntmps240 ?_
  refine gk_region ?_
  refine gr_v (ev_mv rfl) ?_
  refine gr_v (ev_mv rfl) ?_
  refine gr_call (ec_func Tryz.call262 rfl) (c262 (1) (a) (0) F _ bb _ _ h h1) ?_
  rintro _ w1 ⟨rfl, hB1, hK1⟩
  refine gr_nil ?_
  refine gk_end0 Tryz.results240 ?_
  exact ⟨_, rfl, rfl, hB1, hK1⟩

theorem c241 (a : Int) : BOp 241 [.int .u16 a] (slotOp ((a : Int) != 0) (prepend 2 (le2 a)) 2) := by
  rintro F w bb S S' h hm
  have h1 := hm
  refine cr_enter Tryz.func241 rfl Tryz.ntmps241 ?_
  refine gk_region ?_
  refine gr_v (ev_mv rfl) ?_
  refine gr_v (ev_mv rfl) ?_
  refine gr_call (ec_func Tryz.call303 rfl) (c303 (2) (a) (0) F _ bb _ _ h h1) ?_
  rintro _ w1 ⟨rfl, hB1, hK1⟩
  refine gr_nil ?_
  refine gk_end0 Tryz.results241 ?_
  exact ⟨_, rfl, rfl, hB1, hK1⟩

theorem c242  : BVal 242 [] (endObject) := by
  rintro F w bb S r S' h hm
  have h1 := hm
  refine cr_enter Tryz.func242 rfl Tryz.ntmps242 ?_
  refine gk_seq ?_
  refine gk_region ?_
  refine gr_v (ev_as rfl) ?_
  refine gr_nil ?_
  refine gk_seq ?_
  refine gk_region ?_
  refine gr_v (ev_mv rfl) ?_
  refine gr_call (ec_func Tryz.call266 rfl) (c266  F _ bb _ _ _ h h1) ?_
  rintro _ w1 ⟨rfl, hB1, hK1⟩
  refine gr_v (ev_as rfl) ?_
  refine gr_nil ?_
  refine gk_ret1 Tryz.results242 rfl ?_
  exact ⟨_, rfl, rfl, hB1, hK1⟩

theorem c247  : BOp 247 [] (startObject 0) := by
  rintro F w bb S S' h hm
  have h1 := hm
  refine cr_enter Tryz.func247 rfl Tryz.ntmps247 ?_
  refine gk_region ?_
  refine gr_v (ev_mv rfl) ?_
  refine gr_call (ec_func Tryz.call253 rfl) (c253 (0) (by decide) F _ bb _ _ h h1) ?_
  rintro _ w1 ⟨rfl, hB1, hK1⟩
  refine gr_nil ?_
  refine gk_end0 Tryz.results247 ?_
  exact ⟨_, rfl, rfl, hB1, hK1⟩

theorem c248  : BVal 248 [] (endObject) := by
  rintro F w bb S r S' h hm
  have h1 := hm
  refine cr_enter Tryz.func248 rfl Tryz.ntmps248 ?_
  refine gk_seq ?_
  refine gk_region ?_
  refine gr_v (ev_as rfl) ?_
  refine gr_nil ?_
  refine gk_seq ?_
  refine gk_region ?_
  refine gr_v (ev_mv rfl) ?_
  refine gr_call (ec_func Tryz.call266 rfl) (c266  F _ bb _ _ _ h h1) ?_
  rintro _ w1 ⟨rfl, hB1, hK1⟩
  refine gr_v (ev_as rfl) ?_
  refine gr_nil ?_
  refine gk_ret1 Tryz.results248 rfl ?_
  exact ⟨_, rfl, rfl, hB1, hK1⟩

theorem c249  : BOp 249 [] (startObject 1) := by
  rintro F w bb S S' h hm
  have h1 := hm
  refine cr_enter Tryz.func249 rfl Tryz.ntmps249 ?_
  refine gk_region ?_
  refine gr_v (ev_mv rfl) ?_
  refine gr_call (ec_func Tryz.call253 rfl) (c253 (1) (by decide) F _ bb _ _ h h1) ?_
  rintro _ w1 ⟨rfl, hB1, hK1⟩
  refine gr_nil ?_
  refine gk_end0 Tryz.results249 ?_
  exact ⟨_, rfl, rfl, hB1, hK1⟩

theorem c250 (a : Int) : BOp 250 [.int .u64 a] (slotOp ((a : Int) != 0) (prepend 8 (le8 a)) 0) := by
  rintro F w bb S S' h hm
  have h1 := hm
  refine cr_enter Tryz.func250 rfl Tryz.ntmps250 ?_
  refine gk_region ?_
  refine gr_v (ev_mv rfl) ?_
  refine gr_v (ev_mv rfl) ?_
  refine gr_call (ec_func Tryz.call263 rfl) (c263 (0) (a) (0) F _ bb _ _ h h1) ?_
  rintro _ w1 ⟨rfl, hB1, hK1⟩
  refine gr_nil ?_
  refine gk_end0 Tryz.results250 ?_
  exact ⟨_, rfl, rfl, hB1, hK1⟩

theorem c251  : BVal 251 [] (endObject) := by
  rintro F w bb S r S' h hm
  have h1 := hm
  refine cr_enter Tryz.func251 rfl Tryz.ntmps251 ?_
  refine gk_seq ?_
  refine gk_region ?_
  refine gr_v (ev_as rfl) ?_
  refine gr_nil ?_
  refine gk_seq ?_
  refine gk_region ?_
  refine gr_v (ev_mv rfl) ?_
  refine gr_call (ec_func Tryz.call266 rfl) (c266  F _ bb _ _ _ h h1) ?_
  rintro _ w1 ⟨rfl, hB1, hK1⟩
  refine gr_v (ev_as rfl) ?_
  refine gr_nil ?_
  refine gk_ret1 Tryz.results251 rfl ?_
  exact ⟨_, rfl, rfl, hB1, hK1⟩

theorem c296  : BOp 296 [] (startObject 1) := by
  rintro F w bb S S' h hm
  have h1 := hm
  refine cr_enter Tryz.func296 rfl Tryz.ntmps296 ?_
  refine gk_region ?_
  refine gr_v (ev_mv rfl) ?_
  refine gr_call (ec_func Tryz.call253 rfl) (c253 (1) (by decide) F _ bb _ _ h h1) ?_
  rintro _ w1 ⟨rfl, hB1, hK1⟩
  refine gr_nil ?_
  refine gk_end0 Tryz.results296 ?_
  exact ⟨_, rfl, rfl, hB1, hK1⟩

theorem c297 (a : UInt8) : BOp 297 [B a] (slotOp (((a : UInt8).toNat : Int) != ((2 : UInt8).toNat : Int)) (prepend 1 [a]) 0) := by
  rintro F w bb S S' h hm
  have h1 := hm
  refine cr_enter Tryz.func297 rfl Tryz.ntmps297 ?_
  refine gk_region ?_
  refine gr_v (ev_mv rfl) ?_
  refine gr_v (ev_mv rfl) ?_
  refine gr_call (ec_func Tryz.call258 rfl) (c258 (0) (a) (2) F _ bb _ _ h h1) ?_
  rintro _ w1 ⟨rfl, hB1, hK1⟩
  refine gr_nil ?_
  refine gk_end0 Tryz.results297 ?_
  exact ⟨_, rfl, rfl, hB1, hK1⟩

theorem c298  : BVal 298 [] (endObject) := by
  rintro F w bb S r S' h hm
  have h1 := hm
  refine cr_enter Tryz.func298 rfl Tryz.ntmps298 ?_
  refine gk_seq ?_
  refine gk_region ?_
  refine gr_v (ev_as rfl) ?_
  refine gr_nil ?_
  refine gk_seq ?_
  refine gk_region ?_
  refine gr_v (ev_mv rfl) ?_
  refine gr_call (ec_func Tryz.call266 rfl) (c266  F _ bb _ _ _ h h1) ?_
  rintro _ w1 ⟨rfl, hB1, hK1⟩
  refine gr_v (ev_as rfl) ?_
  refine gr_nil ?_
  refine gk_ret1 Tryz.results298 rfl ?_
  exact ⟨_, rfl, rfl, hB1, hK1⟩

theorem c299  : BOp 299 [] (startObject 0) := by
  rintro F w bb S S' h hm
  have h1 := hm
  refine cr_enter Tryz.func299 rfl Tryz.ntmps299 ?_
  refine gk_region ?_
  refine gr_v (ev_mv rfl) ?_
  refine gr_call (ec_func Tryz.call253 rfl) (c253 (0) (by decide) F _ bb _ _ h h1) ?_
  rintro _ w1 ⟨rfl, hB1, hK1⟩
  refine gr_nil ?_
  refine gk_end0 Tryz.results299 ?_
  exact ⟨_, rfl, rfl, hB1, hK1⟩

theorem c300  : BVal 300 [] (endObject) := by
  rintro F w bb S r S' h hm
  have h1 := hm
  refine cr_enter Tryz.func300 rfl Tryz.ntmps300 ?_
  refine gk_seq ?_
  refine gk_region ?_
  refine gr_v (ev_as rfl) ?_
  refine gr_nil ?_
  refine gk_seq ?_
  refine gk_region ?_
  refine gr_v (ev_mv rfl) ?_
  refine gr_call (ec_func Tryz.call266 rfl) (c266  F _ bb _ _ _ h h1) ?_
  rintro _ w1 ⟨rfl, hB1, hK1⟩
  refine gr_v (ev_as rfl) ?_
  refine gr_nil ?_
  refine gk_ret1 Tryz.results300 rfl ?_
  exact ⟨_, rfl, rfl, hB1, hK1⟩

def createTest (a : Int) (b : Int) : St → Option (Nat × St) := (thn (prep 2 4) (thn (place (List.replicate 1 0)) (thn (prepend 1 [lb b]) (thn (prepend 2 (le2 a)) (offsetV)))))
theorem c236 (a : Int) (b : Int) : BVal 236 [.int .i16 a, .int .i8 b] (createTest a b) := by
  rintro F w bb S r S' h hm
  obtain ⟨S1, h1, hm⟩ := thn_some hm
  obtain ⟨S2, h2, hm⟩ := thn_some hm
  obtain ⟨S3, h3, hm⟩ := thn_some hm
  obtain ⟨S4, h4, hm⟩ := thn_some hm
  have h5 := hm
  refine cr_enter Tryz.func236 rfl Tryz.ntmps236 ?_
  refine gk_seq ?_
  refine gk_region ?_
  refine gr_v (ev_as rfl) ?_
  refine gr_nil ?_
  refine gk_seq ?_
  refine gk_region ?_
  refine gr_v (ev_mv rfl) ?_
  refine gr_call (ec_func Tryz.call45 rfl) (c45 (2) (4) F _ bb _ _ h h1) ?_
  rintro _ w1 ⟨rfl, hB1, hK1⟩
  refine gr_nil ?_
  refine gk_seq ?_
  refine gk_region ?_
  refine gr_v (ev_mv rfl) ?_
  refine gr_call (ec_func Tryz.call229 rfl) (c229 (1) F _ bb _ _ hB1 h2) ?_
  rintro _ w2 ⟨rfl, hB2, hK2⟩
  refine gr_nil ?_
  refine gk_seq ?_
  refine gk_region ?_
  refine gr_v (ev_mv rfl) ?_
  refine gr_v (ev_mv rfl) ?_
  refine gr_call (ec_func Tryz.call301 rfl) (c301 (b) F _ bb _ _ hB2 h3) ?_
  rintro _ w3 ⟨rfl, hB3, hK3⟩
  refine gr_nil ?_
  refine gk_seq ?_
  refine gk_region ?_
  refine gr_v (ev_mv rfl) ?_
  refine gr_v (ev_mv rfl) ?_
  refine gr_call (ec_func Tryz.call302 rfl) (c302 (a) F _ bb _ _ hB3 h4) ?_
  rintro _ w4 ⟨rfl, hB4, hK4⟩
  refine gr_nil ?_
  refine gk_seq ?_
  refine gk_region ?_
  refine gr_v (ev_mv rfl) ?_
  refine gr_call (ec_func Tryz.call230 rfl) (c230v  F _ bb _ _ _ hB4 h5) ?_
  rintro _ w5 ⟨rfl, hB5, hK5⟩
  refine gr_v (ev_as rfl) ?_
  refine gr_nil ?_
  refine gk_ret1 Tryz.results236 rfl ?_
  exact ⟨_, rfl, rfl, hB5, ((((hK1.trans hK2).trans hK3).trans hK4).trans hK5)⟩

def createAbility (a : Int) (b : Int) : St → Option (Nat × St) := (thn (prep 4 8) (thn (prepend 4 (le4 b)) (thn (prepend 4 (le4 a)) (offsetV))))
theorem c244 (a : Int) (b : Int) : BVal 244 [.int .u32 a, .int .u32 b] (createAbility a b) := by
  rintro F w bb S r S' h hm
  obtain ⟨S1, h1, hm⟩ := thn_some hm
  obtain ⟨S2, h2, hm⟩ := thn_some hm
  obtain ⟨S3, h3, hm⟩ := thn_some hm
  have h4 := hm
  refine cr_enter Tryz.func244 rfl Tryz.ntmps244 ?_
  refine gk_seq ?_
  refine gk_region ?_
  refine gr_v (ev_as rfl) ?_
  refine gr_nil ?_
  refine gk_seq ?_
  refine gk_region ?_
  refine gr_v (ev_mv rfl) ?_
  refine gr_call (ec_func Tryz.call45 rfl) (c45 (4) (8) F _ bb _ _ h h1) ?_
  rintro _ w1 ⟨rfl, hB1, hK1⟩
  refine gr_nil ?_
  refine gk_seq ?_
  refine gk_region ?_
  refine gr_v (ev_mv rfl) ?_
  refine gr_v (ev_mv rfl) ?_
  refine gr_call (ec_func Tryz.call305 rfl) (c305 (b) F _ bb _ _ hB1 h2) ?_
  rintro _ w2 ⟨rfl, hB2, hK2⟩
  refine gr_nil ?_
  refine gk_seq ?_
  refine gk_region ?_
  refine gr_v (ev_mv rfl) ?_
  refine gr_v (ev_mv rfl) ?_
  refine gr_call (ec_func Tryz.call305 rfl) (c305 (a) F _ bb _ _ hB2 h3) ?_
  rintro _ w3 ⟨rfl, hB3, hK3⟩
  refine gr_nil ?_
  refine gk_seq ?_
  refine gk_region ?_
  refine gr_v (ev_mv rfl) ?_
  refine gr_call (ec_func Tryz.call230 rfl) (c230v  F _ bb _ _ _ hB3 h4) ?_
  rintro _ w4 ⟨rfl, hB4, hK4⟩
  refine gr_v (ev_as rfl) ?_
  refine gr_nil ?_
  refine gk_ret1 Tryz.results244 rfl ?_
  exact ⟨_, rfl, rfl, hB4, (((hK1.trans hK2).trans hK3).trans hK4)⟩

def createVec3 (a : Nat) (b : Nat) (c : Nat) (d : Nat) (e : UInt8) (f : Int) (g : Int) : St → Option (Nat × St) := (thn (prep 8 32) (thn (place (List.replicate 2 0)) (thn (prep 2 4) (thn (place (List.replicate 1 0)) (thn (prepend 1 [lb g]) (thn (prepend 2 (le2 f)) (thn (place (List.replicate 1 0)) (thn (prepend 1 [e]) (thn (prepend 8 (le8 d)) (thn (place (List.replicate 4 0)) (thn (prepend 4 (le4 c)) (thn (prepend 4 (le4 b)) (thn (prepend 4 (le4 a)) (offsetV))))))))))))))
theorem c254 (a : Nat) (b : Nat) (c : Nat) (d : Nat) (e : UInt8) (f : Int) (g : Int) : BVal 254 [.float .f32 a, .float .f32 b, .float .f32 c, .float .f64 d, B e, .int .i16 f, .int .i8 g] (createVec3 a b c d e f g) := by
  rintro F w bb S r S' h hm
  obtain ⟨S1, h1, hm⟩ := thn_some hm
  obtain ⟨S2, h2, hm⟩ := thn_some hm
  obtain ⟨S3, h3, hm⟩ := thn_some hm
  obtain ⟨S4, h4, hm⟩ := thn_some hm
  obtain ⟨S5, h5, hm⟩ := thn_some hm
  obtain ⟨S6, h6, hm⟩ := thn_some hm
  obtain ⟨S7, h7, hm⟩ := thn_some hm
  obtain ⟨S8, h8, hm⟩ := thn_some hm
  obtain ⟨S9, h9, hm⟩ := thn_some hm
  obtain ⟨S10, h10, hm⟩ := thn_some hm
  obtain ⟨S11, h11, hm⟩ := thn_some hm
  obtain ⟨S12, h12, hm⟩ := thn_some hm
  obtain ⟨S13, h13, hm⟩ := thn_some hm
  have h14 := hm
  refine cr_enter Tryz.func254 rfl Tryz.ntmps254 ?_
  refine gk_seq ?_
  refine gk_region ?_
  refine gr_v (ev_as rfl) ?_
  refine gr_nil ?_
  refine gk_seq ?_
  refine gk_region ?_
  refine gr_v (ev_mv rfl) ?_
  refine gr_call (ec_func Tryz.call45 rfl) (c45 (8) (32) F _ bb _ _ h h1) ?_
  rintro _ w1 ⟨rfl, hB1, hK1⟩
  refine gr_nil ?_
  refine gk_seq ?_
  refine gk_region ?_
  refine gr_v (ev_mv rfl) ?_
  refine gr_call (ec_func Tryz.call229 rfl) (c229 (2) F _ bb _ _ hB1 h2) ?_
  rintro _ w2 ⟨rfl, hB2, hK2⟩
  refine gr_nil ?_
  refine gk_seq ?_
  refine gk_region ?_
  refine gr_v (ev_mv rfl) ?_
  refine gr_call (ec_func Tryz.call45 rfl) (c45 (2) (4) F _ bb _ _ hB2 h3) ?_
  rintro _ w3 ⟨rfl, hB3, hK3⟩
  refine gr_nil ?_
  refine gk_seq ?_
  refine gk_region ?_
  refine gr_v (ev_mv rfl) ?_
  refine gr_call (ec_func Tryz.call229 rfl) (c229 (1) F _ bb _ _ hB3 h4) ?_
  rintro _ w4 ⟨rfl, hB4, hK4⟩
  refine gr_nil ?_
  refine gk_seq ?_
  refine gk_region ?_
  refine gr_v (ev_mv rfl) ?_
  refine gr_v (ev_mv rfl) ?_
  refine gr_call (ec_func Tryz.call301 rfl) (c301 (g) F _ bb _ _ hB4 h5) ?_
  rintro _ w5 ⟨rfl, hB5, hK5⟩
  refine gr_nil ?_
  refine gk_seq ?_
  refine gk_region ?_
  refine gr_v (ev_mv rfl) ?_
  refine gr_v (ev_mv rfl) ?_
  refine gr_call (ec_func Tryz.call302 rfl) (c302 (f) F _ bb _ _ hB5 h6) ?_
  rintro _ w6 ⟨rfl, hB6, hK6⟩
  refine gr_nil ?_
  refine gk_seq ?_
  refine gk_region ?_
  refine gr_v (ev_mv rfl) ?_
  refine gr_call (ec_func Tryz.call229 rfl) (c229 (1) F _ bb _ _ hB6 h7) ?_
  rintro _ w7 ⟨rfl, hB7, hK7⟩
  refine gr_nil ?_
  refine gk_seq ?_
  refine gk_region ?_
  refine gr_v (ev_mv rfl) ?_
  refine gr_v (ev_mv rfl) ?_
  refine gr_call (ec_func Tryz.call88 rfl) (c88 (e) F _ bb _ _ hB7 h8) ?_
  rintro _ w8 ⟨rfl, hB8, hK8⟩
  refine gr_nil ?_
  refine gk_seq ?_
  refine gk_region ?_
  refine gr_v (ev_mv rfl) ?_
  refine gr_v (ev_mv rfl) ?_
  refine gr_call (ec_func Tryz.call76 rfl) (c76 (d) F _ bb _ _ hB8 h9) ?_
  rintro _ w9 ⟨rfl, hB9, hK9⟩
  refine gr_nil ?_
  refine gk_seq ?_
  refine gk_region ?_
  refine gr_v (ev_mv rfl) ?_
  refine gr_call (ec_func Tryz.call229 rfl) (c229 (4) F _ bb _ _ hB9 h10) ?_
  rintro _ w10 ⟨rfl, hB10, hK10⟩
  refine gr_nil ?_
  refine gk_seq ?_
  refine gk_region ?_
  refine gr_v (ev_mv rfl) ?_
  refine gr_v (ev_mv rfl) ?_
  refine gr_call (ec_func Tryz.call309 rfl) (c309 (c) F _ bb _ _ hB10 h11) ?_
  rintro _ w11 ⟨rfl, hB11, hK11⟩
  refine gr_nil ?_
  refine gk_seq ?_
  refine gk_region ?_
  refine gr_v (ev_mv rfl) ?_
  refine gr_v (ev_mv rfl) ?_
  refine gr_call (ec_func Tryz.call309 rfl) (c309 (b) F _ bb _ _ hB11 h12) ?_
  rintro _ w12 ⟨rfl, hB12, hK12⟩
  refine gr_nil ?_
  refine gk_seq ?_
  refine gk_region ?_
  refine gr_v (ev_mv rfl) ?_
  refine gr_v (ev_mv rfl) ?_
  refine gr_call (ec_func Tryz.call309 rfl) (c309 (a) F _ bb _ _ hB12 h13) ?_
  rintro _ w13 ⟨rfl, hB13, hK13⟩
  refine gr_nil ?_
  refine gk_seq ?_
  refine gk_region ?_
  refine gr_v (ev_mv rfl) ?_
  refine gr_call (ec_func Tryz.call230 rfl) (c230v  F _ bb _ _ _ hB13 h14) ?_
  rintro _ w14 ⟨rfl, hB14, hK14⟩
  refine gr_v (ev_as rfl) ?_
  refine gr_nil ?_
  refine gk_ret1 Tryz.results254 rfl ?_
  exact ⟨_, rfl, rfl, hB14, (((((((((((((hK1.trans hK2).trans hK3).trans hK4).trans hK5).trans hK6).trans hK7).trans hK8).trans hK9).trans hK10).trans hK11).trans hK12).trans hK13).trans hK14)⟩

end Go.Proofs.YtjaplgfgkigmiaaGreat