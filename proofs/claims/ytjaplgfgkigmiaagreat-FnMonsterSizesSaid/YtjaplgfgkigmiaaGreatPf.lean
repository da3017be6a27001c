/-
  FnMonsterSizes: for every monster and every two sizes the law returns true, and each argument reads as it did. No condition.
-/
import Derived.Test.YtjaplgfgkigmiaaGreatLw
import Derived.Test.YtjaplgfgkigmiaaGreatPg
import Derived.WalkKit
import Derived.ProofKit
import Derived.OpenShut
import Derived.ShutString
import Derived.ChangeOld
import Derived.Below
namespace Go.Proofs.YtjaplgfgkigmiaaGreat
open Go Go.Proofs
open Go.ChangeShapes Go.WideShapes Go.ChangeAt Go.RowKit

theorem own_ : ownKnob Tryz.prog.godebug = none := by kernel_rfl
theorem laidOut_ : laidOutB Tryz.prog = true := by kernel_rfl
theorem u16_nat {a : Int} (h : (Lit.int .u16 a).wf = true) : ∃ n : Nat, a = n ∧ n < 65536 := by
  simp [Lit.wf, IntKind.min, IntKind.max, IntKind.signed, IntKind.bits] at h
  exact ⟨a.toNat, by omega, by omega⟩
theorem old_below {w w' : World} (h : Old w w') (hs : SameO w w') : Below w.heap.size w w' :=
  ⟨hs.os, hs.tape, hs.out, h.size, fun k hk => by rw [Array.getElem?_eq_getElem hk]; exact h k _ (Array.getElem?_eq_getElem hk)⟩

set_option maxRecDepth 100000 in
theorem lifted_ (os : Os) (started : os.Started) (H : Type) (enc : TypeId × Value → H) :
    ReturnsInHanded {} Tryz.checked os 3 .any (Rows.fnMonsterSizesSpec.pre6 enc Tryz.prog Tryz.f3 Rows.fnMonsterSizesRow.domain false) (Rows.fnMonsterSizesSpec.post enc Tryz.prog Tryz.f3 false true false false) := by
  refine returnsInHanded_of_change (C := Tryz.checked) own_ started (by kernel_rfl) Tryz.func3
    (ChangeSpec.witness6 (enc := enc) (C := Tryz.checked) false ⟨#[], #[.agg #[.slice none 0 0, .int .i16 0, .int .i16 0, .string ⟨#[]⟩, .string ⟨#[]⟩, .int .u8 0, .int .u8 0, .slice none 0 0, .int .u8 0, .slice none 0 0, .slice none 0 0, .slice none 0 0, .slice none 0 0, .string ⟨#[]⟩, .slice none 0 0, .bool false, .int .i32 0, .int .u32 0, .int .i64 0, .int .u64 0, .int .i32 0, .int .u32 0, .int .i64 0, .int .u64 0, .slice none 0 0, .int .u32 0, .int .u32 0, .int .u32 0, .slice none 0 0, .slice none 0 0, .string ⟨#[]⟩, .slice none 0 0, .slice none 0 0, .slice none 0 0, .bool false, .slice none 0 0, .int .u64 0, .slice none 0 0, .slice none 0 0, .int .u64 0, .slice none 0 0, .int .u64 0, .slice none 0 0, .int .u8 0, .slice none 0 0, .int .u8 0, .int .u8 0, .slice none 0 0, .int .u8 0, .string ⟨#[]⟩, .int .i8 0], .int .u16 0, .int .u16 0], []⟩ 8 (by kernel_rfl) (by kernel_rfl) (by kernel_rfl) (by kernel_rfl)) ?_
  intro W base args ds gs before hval0 hW hcnd _
  have hval : ∀ (j : Nat) t v, Tryz.f3.params[j]? = some t → args[j]? = some v → Value.okWide Tryz.prog W .any base t v := hval0
  have hW' := hW
  obtain ⟨p, q, hA0, hV, rfl, hfz, hnd⟩ := hW
  have hA : DataW.TrodAll enc Tryz.prog W 0 (fun _ => true) true Tryz.f3.params.toList args.toList ds p := hA0
  rw [Tryz.params3] at hA hval
  obtain ⟨v0, vs0, d0, ds0, p0, q0, hargs, rfl, rfl, h0, r0⟩ := trodAll_cons hA
  obtain ⟨v1, vs1, d1, ds1, p1, q1, rfl, rfl, rfl, h1, r1⟩ := trodAll_cons r0
  obtain ⟨v2, vs2, d2, ds2, p2, q2, rfl, rfl, rfl, h2, r2⟩ := trodAll_cons r1
  obtain ⟨rfl, rfl, rfl⟩ := trodAll_nil r2
  obtain rfl : args = #[v0, v1, v2] := by cases args; simp_all
  obtain ⟨rfl, rfl⟩ := trodVars_none hV
  obtain ⟨cs, rfl, _⟩ := okWide_struct Tryz.underlying38 (hval 0 38 v0 rfl rfl)
  have k0 := h0
  have lt0 : ∀ x ∈ p0, x.block < W.heap.size := by obtain ⟨m, hm⟩ := k0; exact DataW.trod_lt m _ _ _ hm
  obtain ⟨a1, rfl, rfl, rfl, w1⟩ := open_int Tryz.underlying39 (hval 1 39 v1 rfl rfl) h1
  obtain ⟨a2, rfl, rfl, rfl, w2⟩ := open_int Tryz.underlying39 (hval 2 39 v2 rfl rfl) h2
  clear hA0 hval0
  have hD : MonD enc W 0 (fun _ => true) true cs := by
    obtain ⟨fuel, hf⟩ := h0
    exact ⟨fuel, _, hf⟩
  have hm := rd_monR 6 hD
  obtain ⟨d, x, rfl, hs, hl1, hl2, hl3⟩ := rd_mon hD
  obtain ⟨n1, rfl, hn1⟩ := u16_nat w1
  obtain ⟨n2, rfl, hn2⟩ := u16_nat w2
  refine Calls.mono (m3 (a := n1) (b := n2) hm hs ⟨hl1, hl2, hl3⟩) fun e W' ⟨v, he, ⟨hv, ho⟩, hsm⟩ => ?_
  subst he; subst hv
  have bel := old_below ho hsm
  exact ⟨_, rfl, _, _, _, [], _, [], hW', trodAll_mk1 (shut_bool Tryz.underlying4 _), (trodAll_cons_mk (Below.trod laidOut_ (by kernel_rfl) (of_decide_eq_true (by kernel_rfl)) k0 bel lt0) (trodAll_cons_mk (shut_int Tryz.underlying39 w1) (trodAll_cons_mk (shut_int Tryz.underlying39 w2) trodAll_mk0))), rfl, bel.frame _, fun h => by cases h⟩

theorem over_ : Rows.fnMonsterSizesRow.holds Tryz.pinned (OpenSpec.ofChange Rows.fnMonsterSizesSpec) :=
  OpenClaim.holds_of_wide 3 Tryz.f3 rfl rfl rfl rfl rfl rfl rfl ⟨rfl, rfl, rfl, rfl, rfl⟩ rfl rfl rfl rfl rfl named_ Tryz.func3 closed_ inst_ wrap_
    (fun os started H enc _ => lifted_ os started H enc)

/-- The statement. -/
theorem fnMonsterSizes_holds : Rows.FnMonsterSizesSaid := over_
#print axioms fnMonsterSizes_holds
end Go.Proofs.YtjaplgfgkigmiaaGreat
