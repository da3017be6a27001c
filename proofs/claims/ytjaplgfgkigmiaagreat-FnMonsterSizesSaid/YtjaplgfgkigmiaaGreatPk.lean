/-
  The small objects packed.
-/
import Derived.Test.YtjaplgfgkigmiaaGreatMi
namespace Go.Proofs.YtjaplgfgkigmiaaGreat
open Go Go.Proofs

/-- A part of a memory. -/
abbrev Mem := Nat → Option Obj
/-- What stands in M is held, and stands in w. -/
def Ext (M : Mem) (F : Nat → Prop) (w : World) : Prop := ∀ (b : Nat) (x : Obj), M b = some x → F b ∧ w.heap[b]? = some x
theorem Ext.keep {M : Mem} {w w' : World} {F : Nat → Prop} (h : Ext M F w) (k : Keep F w w') : Ext M F w' := fun b x hb => ⟨(h b x hb).1, (k.1 b (h b x hb).1).trans (h b x hb).2⟩
theorem Ext.drew {M : Mem} {w : World} {F : Nat → Prop} (h : Ext M F w) : Ext M F w.drew := h
theorem Bld.drew {F : Nat → Prop} {w : World} {bb : Nat} {S : St} (h : Bld F w bb S) : Bld F w.drew bb S := by
  obtain ⟨g, hg⟩ := h
  exact ⟨g, hg.same rfl⟩
abbrev PK := St → Option (Nat × St)
/-- The function packs the value so. -/
def Packs (f : FuncId) (M : Mem) (v : Value) (pk : PK) : Prop := ∀ F w bb S r S', Ext M F w → Bld F w bb S → pk S = some (r, S') →
  CR Tryz.prog f #[v, ptr bb] w (fun x w' => x = U r ∧ Bld F w' bb S' ∧ Keep F w w')
theorem Packs.old {f : FuncId} {M M' : Mem} {v : Value} {pk : PK} (h : Packs f M v pk) (ho : ∀ (b : Nat) (x : Obj), M b = some x → M' b = some x) : Packs f M' v pk :=
  fun F w bb S r S' hE hB hm => h F w bb S r S' (fun (b : Nat) (x : Obj) hb => hE b x (ho b x hb)) hB hm

theorem p62 {M : Mem} {p : Nat} (a : Int) (b : Int) {fz : Nat × Nat} (hp : M p = some (.cells #[.int .i16 a, .int .i8 b] 135 fz)) : Packs 62 M (ptr p) (createTest a b) := by
  intro F w bb S r S' hE h hm
  have h1 := hm
  refine cr_enter Tryz.func62 rfl Tryz.ntmps62 ?_
  refine gk_seq ?_
  refine gk_region ?_
  refine gr_v (ev_as rfl) ?_
  refine gr_nil ?_
  refine gk_seq ?_
  refine gk_seq ?_
  refine gk_region ?_
  refine gr_v (ev_mv rfl) ?_
  refine gr_v (ev_pointereql rfl rfl Tryz.runUnderlying134) ?_
  refine gr_nil ?_
  refine gk_false rfl (rfl) ?_
  refine gk_skip ?_
  refine gk_seq ?_
  refine gk_draw (fun w' => Ext M F w') (by kernel_rfl) ?_
  have hS : Ext M F _ := hE.drew
  replace h := h.drew
  refine ga_take 0 rfl (by kernel_rfl) (fun _ _ => (ev_mv rfl)) hS ?_
  refine ga_take 1 rfl (by kernel_rfl) (fun _ _ => (ev_mv rfl)) hS ?_
  refine ga_take 2 rfl (by kernel_rfl) (fun _ _ => (ev_nil rfl)) hS ?_
  refine ga_take 3 rfl (by kernel_rfl) (fun _ _ => (ev_fa (j := 0) rfl Tryz.runUnderlying135 rfl Tryz.sizeOf23 rfl rfl)) hS ?_
  refine ga_take 4 rfl (by kernel_rfl) (fun _ hs => (ev_ld rfl Tryz.isAgg23 (by first | exact (hs _ _ hp).2) (by rfl))) hS ?_
  refine ga_take 5 rfl (by kernel_rfl) (fun _ _ => (ev_mv rfl)) hS ?_
  refine ga_take 6 rfl (by kernel_rfl) (fun _ _ => (ev_nil rfl)) hS ?_
  refine ga_take 7 rfl (by kernel_rfl) (fun _ _ => (ev_fa (j := 1) rfl Tryz.runUnderlying135 rfl Tryz.sizeOf36 rfl rfl)) hS ?_
  refine ga_take 8 rfl (by kernel_rfl) (fun _ hs => (ev_ld rfl Tryz.isAgg36 (by first | exact (hs _ _ hp).2) (by rfl))) hS ?_
  refine ga_call 9 rfl (by kernel_rfl) (ec_func Tryz.call236 rfl) (c236 (a) (b) F _ bb _ _ _ h h1) ?_
  rintro _ w1 ⟨rfl, hB1, hK1⟩
  refine ⟨hS.keep hK1, fun hS => ?_⟩
  refine ga_take 10 rfl (by kernel_rfl) (fun _ _ => (ev_as rfl)) hS ?_
  refine ga_nil (by kernel_rfl) ?_
  refine gk_ret1 Tryz.results62 rfl ?_
  exact ⟨_, rfl, rfl, hB1, (Keep.drew.trans hK1)⟩

theorem p71 {M : Mem} {p : Nat} (a : Int) (b : Int) {fz : Nat × Nat} (hp : M p = some (.cells #[.int .u32 a, .int .u32 b] 140 fz)) : Packs 71 M (ptr p) (createAbility a b) := by
  intro F w bb S r S' hE h hm
  have h1 := hm
  refine cr_enter Tryz.func71 rfl Tryz.ntmps71 ?_
  refine gk_seq ?_
  refine gk_region ?_
  refine gr_v (ev_as rfl) ?_
  refine gr_nil ?_
  refine gk_seq ?_
  refine gk_seq ?_
  refine gk_region ?_
  refine gr_v (ev_mv rfl) ?_
  refine gr_v (ev_pointereql rfl rfl Tryz.runUnderlying139) ?_
  refine gr_nil ?_
  refine gk_false rfl (rfl) ?_
  refine gk_skip ?_
  refine gk_seq ?_
  refine gk_draw (fun w' => Ext M F w') (by kernel_rfl) ?_
  have hS : Ext M F _ := hE.drew
  replace h := h.drew
  refine ga_take 0 rfl (by kernel_rfl) (fun _ _ => (ev_mv rfl)) hS ?_
  refine ga_take 1 rfl (by kernel_rfl) (fun _ _ => (ev_mv rfl)) hS ?_
  refine ga_take 2 rfl (by kernel_rfl) (fun _ _ => (ev_nil rfl)) hS ?_
  refine ga_take 3 rfl (by kernel_rfl) (fun _ _ => (ev_fa (j := 0) rfl Tryz.runUnderlying140 rfl Tryz.sizeOf30 rfl rfl)) hS ?_
  refine ga_take 4 rfl (by kernel_rfl) (fun _ hs => (ev_ld rfl Tryz.isAgg30 (by first | exact (hs _ _ hp).2) (by rfl))) hS ?_
  refine ga_take 5 rfl (by kernel_rfl) (fun _ _ => (ev_mv rfl)) hS ?_
  refine ga_take 6 rfl (by kernel_rfl) (fun _ _ => (ev_nil rfl)) hS ?_
  refine ga_take 7 rfl (by kernel_rfl) (fun _ _ => (ev_fa (j := 1) rfl Tryz.runUnderlying140 rfl Tryz.sizeOf30 rfl rfl)) hS ?_
  refine ga_take 8 rfl (by kernel_rfl) (fun _ hs => (ev_ld rfl Tryz.isAgg30 (by first | exact (hs _ _ hp).2) (by rfl))) hS ?_
  refine ga_call 9 rfl (by kernel_rfl) (ec_func Tryz.call244 rfl) (c244 (a) (b) F _ bb _ _ _ h h1) ?_
  rintro _ w1 ⟨rfl, hB1, hK1⟩
  refine ⟨hS.keep hK1, fun hS => ?_⟩
  refine ga_take 10 rfl (by kernel_rfl) (fun _ _ => (ev_as rfl)) hS ?_
  refine ga_nil (by kernel_rfl) ?_
  refine gk_ret1 Tryz.results71 rfl ?_
  exact ⟨_, rfl, rfl, hB1, (Keep.drew.trans hK1)⟩

def packStat (a : ByteArray) (b : Int) (c : Int) : PK := (withV (createString a.data.toList) fun r1 => (thn (startObject 3) (thn (slotOp ((r1 : Int) != ((0 : Nat) : Int)) (prependU r1) 0) (thn (slotOp ((b : Int) != 0) (prepend 8 (le8 b)) 1) (thn (slotOp ((c : Int) != 0) (prepend 2 (le2 c)) 2) (endObject))))))
theorem p66 {M : Mem} {p : Nat} (a : ByteArray) (b : Int) (c : Int) {fz : Nat × Nat} (hp : M p = some (.cells #[.string a, .int .i64 b, .int .u16 c] 138 fz)) : Packs 66 M (ptr p) (packStat a b c) := by
  intro F w bb S r S' hE h hm
  obtain ⟨r1, S1, h1, hm⟩ := withV_some hm
  obtain ⟨S2, h2, hm⟩ := thn_some hm
  obtain ⟨S3, h3, hm⟩ := thn_some hm
  obtain ⟨S4, h4, hm⟩ := thn_some hm
  obtain ⟨S5, h5, hm⟩ := thn_some hm
  have h6 := hm
  refine cr_enter Tryz.func66 rfl Tryz.ntmps66 ?_
  refine gk_seq ?_
  refine gk_region ?_
  refine gr_v (ev_as rfl) ?_
  refine gr_nil ?_
  refine gk_seq ?_
  refine gk_seq ?_
  refine gk_region ?_
  refine gr_v (ev_mv rfl) ?_
  refine gr_v (ev_pointereql rfl rfl Tryz.runUnderlying123) ?_
  refine gr_nil ?_
  refine gk_false rfl (rfl) ?_
  refine gk_skip ?_
  refine gk_seq ?_
  refine gk_region ?_
  refine gr_v (ev_mv rfl) ?_
  refine gr_v (ev_mv rfl) ?_
  refine gr_v (ev_nil rfl) ?_
  refine gr_v (ev_fa (j := 0) rfl Tryz.runUnderlying138 rfl Tryz.sizeOf9 rfl rfl) ?_
  refine gr_v (ev_ld rfl Tryz.isAgg9 (by first | exact (hE _ _ hp).2) (by rfl)) ?_
  refine gr_call (ec_func Tryz.call58 rfl) (c58 (a) F _ bb _ _ _ h h1) ?_
  rintro _ w1 ⟨rfl, hB1, hK1⟩
  have hE1 := hE.keep hK1
  refine gr_v (ev_as rfl) ?_
  refine gr_nil ?_
  refine gk_seq ?_
  refine gk_region ?_
  refine gr_v (ev_mv rfl) ?_
  refine gr_call (ec_func Tryz.call238 rfl) (c238  F _ bb _ _ hB1 h2) ?_
  rintro _ w2 ⟨rfl, hB2, hK2⟩
  have hE2 := hE1.keep hK2
  refine gr_nil ?_
  refine gk_seq ?_
  refine gk_region ?_
  refine gr_v (ev_mv rfl) ?_
  refine gr_v (ev_mv rfl) ?_
  refine gr_call (ec_func Tryz.call239 rfl) (c239 (r1) F _ bb _ _ hB2 h3) ?_
  rintro _ w3 ⟨rfl, hB3, hK3⟩
  have hE3 := hE2.keep hK3
  refine gr_nil ?_
  refine gk_seq ?_
  refine gk_region ?_
  refine gr_v (ev_mv rfl) ?_
  refine gr_v (ev_mv rfl) ?_
  refine gr_v (ev_nil rfl) ?_
  refine gr_v (ev_fa (j := 1) rfl Tryz.runUnderlying138 rfl Tryz.sizeOf2 rfl rfl) ?_
  refine gr_v (ev_ld rfl Tryz.isAgg2 (by first | exact (hE3 _ _ hp).2) (by rfl)) ?_
  refine gr_call (ec_func Tryz.call240 rfl) (c240 (b) F _ bb _ _ hB3 h4) ?_
  rintro _ w4 ⟨rfl, hB4, hK4⟩
  have hE4 := hE3.keep hK4
  refine gr_nil ?_
  refine gk_seq ?_
  refine gk_region ?_
  refine gr_v (ev_mv rfl) ?_
  refine gr_v (ev_mv rfl) ?_
  refine gr_v (ev_nil rfl) ?_
  refine gr_v (ev_fa (j := 2) rfl Tryz.runUnderlying138 rfl Tryz.sizeOf39 rfl rfl) ?_
  refine gr_v (ev_ld rfl Tryz.isAgg39 (by first | exact (hE4 _ _ hp).2) (by rfl)) ?_
  refine gr_call (ec_func Tryz.call241 rfl) (c241 (c) F _ bb _ _ hB4 h5) ?_
  rintro _ w5 ⟨rfl, hB5, hK5⟩
  have hE5 := hE4.keep hK5
  refine gr_nil ?_
  refine gk_seq ?_
  refine gk_region ?_
  refine gr_v (ev_mv rfl) ?_
  refine gr_call (ec_func Tryz.call242 rfl) (c242  F _ bb _ _ _ hB5 h6) ?_
  rintro _ w6 ⟨rfl, hB6, hK6⟩
  have hE6 := hE5.keep hK6
  refine gr_v (ev_as rfl) ?_
  refine gr_nil ?_
  refine gk_ret1 Tryz.results66 rfl ?_
  exact ⟨_, rfl, rfl, hB6, (((((hK1.trans hK2).trans hK3).trans hK4).trans hK5).trans hK6)⟩

theorem p90 {M : Mem} {p : Nat} (a : Nat) (b : Nat) (c : Nat) (d : Nat) (e : UInt8) (f : Int) (g : Int) {q : Nat} {fz fy : Nat × Nat} (hp : M p = some (.cells #[.float .f32 a, .float .f32 b, .float .f32 c, .float .f64 d, B e, ptr q] 137 fz)) (hq : M q = some (.cells #[.int .i16 f, .int .i8 g] 135 fy)) : Packs 90 M (ptr p) (createVec3 a b c d e f g) := by
  intro F w bb S r S' hE h hm
  have h1 := hm
  refine cr_enter Tryz.func90 rfl Tryz.ntmps90 ?_
  refine gk_seq ?_
  refine gk_region ?_
  refine gr_v (ev_as rfl) ?_
  refine gr_nil ?_
  refine gk_seq ?_
  refine gk_seq ?_
  refine gk_region ?_
  refine gr_v (ev_mv rfl) ?_
  refine gr_v (ev_pointereql rfl rfl Tryz.runUnderlying120) ?_
  refine gr_nil ?_
  refine gk_false rfl (rfl) ?_
  refine gk_skip ?_
  refine gk_seq ?_
  refine gk_draw (fun w' => Ext M F w') (by kernel_rfl) ?_
  have hS : Ext M F _ := hE.drew
  replace h := h.drew
  refine ga_take 0 rfl (by kernel_rfl) (fun _ _ => (ev_mv rfl)) hS ?_
  refine ga_take 1 rfl (by kernel_rfl) (fun _ _ => (ev_mv rfl)) hS ?_
  refine ga_take 2 rfl (by kernel_rfl) (fun _ _ => (ev_nil rfl)) hS ?_
  refine ga_take 3 rfl (by kernel_rfl) (fun _ _ => (ev_fa (j := 0) rfl Tryz.runUnderlying137 rfl Tryz.sizeOf115 rfl rfl)) hS ?_
  refine ga_take 4 rfl (by kernel_rfl) (fun _ hs => (ev_ld rfl Tryz.isAgg115 (by first | exact (hs _ _ hp).2 | exact (hs _ _ hq).2) (by rfl))) hS ?_
  refine ga_take 5 rfl (by kernel_rfl) (fun _ _ => (ev_mv rfl)) hS ?_
  refine ga_take 6 rfl (by kernel_rfl) (fun _ _ => (ev_nil rfl)) hS ?_
  refine ga_take 7 rfl (by kernel_rfl) (fun _ _ => (ev_fa (j := 1) rfl Tryz.runUnderlying137 rfl Tryz.sizeOf115 rfl rfl)) hS ?_
  refine ga_take 8 rfl (by kernel_rfl) (fun _ hs => (ev_ld rfl Tryz.isAgg115 (by first | exact (hs _ _ hp).2 | exact (hs _ _ hq).2) (by rfl))) hS ?_
  refine ga_take 9 rfl (by kernel_rfl) (fun _ _ => (ev_mv rfl)) hS ?_
  refine ga_take 10 rfl (by kernel_rfl) (fun _ _ => (ev_nil rfl)) hS ?_
  refine ga_take 11 rfl (by kernel_rfl) (fun _ _ => (ev_fa (j := 2) rfl Tryz.runUnderlying137 rfl Tryz.sizeOf115 rfl rfl)) hS ?_
  refine ga_take 12 rfl (by kernel_rfl) (fun _ hs => (ev_ld rfl Tryz.isAgg115 (by first | exact (hs _ _ hp).2 | exact (hs _ _ hq).2) (by rfl))) hS ?_
  refine ga_take 13 rfl (by kernel_rfl) (fun _ _ => (ev_mv rfl)) hS ?_
  refine ga_take 14 rfl (by kernel_rfl) (fun _ _ => (ev_nil rfl)) hS ?_
  refine ga_take 15 rfl (by kernel_rfl) (fun _ _ => (ev_fa (j := 3) rfl Tryz.runUnderlying137 rfl Tryz.sizeOf132 rfl rfl)) hS ?_
  refine ga_take 16 rfl (by kernel_rfl) (fun _ hs => (ev_ld rfl Tryz.isAgg132 (by first | exact (hs _ _ hp).2 | exact (hs _ _ hq).2) (by rfl))) hS ?_
  refine ga_take 17 rfl (by kernel_rfl) (fun _ _ => (ev_mv rfl)) hS ?_
  refine ga_take 18 rfl (by kernel_rfl) (fun _ _ => (ev_nil rfl)) hS ?_
  refine ga_take 19 rfl (by kernel_rfl) (fun _ _ => (ev_fa (j := 4) rfl Tryz.runUnderlying137 rfl Tryz.sizeOf112 rfl rfl)) hS ?_
  refine ga_take 20 rfl (by kernel_rfl) (fun _ hs => (ev_ld rfl Tryz.isAgg112 (by first | exact (hs _ _ hp).2 | exact (hs _ _ hq).2) (by rfl))) hS ?_
  refine ga_take 21 rfl (by kernel_rfl) (fun _ _ => (ev_mv rfl)) hS ?_
  refine ga_take 22 rfl (by kernel_rfl) (fun _ _ => (ev_nil rfl)) hS ?_
  refine ga_take 23 rfl (by kernel_rfl) (fun _ _ => (ev_fa (j := 5) rfl Tryz.runUnderlying137 rfl Tryz.sizeOf134 rfl rfl)) hS ?_
  refine ga_take 24 rfl (by kernel_rfl) (fun _ hs => (ev_ld rfl Tryz.isAgg134 (by first | exact (hs _ _ hp).2 | exact (hs _ _ hq).2) (by rfl))) hS ?_
  refine ga_take 25 rfl (by kernel_rfl) (fun _ _ => (ev_nil rfl)) hS ?_
  refine ga_take 26 rfl (by kernel_rfl) (fun _ _ => (ev_fa (j := 0) rfl Tryz.runUnderlying135 rfl Tryz.sizeOf23 rfl rfl)) hS ?_
  refine ga_take 27 rfl (by kernel_rfl) (fun _ hs => (ev_ld rfl Tryz.isAgg23 (by first | exact (hs _ _ hp).2 | exact (hs _ _ hq).2) (by rfl))) hS ?_
  refine ga_take 28 rfl (by kernel_rfl) (fun _ _ => (ev_mv rfl)) hS ?_
  refine ga_take 29 rfl (by kernel_rfl) (fun _ _ => (ev_nil rfl)) hS ?_
  refine ga_take 30 rfl (by kernel_rfl) (fun _ _ => (ev_fa (j := 5) rfl Tryz.runUnderlying137 rfl Tryz.sizeOf134 rfl rfl)) hS ?_
  refine ga_take 31 rfl (by kernel_rfl) (fun _ hs => (ev_ld rfl Tryz.isAgg134 (by first | exact (hs _ _ hp).2 | exact (hs _ _ hq).2) (by rfl))) hS ?_
  refine ga_take 32 rfl (by kernel_rfl) (fun _ _ => (ev_nil rfl)) hS ?_
  refine ga_take 33 rfl (by kernel_rfl) (fun _ _ => (ev_fa (j := 1) rfl Tryz.runUnderlying135 rfl Tryz.sizeOf36 rfl rfl)) hS ?_
  refine ga_take 34 rfl (by kernel_rfl) (fun _ hs => (ev_ld rfl Tryz.isAgg36 (by first | exact (hs _ _ hp).2 | exact (hs _ _ hq).2) (by rfl))) hS ?_
  refine ga_call 35 rfl (by kernel_rfl) (ec_func Tryz.call254 rfl) (c254 (a) (b) (c) (d) (e) (f) (g) F _ bb _ _ _ h h1) ?_
  rintro _ w1 ⟨rfl, hB1, hK1⟩
  refine ⟨hS.keep hK1, fun hS => ?_⟩
  refine ga_take 36 rfl (by kernel_rfl) (fun _ _ => (ev_as rfl)) hS ?_
  refine ga_nil (by kernel_rfl) ?_
  refine gk_ret1 Tryz.results90 rfl ?_
  exact ⟨_, rfl, rfl, hB1, (Keep.drew.trans hK1)⟩

def packParent  : PK := (thn (startObject 0) (endObject))
theorem p77 {M : Mem} {p : Nat}   : Packs 77 M (ptr p) (packParent ) := by
  intro F w bb S r S' hE h hm
  obtain ⟨S1, h1, hm⟩ := thn_some hm
  have h2 := hm
  refine cr_enter Tryz.func77 rfl Tryz.ntmps77 ?_
  refine gk_seq ?_
  refine gk_region ?_
  refine gr_v (ev_as rfl) ?_
  refine gr_nil ?_
  refine gk_seq ?_
  refine gk_seq ?_
  refine gk_region ?_
  refine gr_v (ev_mv rfl) ?_
  refine gr_v (ev_pointereql rfl rfl Tryz.runUnderlying126) ?_
  refine gr_nil ?_
  refine gk_false rfl (rfl) ?_
  refine gk_skip ?_
  refine gk_seq ?_
  refine gk_region ?_
  refine gr_v (ev_mv rfl) ?_
  refine gr_call (ec_func Tryz.call247 rfl) (c247  F _ bb _ _ h h1) ?_
  rintro _ w1 ⟨rfl, hB1, hK1⟩
  have hE1 := hE.keep hK1
  refine gr_nil ?_
  refine gk_seq ?_
  refine gk_region ?_
  refine gr_v (ev_mv rfl) ?_
  refine gr_call (ec_func Tryz.call248 rfl) (c248  F _ bb _ _ _ hB1 h2) ?_
  rintro _ w2 ⟨rfl, hB2, hK2⟩
  have hE2 := hE1.keep hK2
  refine gr_v (ev_as rfl) ?_
  refine gr_nil ?_
  refine gk_ret1 Tryz.results77 rfl ?_
  exact ⟨_, rfl, rfl, hB2, (hK1.trans hK2)⟩

def packRef (a : Int) : PK := (thn (startObject 1) (thn (slotOp ((a : Int) != 0) (prepend 8 (le8 a)) 0) (endObject)))
theorem p78 {M : Mem} {p : Nat} (a : Int) {fz : Nat × Nat} (hp : M p = some (.cells #[.int .u64 a] 233 fz)) : Packs 78 M (ptr p) (packRef a) := by
  intro F w bb S r S' hE h hm
  obtain ⟨S1, h1, hm⟩ := thn_some hm
  obtain ⟨S2, h2, hm⟩ := thn_some hm
  have h3 := hm
  refine cr_enter Tryz.func78 rfl Tryz.ntmps78 ?_
  refine gk_seq ?_
  refine gk_region ?_
  refine gr_v (ev_as rfl) ?_
  refine gr_nil ?_
  refine gk_seq ?_
  refine gk_seq ?_
  refine gk_region ?_
  refine gr_v (ev_mv rfl) ?_
  refine gr_v (ev_pointereql rfl rfl Tryz.runUnderlying161) ?_
  refine gr_nil ?_
  refine gk_false rfl (rfl) ?_
  refine gk_skip ?_
  refine gk_seq ?_
  refine gk_region ?_
  refine gr_v (ev_mv rfl) ?_
  refine gr_call (ec_func Tryz.call249 rfl) (c249  F _ bb _ _ h h1) ?_
  rintro _ w1 ⟨rfl, hB1, hK1⟩
  have hE1 := hE.keep hK1
  refine gr_nil ?_
  refine gk_seq ?_
  refine gk_region ?_
  refine gr_v (ev_mv rfl) ?_
  refine gr_v (ev_mv rfl) ?_
  refine gr_v (ev_nil rfl) ?_
  refine gr_v (ev_fa (j := 0) rfl Tryz.runUnderlying233 rfl Tryz.sizeOf31 rfl rfl) ?_
  refine gr_v (ev_ld rfl Tryz.isAgg31 (by first | exact (hE1 _ _ hp).2) (by rfl)) ?_
  refine gr_call (ec_func Tryz.call250 rfl) (c250 (a) F _ bb _ _ hB1 h2) ?_
  rintro _ w2 ⟨rfl, hB2, hK2⟩
  have hE2 := hE1.keep hK2
  refine gr_nil ?_
  refine gk_seq ?_
  refine gk_region ?_
  refine gr_v (ev_mv rfl) ?_
  refine gr_call (ec_func Tryz.call251 rfl) (c251  F _ bb _ _ _ hB2 h3) ?_
  rintro _ w3 ⟨rfl, hB3, hK3⟩
  have hE3 := hE2.keep hK3
  refine gr_v (ev_as rfl) ?_
  refine gr_nil ?_
  refine gk_ret1 Tryz.results78 rfl ?_
  exact ⟨_, rfl, rfl, hB3, ((hK1.trans hK2).trans hK3)⟩

def packSimple (a : UInt8) : PK := (thn (startObject 1) (thn (slotOp (((a : UInt8).toNat : Int) != ((2 : UInt8).toNat : Int)) (prepend 1 [a]) 0) (endObject)))
theorem p233 {M : Mem} {p : Nat} (a : UInt8) {fz : Nat × Nat} (hp : M p = some (.cells #[B a] 236 fz)) : Packs 233 M (ptr p) (packSimple a) := by
  intro F w bb S r S' hE h hm
  obtain ⟨S1, h1, hm⟩ := thn_some hm
  obtain ⟨S2, h2, hm⟩ := thn_some hm
  have h3 := hm
  refine cr_enter Tryz.func233 rfl Tryz.ntmps233 ?_
  refine gk_seq ?_
  refine gk_region ?_
  refine gr_v (ev_as rfl) ?_
  refine gr_nil ?_
  refine gk_seq ?_
  refine gk_seq ?_
  refine gk_region ?_
  refine gr_v (ev_mv rfl) ?_
  refine gr_v (ev_pointereql rfl rfl Tryz.runUnderlying234) ?_
  refine gr_nil ?_
  refine gk_false rfl (rfl) ?_
  refine gk_skip ?_
  refine gk_seq ?_
  refine gk_region ?_
  refine gr_v (ev_mv rfl) ?_
  refine gr_call (ec_func Tryz.call296 rfl) (c296  F _ bb _ _ h h1) ?_
  rintro _ w1 ⟨rfl, hB1, hK1⟩
  have hE1 := hE.keep hK1
  refine gr_nil ?_
  refine gk_seq ?_
  refine gk_region ?_
  refine gr_v (ev_mv rfl) ?_
  refine gr_v (ev_mv rfl) ?_
  refine gr_v (ev_nil rfl) ?_
  refine gr_v (ev_fa (j := 0) rfl Tryz.runUnderlying236 rfl Tryz.sizeOf112 rfl rfl) ?_
  refine gr_v (ev_ld rfl Tryz.isAgg112 (by first | exact (hE1 _ _ hp).2) (by rfl)) ?_
  refine gr_call (ec_func Tryz.call297 rfl) (c297 (a) F _ bb _ _ hB1 h2) ?_
  rintro _ w2 ⟨rfl, hB2, hK2⟩
  have hE2 := hE1.keep hK2
  refine gr_nil ?_
  refine gk_seq ?_
  refine gk_region ?_
  refine gr_v (ev_mv rfl) ?_
  refine gr_call (ec_func Tryz.call298 rfl) (c298  F _ bb _ _ _ hB2 h3) ?_
  rintro _ w3 ⟨rfl, hB3, hK3⟩
  have hE3 := hE2.keep hK3
  refine gr_v (ev_as rfl) ?_
  refine gr_nil ?_
  refine gk_ret1 Tryz.results233 rfl ?_
  exact ⟨_, rfl, rfl, hB3, ((hK1.trans hK2).trans hK3)⟩

theorem n90 {M : Mem} : Packs 90 M (.pointer none) (retV 0) := by
  intro F w bb S r S' hE h hm
  obtain ⟨rfl, rfl⟩ := retV_some hm
  refine cr_enter Tryz.func90 rfl Tryz.ntmps90 ?_
  refine gk_seq ?_
  refine gk_region ?_
  refine gr_v (ev_as rfl) ?_
  refine gr_nil ?_
  refine gk_seq ?_
  refine gk_seq ?_
  refine gk_region ?_
  refine gr_v (ev_mv rfl) ?_
  refine gr_v (ev_pointereql rfl rfl Tryz.runUnderlying120) ?_
  refine gr_nil ?_
  refine gk_true rfl (rfl) ?_
  refine gk_seq ?_
  refine gk_region ?_
  refine gr_v (ev_as rfl) ?_
  refine gr_nil ?_
  refine gk_ret1 Tryz.results90 rfl ?_
  exact ⟨_, rfl, rfl, h, Keep.refl⟩

theorem n66 {M : Mem} : Packs 66 M (.pointer none) (retV 0) := by
  intro F w bb S r S' hE h hm
  obtain ⟨rfl, rfl⟩ := retV_some hm
  refine cr_enter Tryz.func66 rfl Tryz.ntmps66 ?_
  refine gk_seq ?_
  refine gk_region ?_
  refine gr_v (ev_as rfl) ?_
  refine gr_nil ?_
  refine gk_seq ?_
  refine gk_seq ?_
  refine gk_region ?_
  refine gr_v (ev_mv rfl) ?_
  refine gr_v (ev_pointereql rfl rfl Tryz.runUnderlying123) ?_
  refine gr_nil ?_
  refine gk_true rfl (rfl) ?_
  refine gk_seq ?_
  refine gk_region ?_
  refine gr_v (ev_as rfl) ?_
  refine gr_nil ?_
  refine gk_ret1 Tryz.results66 rfl ?_
  exact ⟨_, rfl, rfl, h, Keep.refl⟩

theorem n77 {M : Mem} : Packs 77 M (.pointer none) (retV 0) := by
  intro F w bb S r S' hE h hm
  obtain ⟨rfl, rfl⟩ := retV_some hm
  refine cr_enter Tryz.func77 rfl Tryz.ntmps77 ?_
  refine gk_seq ?_
  refine gk_region ?_
  refine gr_v (ev_as rfl) ?_
  refine gr_nil ?_
  refine gk_seq ?_
  refine gk_seq ?_
  refine gk_region ?_
  refine gr_v (ev_mv rfl) ?_
  refine gr_v (ev_pointereql rfl rfl Tryz.runUnderlying126) ?_
  refine gr_nil ?_
  refine gk_true rfl (rfl) ?_
  refine gk_seq ?_
  refine gk_region ?_
  refine gr_v (ev_as rfl) ?_
  refine gr_nil ?_
  refine gk_ret1 Tryz.results77 rfl ?_
  exact ⟨_, rfl, rfl, h, Keep.refl⟩

theorem n60 {M : Mem} : Packs 60 M (.pointer none) (retV 0) := by
  intro F w bb S r S' hE h hm
  obtain ⟨rfl, rfl⟩ := retV_some hm
  refine cr_enter Tryz.func60 rfl Tryz.ntmps60 ?_
  refine gk_seq ?_
  refine gk_region ?_
  refine gr_v (ev_as rfl) ?_
  refine gr_nil ?_
  refine gk_seq ?_
  refine gk_seq ?_
  refine gk_region ?_
  refine gr_v (ev_mv rfl) ?_
  refine gr_v (ev_pointereql rfl rfl Tryz.runUnderlying121) ?_
  refine gr_nil ?_
  refine gk_true rfl (rfl) ?_
  refine gk_seq ?_
  refine gk_region ?_
  refine gr_v (ev_as rfl) ?_
  refine gr_nil ?_
  refine gk_ret1 Tryz.results60 rfl ?_
  exact ⟨_, rfl, rfl, h, Keep.refl⟩

theorem n85 {M : Mem} : Packs 85 M (.pointer none) (retV 0) := by
  intro F w bb S r S' hE h hm
  obtain ⟨rfl, rfl⟩ := retV_some hm
  refine cr_enter Tryz.func85 rfl Tryz.ntmps85 ?_
  refine gk_seq ?_
  refine gk_region ?_
  refine gr_v (ev_as rfl) ?_
  refine gr_nil ?_
  refine gk_seq ?_
  refine gk_seq ?_
  refine gk_region ?_
  refine gr_v (ev_mv rfl) ?_
  refine gr_v (ev_pointereql rfl rfl Tryz.runUnderlying127) ?_
  refine gr_nil ?_
  refine gk_true rfl (rfl) ?_
  refine gk_seq ?_
  refine gk_region ?_
  refine gr_v (ev_as rfl) ?_
  refine gr_nil ?_
  refine gk_ret1 Tryz.results85 rfl ?_
  exact ⟨_, rfl, rfl, h, Keep.refl⟩

theorem n86 {M : Mem} : Packs 86 M (.pointer none) (retV 0) := by
  intro F w bb S r S' hE h hm
  obtain ⟨rfl, rfl⟩ := retV_some hm
  refine cr_enter Tryz.func86 rfl Tryz.ntmps86 ?_
  refine gk_seq ?_
  refine gk_region ?_
  refine gr_v (ev_as rfl) ?_
  refine gr_nil ?_
  refine gk_seq ?_
  refine gk_seq ?_
  refine gk_region ?_
  refine gr_v (ev_mv rfl) ?_
  refine gr_v (ev_pointereql rfl rfl Tryz.runUnderlying128) ?_
  refine gr_nil ?_
  refine gk_true rfl (rfl) ?_
  refine gk_seq ?_
  refine gk_region ?_
  refine gr_v (ev_as rfl) ?_
  refine gr_nil ?_
  refine gk_ret1 Tryz.results86 rfl ?_
  exact ⟨_, rfl, rfl, h, Keep.refl⟩

theorem n18 {M : Mem} : Packs 18 M (.pointer none) (retV 0) := by
  intro F w bb S r S' hE h hm
  obtain ⟨rfl, rfl⟩ := retV_some hm
  refine cr_enter Tryz.func18 rfl Tryz.ntmps18 ?_
  refine gk_seq ?_
  refine gk_region ?_
  refine gr_v (ev_as rfl) ?_
  refine gr_nil ?_
  refine gk_seq ?_
  refine gk_seq ?_
  refine gk_region ?_
  refine gr_v (ev_mv rfl) ?_
  refine gr_v (ev_pointereql rfl rfl Tryz.runUnderlying66) ?_
  refine gr_nil ?_
  refine gk_true rfl (rfl) ?_
  refine gk_seq ?_
  refine gk_region ?_
  refine gr_v (ev_as rfl) ?_
  refine gr_nil ?_
  refine gk_ret1 Tryz.results18 rfl ?_
  exact ⟨_, rfl, rfl, h, Keep.refl⟩

end Go.Proofs.YtjaplgfgkigmiaaGreat