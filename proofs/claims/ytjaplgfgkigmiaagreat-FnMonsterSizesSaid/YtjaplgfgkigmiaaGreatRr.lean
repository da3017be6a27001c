/-
  readMonster, at the bytes of one packed monster.
-/
import Derived.Test.YtjaplgfgkigmiaaGreatRm
namespace Go.Proofs.YtjaplgfgkigmiaaGreat
open Go Go.Proofs

def rdCells : Array Value := #[.slice none 0 0, .int .i16 150, .int .i16 80, .string (strOf [111, 114, 99]), .string ⟨#[]⟩, B 0, .int .u8 0, .slice none 0 0, .int .u8 0, .slice none 0 0, .slice none 0 0, .slice none 0 0, .slice none 0 0, .string ⟨#[]⟩, .slice none 0 0, .bool false, .int .i32 0, .int .u32 0, .int .i64 0, .int .u64 0, .int .i32 0, .int .u32 0, .int .i64 0, .int .u64 0, .slice none 0 0, .int .u32 ((0 : Nat) : Int), .int .u32 ((0 : Nat) : Int), .int .u32 ((0 : Nat) : Int), .slice none 0 0, .slice none 0 0, .string ⟨#[]⟩, .slice none 0 0, .slice none 0 0, .slice none 0 0, .bool false, .slice none 0 0, .int .u64 0, .slice none 0 0, .slice none 0 0, .int .u64 0, .slice none 0 0, .int .u64 0, .slice none 0 0, .int .u8 0, .slice none 0 0, .int .u8 0, .int .u8 0, .slice none 0 0, .int .u8 0, .string ⟨#[]⟩, .int .i8 0]
theorem ga_named {n : Nat} {P : Program} {Q : Exit → Act → World → Prop} {k : List KItem} {ops : Array Oper} {S : World → Prop} {f0 : Nat} {li0 : Array Bool} {l0 : Slots} {w0 : World}
    (h : ∀ (G : Nat → Array Bool → Slots → World → Prop), (∀ f li l w, G f li l w ↔ GA n P ops Q k S f li l w) → G f0 li0 l0 w0) : GA n P ops Q k S f0 li0 l0 w0 := h _ fun _ _ _ _ => Iff.rfl
theorem ev_allocAt {P : Program} {l : Slots} {w : World} {T t : TypeId} {zv : Value} {b : Nat} (hz : ∀ w, (zeroValue t).run P w = .ok zv w) (hs : w.heap.size = b) : EV P l (.alloc t) T w (ptr b) (w.alloc (.cells zv.cells t)) := by
  subst hs; exact ev_alloc hz
theorem ev_nilne {P : Program} {l : Slots} {w : World} {T t u : TypeId} {x y : Operand} {e : Nat} (hx : ev l x = some (.pointer none)) (hy : ev l y = some (.pointer none)) (hT : ∀ w, (underlying t).run P w = .ok (.pointer e) w) : EV P l (.binOp .neq t x y u) T w (.bool false) w := ev_pointerneq hx hy hT
theorem alloc_heap {w w' : World} {x : Obj} (h : w'.heap = w.heap) : (w'.alloc x).heap = (w.alloc x).heap := by
  show w'.heap.push x = w.heap.push x; rw [h]
theorem es_stp {P : Program} {l : Slots} {w : World} {T t : TypeId} {x y : Operand} {cs cs' vs : Array Value} {e b i sz : Nat} (hx : ev l x = some (.pointer (some ⟨b, i, none⟩))) (hy : ev l y = some (.agg vs)) (hs : ∀ w, (sizeOf t).run P w = .ok sz w) (hb : w.heap[b]? = some (.cells cs e (0, 0))) (h1 : vs.size = sz) (h2 : i + sz ≤ cs.size) (ho : ones vs) (hc : setMany cs i vs.toList = cs') :
    ES P l (.store t x y) T w (w.setB b (.cells cs' e (0, 0))) := es_of <| fun ρ o hoo _ h => by
  subst hc
  have hr := run_storeCells (P := P) (i := i) vs.toList 0 w cs hb ho (by simp; omega)
  simp only [Nat.add_zero] at hr
  simp only [execOp, hoo, h _ _ hx, h _ _ hy, Instr.storeAt]
  simp [Instr.sureAddr, storeVar, hs, Value.cells, h1, hr]

theorem m218 {w : World} {k : UInt8} {cs : Array Value} : CR Tryz.prog 218 #[B k, .bool false, .agg cs] w (fun v w' => v = .agg #[.int .u8 0, .slice none 0 0, .int .u8 0] ∧ Old w w') := by
  refine cr_enter Tryz.func218 rfl Tryz.ntmps218 ?_
  refine gk_seq ?_
  refine gk_region ?_
  refine gr_box rfl ?_
  intro w1 ho1 hb1 hs1
  refine gr_al Tryz.zeroValue47 ?_
  intro w2 ho2 hb2 hs2
  refine gr_nil ?_
  refine gk_seq ?_
  refine gk_seq ?_
  refine gk_region ?_
  refine gr_v (ev_mv rfl) ?_
  refine gr_v (ev_not rfl) ?_
  refine gr_v (ev_mv rfl) ?_
  refine gr_gs rfl rfl rfl ?_
  refine gr_gs rfl rfl rfl ?_
  refine gr_v (ev_pickT rfl rfl rfl) ?_
  refine gr_nil ?_
  refine gk_true rfl rfl ?_
  refine gk_seq ?_
  refine gk_region ?_
  refine gr_v (ev_build (ps := []) (vs := []) (cs := #[.int .u8 0, .slice none 0 0, .int .u8 0]) rfl (by kernel_rfl)) ?_
  refine gr_s (es_sta rfl rfl Tryz.sizeOf47 hb2 rfl rfl (ones_lit rfl)) ?_
  refine gr_nil ?_
  refine gk_retc Tryz.results218 rfl Tryz.isAgg47 Tryz.sizeOf47 (sb_same hb2) rfl ?_
  exact ⟨_, rfl, rfl, (ho1.trans ho2).put (by omega)⟩

set_option maxHeartbeats 8000000 in
theorem m40 {rb kb : Nat} {w : World} (hO : Orc rb kb w) : CR Tryz.prog 40 #[ptr rb] w (fun v w' => v = .agg rdCells ∧ Old w w') := by
  obtain ⟨zv, hzv, hzs⟩ : ∃ zv : Value, (∀ w, (zeroValue 52).run Tryz.prog w = .ok zv w) ∧ zv.cells.size = 51 := ⟨_, Tryz.zeroValue52, rfl⟩
  have hrl := lt_of_heap hO.r
  have hkl := lt_of_heap hO.k
  refine cr_enter Tryz.func40 rfl Tryz.ntmps40 ?_
  refine gk_seq ?_
  refine gk_region ?_
  refine gr_al hzv ?_
  intro w1 ho1 hb2 hs1
  replace hO := hO.old ho1
  refine gr_nil ?_
  refine gk_seq ?_
  refine gk_draw (fun w' => Orc rb kb w') (by kernel_rfl) ?_
  have hS : Orc rb kb w1.drew := hO.same rfl
  refine ga_take 0 rfl (by kernel_rfl) (fun _ _ => (ev_mv rfl)) hS ?_
  refine ga_take 2 rfl (by kernel_rfl) (fun _ _ => (ev_mv rfl)) hS ?_
  refine ga_take 4 rfl (by kernel_rfl) (fun _ _ => (ev_mv rfl)) hS ?_
  refine ga_take 7 rfl (by kernel_rfl) (fun _ _ => (ev_mv rfl)) hS ?_
  refine ga_take 9 rfl (by kernel_rfl) (fun _ _ => (ev_mv rfl)) hS ?_
  refine ga_take 11 rfl (by kernel_rfl) (fun _ _ => (ev_mv rfl)) hS ?_
  refine ga_take 13 rfl (by kernel_rfl) (fun _ _ => (ev_mv rfl)) hS ?_
  refine ga_take 15 rfl (by kernel_rfl) (fun _ _ => (ev_mv rfl)) hS ?_
  refine ga_take 17 rfl (by kernel_rfl) (fun _ _ => (ev_mv rfl)) hS ?_
  refine ga_take 19 rfl (by kernel_rfl) (fun _ _ => (ev_mv rfl)) hS ?_
  refine ga_take 21 rfl (by kernel_rfl) (fun _ _ => (ev_mv rfl)) hS ?_
  refine ga_take 23 rfl (by kernel_rfl) (fun _ _ => (ev_mv rfl)) hS ?_
  refine ga_take 25 rfl (by kernel_rfl) (fun _ _ => (ev_mv rfl)) hS ?_
  refine ga_take 27 rfl (by kernel_rfl) (fun _ _ => (ev_mv rfl)) hS ?_
  refine ga_take 30 rfl (by kernel_rfl) (fun _ _ => (ev_mv rfl)) hS ?_
  refine ga_take 33 rfl (by kernel_rfl) (fun _ _ => (ev_mv rfl)) hS ?_
  refine ga_take 36 rfl (by kernel_rfl) (fun _ _ => (ev_mv rfl)) hS ?_
  refine ga_take 39 rfl (by kernel_rfl) (fun _ _ => (ev_mv rfl)) hS ?_
  refine ga_take 41 rfl (by kernel_rfl) (fun _ _ => (ev_mv rfl)) hS ?_
  refine ga_take 43 rfl (by kernel_rfl) (fun _ _ => (ev_mv rfl)) hS ?_
  refine ga_take 45 rfl (by kernel_rfl) (fun _ _ => (ev_mv rfl)) hS ?_
  refine ga_norm2 (listed' := (bl 50 46807806290581)) (fuel' := 29) (by kernel_rfl) (by kernel_rfl) ?_
  refine ga_named fun G hG => ?_
  have hne2 : w.heap.size ≠ w1.heap.size := by omega
  have TE : ∀ w', w'.heap = (w1.alloc (.cells zv.cells 52)).heap → G 1 (bl 50 562949953421311) [(83, .agg rdCells), (82, .int .i8 0), (80, .int .u64 0), (78, .int .u64 0), (76, .int .u64 0), (74, .bool false), (73, .pointer none), (71, .int .u32 ((0 : Nat) : Int)), (70, .float .f32 0), (68, .int .u32 ((0 : Nat) : Int)), (67, .float .f32 0), (65, .int .u32 ((0 : Nat) : Int)), (64, .float .f32 0), (62, .int .u64 0), (60, .int .i64 0), (58, .int .u32 0), (56, .int .i32 0), (54, .int .u64 0), (52, .int .i64 0), (50, .int .u32 0), (48, .int .i32 0), (46, .bool false), (44, B 0), (42, .string (strOf [111, 114, 99])), (41, .slice (some ⟨kb, 140, none⟩) 3 4), (39, .int .i16 80), (37, .int .i16 150), (3, ptr w1.heap.size), (81, ptr rb), (79, ptr rb), (77, ptr rb), (75, ptr rb), (72, ptr rb), (69, ptr rb), (66, ptr rb), (63, ptr rb), (61, ptr rb), (59, ptr rb), (57, ptr rb), (55, ptr rb), (53, ptr rb), (51, ptr rb), (49, ptr rb), (47, ptr rb), (45, ptr rb), (43, ptr rb), (40, ptr rb), (38, ptr rb), (36, ptr rb), (2, ptr w.heap.size), (0, ptr rb)] w' := by
    intro w2 hw2
    refine (hG _ _ _ _).2 ?_
    replace hS : Orc rb kb w2 := (hO.old Old.alloc).same hw2
    have hb3 : w2.heap[w1.heap.size]? = some (.cells zv.cells 52 (0, 0)) := by rw [hw2]; exact al_new
    replace hb2 : w2.heap[w.heap.size]? = some (.cells zv.cells 52 (0, 0)) := by rw [hw2]; exact al_old hb2
    have hOld : Old w w2 := ho1.trans (Old.trans Old.alloc (Old.same hw2))
    refine ga_s 49 rfl (by kernel_rfl) (es_sta rfl rfl Tryz.sizeOf52 hb3 hzs rfl (ones_lit rfl)) ⟨sb_ne (by omega) hS.r, sb_ne (by omega) hS.k⟩ ?_
    refine ga_nil (by kernel_rfl) ?_
    obtain ⟨w3, hw3⟩ : ∃ w3, w3 = w2.setB w1.heap.size (.cells rdCells 52 (0, 0)) := ⟨_, rfl⟩
    rw [← hw3]
    replace hO : Orc rb kb w3 := by rw [hw3]; exact ⟨sb_ne (by omega) hS.r, sb_ne (by omega) hS.k⟩
    replace hb2 : w3.heap[w.heap.size]? = some (.cells zv.cells 52 (0, 0)) := by rw [hw3]; exact sb_ne hne2.symm hb2
    replace hOld : Old w w3 := by rw [hw3]; exact hOld.put (by omega)
    replace hb3 : w3.heap[w1.heap.size]? = some (.cells rdCells 52 (0, 0)) := by rw [hw3]; exact sb_same hb3
    clear hw3 hw2 hS hG
    refine gk_keep (l' := [(0, ptr rb), (2, ptr w.heap.size), (3, ptr w1.heap.size)]) ⟨rfl, rfl, rfl, trivial⟩ ?_
    refine gk_seq ?_
    refine gk_seq ?_
    refine gk_region ?_
    refine gr_v (ev_mv rfl) ?_
    refine gr_call (ec_func Tryz.call165 rfl) (m165 hO _) ?_
    rintro _ wc1 ⟨rfl, hh1⟩
    replace hO := hO.same hh1
    replace hb2 := hp hh1 hb2
    replace hb3 := hp hh1 hb3
    replace hOld := hOld.trans (Old.same hh1)
    refine gr_v (ev_as rfl) ?_
    refine gr_nil ?_
    refine gk_seq ?_
    refine gk_region ?_
    refine gr_v (ev_mv rfl) ?_
    refine gr_bb (b' := false) (ev_pointerneq rfl rfl Tryz.runUnderlying190) (rfl) ?_
    refine gr_nil ?_
    refine gk_false rfl rfl ?_
    refine gk_skip ?_
    refine gk_seq ?_
    refine gk_seq ?_
    refine gk_region ?_
    refine gr_v (ev_as rfl) ?_
    refine gr_nil ?_
    refine gk_block ?_
    refine gk_loop (fun _ : Unit => [(6, .int .i64 0), (0, ptr rb), (2, ptr w.heap.size), (3, ptr w1.heap.size)]) (fun _ w' => Orc rb kb w' ∧ w'.heap[w.heap.size]? = some (.cells zv.cells 52 (0, 0)) ∧ w'.heap[w1.heap.size]? = some (.cells rdCells 52 (0, 0)) ∧ Old w w') (fun _ => 0) () ⟨rfl, rfl, rfl, rfl, trivial⟩ ⟨hO, hb2, hb3, hOld⟩ ?_
    clear hO hb2 hb3 hOld
    rintro ⟨⟩ wl2 ⟨hO, hb2, hb3, hOld⟩
    refine gk_seq ?_
    refine gk_seq ?_
    refine gk_region ?_
    refine gr_v (ev_mv rfl) ?_
    refine gr_v (ev_mv rfl) ?_
    refine gr_call (ec_func Tryz.call175 rfl) (m175 hO) ?_
    rintro _ wc3 ⟨rfl, hh3⟩
    replace hO := hO.same hh3
    replace hb2 := hp hh3 hb2
    replace hb3 := hp hh3 hb3
    replace hOld := hOld.trans (Old.same hh3)
    refine gr_bb (b' := false) (ev_lss rfl rfl) (rfl) ?_
    refine gr_nil ?_
    refine gk_false rfl rfl ?_
    refine gk_exit rfl ?_
    refine gk_seq ?_
    refine gk_seq ?_
    refine gk_region ?_
    refine gr_v (ev_as rfl) ?_
    refine gr_nil ?_
    refine gk_block ?_
    refine gk_loop (fun _ : Unit => [(7, .int .i64 0), (0, ptr rb), (2, ptr w.heap.size), (3, ptr w1.heap.size)]) (fun _ w' => Orc rb kb w' ∧ w'.heap[w.heap.size]? = some (.cells zv.cells 52 (0, 0)) ∧ w'.heap[w1.heap.size]? = some (.cells rdCells 52 (0, 0)) ∧ Old w w') (fun _ => 0) () ⟨rfl, rfl, rfl, rfl, trivial⟩ ⟨hO, hb2, hb3, hOld⟩ ?_
    clear hO hb2 hb3 hOld
    rintro ⟨⟩ wl4 ⟨hO, hb2, hb3, hOld⟩
    refine gk_seq ?_
    refine gk_seq ?_
    refine gk_region ?_
    refine gr_v (ev_mv rfl) ?_
    refine gr_v (ev_mv rfl) ?_
    refine gr_call (ec_func Tryz.call177 rfl) (m177 hO) ?_
    rintro _ wc5 ⟨rfl, hh5⟩
    replace hO := hO.same hh5
    replace hb2 := hp hh5 hb2
    replace hb3 := hp hh5 hb3
    replace hOld := hOld.trans (Old.same hh5)
    refine gr_bb (b' := false) (ev_lss rfl rfl) (rfl) ?_
    refine gr_nil ?_
    refine gk_false rfl rfl ?_
    refine gk_exit rfl ?_
    refine gk_seq ?_
    refine gk_seq ?_
    refine gk_region ?_
    refine gr_v (ev_as rfl) ?_
    refine gr_nil ?_
    refine gk_block ?_
    refine gk_loop (fun _ : Unit => [(9, .int .i64 0), (0, ptr rb), (2, ptr w.heap.size), (3, ptr w1.heap.size)]) (fun _ w' => Orc rb kb w' ∧ w'.heap[w.heap.size]? = some (.cells zv.cells 52 (0, 0)) ∧ w'.heap[w1.heap.size]? = some (.cells rdCells 52 (0, 0)) ∧ Old w w') (fun _ => 0) () ⟨rfl, rfl, rfl, rfl, trivial⟩ ⟨hO, hb2, hb3, hOld⟩ ?_
    clear hO hb2 hb3 hOld
    rintro ⟨⟩ wl6 ⟨hO, hb2, hb3, hOld⟩
    refine gk_seq ?_
    refine gk_seq ?_
    refine gk_region ?_
    refine gr_v (ev_mv rfl) ?_
    refine gr_v (ev_mv rfl) ?_
    refine gr_call (ec_func Tryz.call179 rfl) (m179 hO) ?_
    rintro _ wc7 ⟨rfl, hh7⟩
    replace hO := hO.same hh7
    replace hb2 := hp hh7 hb2
    replace hb3 := hp hh7 hb3
    replace hOld := hOld.trans (Old.same hh7)
    refine gr_bb (b' := false) (ev_lss rfl rfl) (rfl) ?_
    refine gr_nil ?_
    refine gk_false rfl rfl ?_
    refine gk_exit rfl ?_
    refine gk_seq ?_
    refine gk_seq ?_
    refine gk_region ?_
    refine gr_v (ev_as rfl) ?_
    refine gr_nil ?_
    refine gk_block ?_
    refine gk_loop (fun _ : Unit => [(10, .int .i64 0), (0, ptr rb), (2, ptr w.heap.size), (3, ptr w1.heap.size)]) (fun _ w' => Orc rb kb w' ∧ w'.heap[w.heap.size]? = some (.cells zv.cells 52 (0, 0)) ∧ w'.heap[w1.heap.size]? = some (.cells rdCells 52 (0, 0)) ∧ Old w w') (fun _ => 0) () ⟨rfl, rfl, rfl, rfl, trivial⟩ ⟨hO, hb2, hb3, hOld⟩ ?_
    clear hO hb2 hb3 hOld
    rintro ⟨⟩ wl8 ⟨hO, hb2, hb3, hOld⟩
    refine gk_seq ?_
    refine gk_seq ?_
    refine gk_region ?_
    refine gr_v (ev_mv rfl) ?_
    refine gr_v (ev_mv rfl) ?_
    refine gr_call (ec_func Tryz.call181 rfl) (m181 hO) ?_
    rintro _ wc9 ⟨rfl, hh9⟩
    replace hO := hO.same hh9
    replace hb2 := hp hh9 hb2
    replace hb3 := hp hh9 hb3
    replace hOld := hOld.trans (Old.same hh9)
    refine gr_bb (b' := false) (ev_lss rfl rfl) (rfl) ?_
    refine gr_nil ?_
    refine gk_false rfl rfl ?_
    refine gk_exit rfl ?_
    refine gk_seq ?_
    refine gk_seq ?_
    refine gk_region ?_
    refine gr_v (ev_mv rfl) ?_
    refine gr_call (ec_func Tryz.call183 rfl) (m183 hO _) ?_
    rintro _ wc10 ⟨rfl, hh10⟩
    replace hO := hO.same hh10
    replace hb2 := hp hh10 hb2
    replace hb3 := hp hh10 hb3
    replace hOld := hOld.trans (Old.same hh10)
    refine gr_v (ev_as rfl) ?_
    refine gr_nil ?_
    refine gk_seq ?_
    refine gk_region ?_
    refine gr_v (ev_mv rfl) ?_
    refine gr_bb (b' := false) (ev_pointerneq rfl rfl Tryz.runUnderlying104) (rfl) ?_
    refine gr_nil ?_
    refine gk_false rfl rfl ?_
    refine gk_skip ?_
    refine gk_seq ?_
    refine gk_seq ?_
    refine gk_region ?_
    refine gr_v (ev_as rfl) ?_
    refine gr_nil ?_
    refine gk_block ?_
    refine gk_loop (fun _ : Unit => [(13, .int .i64 0), (0, ptr rb), (2, ptr w.heap.size), (3, ptr w1.heap.size)]) (fun _ w' => Orc rb kb w' ∧ w'.heap[w.heap.size]? = some (.cells zv.cells 52 (0, 0)) ∧ w'.heap[w1.heap.size]? = some (.cells rdCells 52 (0, 0)) ∧ Old w w') (fun _ => 0) () ⟨rfl, rfl, rfl, rfl, trivial⟩ ⟨hO, hb2, hb3, hOld⟩ ?_
    clear hO hb2 hb3 hOld
    rintro ⟨⟩ wl11 ⟨hO, hb2, hb3, hOld⟩
    refine gk_seq ?_
    refine gk_seq ?_
    refine gk_region ?_
    refine gr_v (ev_mv rfl) ?_
    refine gr_v (ev_mv rfl) ?_
    refine gr_call (ec_func Tryz.call184 rfl) (m184 hO) ?_
    rintro _ wc12 ⟨rfl, hh12⟩
    replace hO := hO.same hh12
    replace hb2 := hp hh12 hb2
    replace hb3 := hp hh12 hb3
    replace hOld := hOld.trans (Old.same hh12)
    refine gr_bb (b' := false) (ev_lss rfl rfl) (rfl) ?_
    refine gr_nil ?_
    refine gk_false rfl rfl ?_
    refine gk_exit rfl ?_
    refine gk_seq ?_
    refine gk_seq ?_
    refine gk_region ?_
    refine gr_v (ev_mv rfl) ?_
    refine gr_call (ec_func Tryz.call186 rfl) (m186 hO _) ?_
    rintro _ wc13 ⟨rfl, hh13⟩
    replace hO := hO.same hh13
    replace hb2 := hp hh13 hb2
    replace hb3 := hp hh13 hb3
    replace hOld := hOld.trans (Old.same hh13)
    refine gr_v (ev_as rfl) ?_
    refine gr_nil ?_
    refine gk_seq ?_
    refine gk_region ?_
    refine gr_v (ev_mv rfl) ?_
    refine gr_bb (b' := false) (ev_pointerneq rfl rfl Tryz.runUnderlying211) (rfl) ?_
    refine gr_nil ?_
    refine gk_false rfl rfl ?_
    refine gk_skip ?_
    refine gk_seq ?_
    refine gk_seq ?_
    refine gk_region ?_
    refine gr_v (ev_as rfl) ?_
    refine gr_nil ?_
    refine gk_block ?_
    refine gk_loop (fun _ : Unit => [(15, .int .i64 0), (0, ptr rb), (2, ptr w.heap.size), (3, ptr w1.heap.size)]) (fun _ w' => Orc rb kb w' ∧ w'.heap[w.heap.size]? = some (.cells zv.cells 52 (0, 0)) ∧ w'.heap[w1.heap.size]? = some (.cells rdCells 52 (0, 0)) ∧ Old w w') (fun _ => 0) () ⟨rfl, rfl, rfl, rfl, trivial⟩ ⟨hO, hb2, hb3, hOld⟩ ?_
    clear hO hb2 hb3 hOld
    rintro ⟨⟩ wl14 ⟨hO, hb2, hb3, hOld⟩
    refine gk_seq ?_
    refine gk_seq ?_
    refine gk_region ?_
    refine gr_v (ev_mv rfl) ?_
    refine gr_v (ev_mv rfl) ?_
    refine gr_call (ec_func Tryz.call190 rfl) (m190 hO) ?_
    rintro _ wc15 ⟨rfl, hh15⟩
    replace hO := hO.same hh15
    replace hb2 := hp hh15 hb2
    replace hb3 := hp hh15 hb3
    replace hOld := hOld.trans (Old.same hh15)
    refine gr_bb (b' := false) (ev_lss rfl rfl) (rfl) ?_
    refine gr_nil ?_
    refine gk_false rfl rfl ?_
    refine gk_exit rfl ?_
    refine gk_seq ?_
    refine gk_seq ?_
    refine gk_region ?_
    refine gr_v (ev_as rfl) ?_
    refine gr_nil ?_
    refine gk_block ?_
    refine gk_loop (fun _ : Unit => [(16, .int .i64 0), (0, ptr rb), (2, ptr w.heap.size), (3, ptr w1.heap.size)]) (fun _ w' => Orc rb kb w' ∧ w'.heap[w.heap.size]? = some (.cells zv.cells 52 (0, 0)) ∧ w'.heap[w1.heap.size]? = some (.cells rdCells 52 (0, 0)) ∧ Old w w') (fun _ => 0) () ⟨rfl, rfl, rfl, rfl, trivial⟩ ⟨hO, hb2, hb3, hOld⟩ ?_
    clear hO hb2 hb3 hOld
    rintro ⟨⟩ wl16 ⟨hO, hb2, hb3, hOld⟩
    refine gk_seq ?_
    refine gk_seq ?_
    refine gk_region ?_
    refine gr_v (ev_mv rfl) ?_
    refine gr_v (ev_mv rfl) ?_
    refine gr_call (ec_func Tryz.call192 rfl) (m192 hO) ?_
    rintro _ wc17 ⟨rfl, hh17⟩
    replace hO := hO.same hh17
    replace hb2 := hp hh17 hb2
    replace hb3 := hp hh17 hb3
    replace hOld := hOld.trans (Old.same hh17)
    refine gr_bb (b' := false) (ev_lss rfl rfl) (rfl) ?_
    refine gr_nil ?_
    refine gk_false rfl rfl ?_
    refine gk_exit rfl ?_
    refine gk_seq ?_
    refine gk_seq ?_
    refine gk_region ?_
    refine gr_v (ev_as rfl) ?_
    refine gr_nil ?_
    refine gk_block ?_
    refine gk_loop (fun _ : Unit => [(17, .int .i64 0), (0, ptr rb), (2, ptr w.heap.size), (3, ptr w1.heap.size)]) (fun _ w' => Orc rb kb w' ∧ w'.heap[w.heap.size]? = some (.cells zv.cells 52 (0, 0)) ∧ w'.heap[w1.heap.size]? = some (.cells rdCells 52 (0, 0)) ∧ Old w w') (fun _ => 0) () ⟨rfl, rfl, rfl, rfl, trivial⟩ ⟨hO, hb2, hb3, hOld⟩ ?_
    clear hO hb2 hb3 hOld
    rintro ⟨⟩ wl18 ⟨hO, hb2, hb3, hOld⟩
    refine gk_seq ?_
    refine gk_seq ?_
    refine gk_region ?_
    refine gr_v (ev_mv rfl) ?_
    refine gr_v (ev_mv rfl) ?_
    refine gr_call (ec_func Tryz.call194 rfl) (m194 hO) ?_
    rintro _ wc19 ⟨rfl, hh19⟩
    replace hO := hO.same hh19
    replace hb2 := hp hh19 hb2
    replace hb3 := hp hh19 hb3
    replace hOld := hOld.trans (Old.same hh19)
    refine gr_bb (b' := false) (ev_lss rfl rfl) (rfl) ?_
    refine gr_nil ?_
    refine gk_false rfl rfl ?_
    refine gk_exit rfl ?_
    refine gk_seq ?_
    refine gk_seq ?_
    refine gk_region ?_
    refine gr_v (ev_as rfl) ?_
    refine gr_nil ?_
    refine gk_block ?_
    refine gk_loop (fun _ : Unit => [(19, .int .i64 0), (0, ptr rb), (2, ptr w.heap.size), (3, ptr w1.heap.size)]) (fun _ w' => Orc rb kb w' ∧ w'.heap[w.heap.size]? = some (.cells zv.cells 52 (0, 0)) ∧ w'.heap[w1.heap.size]? = some (.cells rdCells 52 (0, 0)) ∧ Old w w') (fun _ => 0) () ⟨rfl, rfl, rfl, rfl, trivial⟩ ⟨hO, hb2, hb3, hOld⟩ ?_
    clear hO hb2 hb3 hOld
    rintro ⟨⟩ wl20 ⟨hO, hb2, hb3, hOld⟩
    refine gk_seq ?_
    refine gk_seq ?_
    refine gk_region ?_
    refine gr_v (ev_mv rfl) ?_
    refine gr_v (ev_mv rfl) ?_
    refine gr_call (ec_func Tryz.call198 rfl) (m198 hO) ?_
    rintro _ wc21 ⟨rfl, hh21⟩
    replace hO := hO.same hh21
    replace hb2 := hp hh21 hb2
    replace hb3 := hp hh21 hb3
    replace hOld := hOld.trans (Old.same hh21)
    refine gr_bb (b' := false) (ev_lss rfl rfl) (rfl) ?_
    refine gr_nil ?_
    refine gk_false rfl rfl ?_
    refine gk_exit rfl ?_
    refine gk_seq ?_
    refine gk_seq ?_
    refine gk_region ?_
    refine gr_v (ev_as rfl) ?_
    refine gr_nil ?_
    refine gk_block ?_
    refine gk_loop (fun _ : Unit => [(20, .int .i64 0), (0, ptr rb), (2, ptr w.heap.size), (3, ptr w1.heap.size)]) (fun _ w' => Orc rb kb w' ∧ w'.heap[w.heap.size]? = some (.cells zv.cells 52 (0, 0)) ∧ w'.heap[w1.heap.size]? = some (.cells rdCells 52 (0, 0)) ∧ Old w w') (fun _ => 0) () ⟨rfl, rfl, rfl, rfl, trivial⟩ ⟨hO, hb2, hb3, hOld⟩ ?_
    clear hO hb2 hb3 hOld
    rintro ⟨⟩ wl22 ⟨hO, hb2, hb3, hOld⟩
    refine gk_seq ?_
    refine gk_seq ?_
    refine gk_region ?_
    refine gr_v (ev_mv rfl) ?_
    refine gr_v (ev_mv rfl) ?_
    refine gr_call (ec_func Tryz.call200 rfl) (m200 hO) ?_
    rintro _ wc23 ⟨rfl, hh23⟩
    replace hO := hO.same hh23
    replace hb2 := hp hh23 hb2
    replace hb3 := hp hh23 hb3
    replace hOld := hOld.trans (Old.same hh23)
    refine gr_bb (b' := false) (ev_lss rfl rfl) (rfl) ?_
    refine gr_nil ?_
    refine gk_false rfl rfl ?_
    refine gk_exit rfl ?_
    refine gk_seq ?_
    refine gk_seq ?_
    refine gk_region ?_
    refine gr_v (ev_as rfl) ?_
    refine gr_nil ?_
    refine gk_block ?_
    refine gk_loop (fun _ : Unit => [(22, .int .i64 0), (0, ptr rb), (2, ptr w.heap.size), (3, ptr w1.heap.size)]) (fun _ w' => Orc rb kb w' ∧ w'.heap[w.heap.size]? = some (.cells zv.cells 52 (0, 0)) ∧ w'.heap[w1.heap.size]? = some (.cells rdCells 52 (0, 0)) ∧ Old w w') (fun _ => 0) () ⟨rfl, rfl, rfl, rfl, trivial⟩ ⟨hO, hb2, hb3, hOld⟩ ?_
    clear hO hb2 hb3 hOld
    rintro ⟨⟩ wl24 ⟨hO, hb2, hb3, hOld⟩
    refine gk_seq ?_
    refine gk_seq ?_
    refine gk_region ?_
    refine gr_v (ev_mv rfl) ?_
    refine gr_v (ev_mv rfl) ?_
    refine gr_call (ec_func Tryz.call202 rfl) (m202 hO) ?_
    rintro _ wc25 ⟨rfl, hh25⟩
    replace hO := hO.same hh25
    replace hb2 := hp hh25 hb2
    replace hb3 := hp hh25 hb3
    replace hOld := hOld.trans (Old.same hh25)
    refine gr_bb (b' := false) (ev_lss rfl rfl) (rfl) ?_
    refine gr_nil ?_
    refine gk_false rfl rfl ?_
    refine gk_exit rfl ?_
    refine gk_seq ?_
    refine gk_seq ?_
    refine gk_region ?_
    refine gr_v (ev_as rfl) ?_
    refine gr_nil ?_
    refine gk_block ?_
    refine gk_loop (fun _ : Unit => [(23, .int .i64 0), (0, ptr rb), (2, ptr w.heap.size), (3, ptr w1.heap.size)]) (fun _ w' => Orc rb kb w' ∧ w'.heap[w.heap.size]? = some (.cells zv.cells 52 (0, 0)) ∧ w'.heap[w1.heap.size]? = some (.cells rdCells 52 (0, 0)) ∧ Old w w') (fun _ => 0) () ⟨rfl, rfl, rfl, rfl, trivial⟩ ⟨hO, hb2, hb3, hOld⟩ ?_
    clear hO hb2 hb3 hOld
    rintro ⟨⟩ wl26 ⟨hO, hb2, hb3, hOld⟩
    refine gk_seq ?_
    refine gk_seq ?_
    refine gk_region ?_
    refine gr_v (ev_mv rfl) ?_
    refine gr_v (ev_mv rfl) ?_
    refine gr_call (ec_func Tryz.call204 rfl) (m204 hO) ?_
    rintro _ wc27 ⟨rfl, hh27⟩
    replace hO := hO.same hh27
    replace hb2 := hp hh27 hb2
    replace hb3 := hp hh27 hb3
    replace hOld := hOld.trans (Old.same hh27)
    refine gr_bb (b' := false) (ev_lss rfl rfl) (rfl) ?_
    refine gr_nil ?_
    refine gk_false rfl rfl ?_
    refine gk_exit rfl ?_
    refine gk_seq ?_
    refine gk_seq ?_
    refine gk_region ?_
    refine gr_v (ev_as rfl) ?_
    refine gr_nil ?_
    refine gk_block ?_
    refine gk_loop (fun _ : Unit => [(24, .int .i64 0), (0, ptr rb), (2, ptr w.heap.size), (3, ptr w1.heap.size)]) (fun _ w' => Orc rb kb w' ∧ w'.heap[w.heap.size]? = some (.cells zv.cells 52 (0, 0)) ∧ w'.heap[w1.heap.size]? = some (.cells rdCells 52 (0, 0)) ∧ Old w w') (fun _ => 0) () ⟨rfl, rfl, rfl, rfl, trivial⟩ ⟨hO, hb2, hb3, hOld⟩ ?_
    clear hO hb2 hb3 hOld
    rintro ⟨⟩ wl28 ⟨hO, hb2, hb3, hOld⟩
    refine gk_seq ?_
    refine gk_seq ?_
    refine gk_region ?_
    refine gr_v (ev_mv rfl) ?_
    refine gr_v (ev_mv rfl) ?_
    refine gr_call (ec_func Tryz.call206 rfl) (m206 hO) ?_
    rintro _ wc29 ⟨rfl, hh29⟩
    replace hO := hO.same hh29
    replace hb2 := hp hh29 hb2
    replace hb3 := hp hh29 hb3
    replace hOld := hOld.trans (Old.same hh29)
    refine gr_bb (b' := false) (ev_lss rfl rfl) (rfl) ?_
    refine gr_nil ?_
    refine gk_false rfl rfl ?_
    refine gk_exit rfl ?_
    refine gk_seq ?_
    refine gk_seq ?_
    refine gk_region ?_
    refine gr_v (ev_as rfl) ?_
    refine gr_nil ?_
    refine gk_block ?_
    refine gk_loop (fun _ : Unit => [(26, .int .i64 0), (0, ptr rb), (2, ptr w.heap.size), (3, ptr w1.heap.size)]) (fun _ w' => Orc rb kb w' ∧ w'.heap[w.heap.size]? = some (.cells zv.cells 52 (0, 0)) ∧ w'.heap[w1.heap.size]? = some (.cells rdCells 52 (0, 0)) ∧ Old w w') (fun _ => 0) () ⟨rfl, rfl, rfl, rfl, trivial⟩ ⟨hO, hb2, hb3, hOld⟩ ?_
    clear hO hb2 hb3 hOld
    rintro ⟨⟩ wl30 ⟨hO, hb2, hb3, hOld⟩
    refine gk_seq ?_
    refine gk_seq ?_
    refine gk_region ?_
    refine gr_v (ev_mv rfl) ?_
    refine gr_v (ev_mv rfl) ?_
    refine gr_call (ec_func Tryz.call209 rfl) (m209 hO) ?_
    rintro _ wc31 ⟨rfl, hh31⟩
    replace hO := hO.same hh31
    replace hb2 := hp hh31 hb2
    replace hb3 := hp hh31 hb3
    replace hOld := hOld.trans (Old.same hh31)
    refine gr_bb (b' := false) (ev_lss rfl rfl) (rfl) ?_
    refine gr_nil ?_
    refine gk_false rfl rfl ?_
    refine gk_exit rfl ?_
    refine gk_seq ?_
    refine gk_seq ?_
    refine gk_region ?_
    refine gr_v (ev_as rfl) ?_
    refine gr_nil ?_
    refine gk_block ?_
    refine gk_loop (fun _ : Unit => [(27, .int .i64 0), (0, ptr rb), (2, ptr w.heap.size), (3, ptr w1.heap.size)]) (fun _ w' => Orc rb kb w' ∧ w'.heap[w.heap.size]? = some (.cells zv.cells 52 (0, 0)) ∧ w'.heap[w1.heap.size]? = some (.cells rdCells 52 (0, 0)) ∧ Old w w') (fun _ => 0) () ⟨rfl, rfl, rfl, rfl, trivial⟩ ⟨hO, hb2, hb3, hOld⟩ ?_
    clear hO hb2 hb3 hOld
    rintro ⟨⟩ wl32 ⟨hO, hb2, hb3, hOld⟩
    refine gk_seq ?_
    refine gk_seq ?_
    refine gk_region ?_
    refine gr_v (ev_mv rfl) ?_
    refine gr_v (ev_mv rfl) ?_
    refine gr_call (ec_func Tryz.call211 rfl) (m211 hO) ?_
    rintro _ wc33 ⟨rfl, hh33⟩
    replace hO := hO.same hh33
    replace hb2 := hp hh33 hb2
    replace hb3 := hp hh33 hb3
    replace hOld := hOld.trans (Old.same hh33)
    refine gr_bb (b' := false) (ev_lss rfl rfl) (rfl) ?_
    refine gr_nil ?_
    refine gk_false rfl rfl ?_
    refine gk_exit rfl ?_
    refine gk_seq ?_
    refine gk_seq ?_
    refine gk_region ?_
    refine gr_v (ev_as rfl) ?_
    refine gr_nil ?_
    refine gk_block ?_
    refine gk_loop (fun _ : Unit => [(29, .int .i64 0), (0, ptr rb), (2, ptr w.heap.size), (3, ptr w1.heap.size)]) (fun _ w' => Orc rb kb w' ∧ w'.heap[w.heap.size]? = some (.cells zv.cells 52 (0, 0)) ∧ w'.heap[w1.heap.size]? = some (.cells rdCells 52 (0, 0)) ∧ Old w w') (fun _ => 0) () ⟨rfl, rfl, rfl, rfl, trivial⟩ ⟨hO, hb2, hb3, hOld⟩ ?_
    clear hO hb2 hb3 hOld
    rintro ⟨⟩ wl34 ⟨hO, hb2, hb3, hOld⟩
    refine gk_seq ?_
    refine gk_seq ?_
    refine gk_region ?_
    refine gr_v (ev_mv rfl) ?_
    refine gr_v (ev_mv rfl) ?_
    refine gr_call (ec_func Tryz.call213 rfl) (m213 hO) ?_
    rintro _ wc35 ⟨rfl, hh35⟩
    replace hO := hO.same hh35
    replace hb2 := hp hh35 hb2
    replace hb3 := hp hh35 hb3
    replace hOld := hOld.trans (Old.same hh35)
    refine gr_bb (b' := false) (ev_lss rfl rfl) (rfl) ?_
    refine gr_nil ?_
    refine gk_false rfl rfl ?_
    refine gk_exit rfl ?_
    refine gk_seq ?_
    refine gk_seq ?_
    refine gk_region ?_
    refine gr_v (ev_as rfl) ?_
    refine gr_nil ?_
    refine gk_block ?_
    refine gk_loop (fun _ : Unit => [(30, .int .i64 0), (0, ptr rb), (2, ptr w.heap.size), (3, ptr w1.heap.size)]) (fun _ w' => Orc rb kb w' ∧ w'.heap[w.heap.size]? = some (.cells zv.cells 52 (0, 0)) ∧ w'.heap[w1.heap.size]? = some (.cells rdCells 52 (0, 0)) ∧ Old w w') (fun _ => 0) () ⟨rfl, rfl, rfl, rfl, trivial⟩ ⟨hO, hb2, hb3, hOld⟩ ?_
    clear hO hb2 hb3 hOld
    rintro ⟨⟩ wl36 ⟨hO, hb2, hb3, hOld⟩
    refine gk_seq ?_
    refine gk_seq ?_
    refine gk_region ?_
    refine gr_v (ev_mv rfl) ?_
    refine gr_v (ev_mv rfl) ?_
    refine gr_call (ec_func Tryz.call215 rfl) (m215 hO) ?_
    rintro _ wc37 ⟨rfl, hh37⟩
    replace hO := hO.same hh37
    replace hb2 := hp hh37 hb2
    replace hb3 := hp hh37 hb3
    replace hOld := hOld.trans (Old.same hh37)
    refine gr_bb (b' := false) (ev_lss rfl rfl) (rfl) ?_
    refine gr_nil ?_
    refine gk_false rfl rfl ?_
    refine gk_exit rfl ?_
    refine gk_seq ?_
    refine gk_region ?_
    have hl3 := lt_of_heap hb3
    obtain ⟨B31, hB31⟩ : ∃ b, b = wc37.heap.size := ⟨_, rfl⟩
    refine gr_al Tryz.zeroValue200 ?_
    intro wa38 hoa38 hb31 hsa38
    rw [← hB31] at hb31 ⊢
    replace hO := hO.old hoa38
    replace hb2 := hoa38 _ _ hb2
    replace hb3 := hoa38 _ _ hb3
    replace hOld := hOld.trans hoa38
    have h31 : B31 ≠ w1.heap.size := fun e => by rw [e] at hB31; omega
    refine gr_nil ?_
    refine gk_seq ?_
    refine gk_region ?_
    refine gr_v (ev_mv rfl) ?_
    refine gr_call (ec_func Tryz.call217 rfl) (m217 hO _) ?_
    rintro _ wc39 ⟨rfl, hh39⟩
    replace hO := hO.same hh39
    replace hb31 := hp hh39 hb31
    replace hb2 := hp hh39 hb2
    replace hb3 := hp hh39 hb3
    replace hOld := hOld.trans (Old.same hh39)
    refine gr_v (ev_as rfl) ?_
    refine gr_nil ?_
    refine gk_seq ?_
    refine gk_draw (fun w' => w'.heap[B31]? = some (.cells (Value.cells (.agg #[.slice none 0 0, .int .u32 0])) 200 (0, 0))) (by kernel_rfl) ?_
    have hS : wc39.drew.heap[B31]? = some (.cells (Value.cells (.agg #[.slice none 0 0, .int .u32 0])) 200 (0, 0)) := hb31
    refine ga_take 0 rfl (by kernel_rfl) (fun _ _ => (ev_mv rfl)) hS ?_
    refine ga_take 2 rfl (by kernel_rfl) (fun _ _ => (ev_mv rfl)) hS ?_
    refine ga_take 3 rfl (by kernel_rfl) (fun _ hs => (ev_ldall rfl Tryz.isAgg200 Tryz.sizeOf200 hs rfl)) hS ?_
    refine ga_call 1 rfl (by kernel_rfl) (ec_func Tryz.call219 rfl) (m219 (hO.same rfl)) ?_
    rintro _ wx40 ⟨rfl, hx40⟩
    replace hx40 : wx40.heap = wc39.heap := hx40
    replace hO := hO.same hx40
    replace hb31 := hp hx40 hb31
    replace hb2 := hp hx40 hb2
    replace hb3 := hp hx40 hb3
    replace hOld := hOld.trans (Old.same hx40)
    refine ⟨hb31, fun hS => ?_⟩
    refine ga_call 4 rfl (by kernel_rfl) (ec_func Tryz.call218 rfl) (m218 (k := 0)) ?_
    rintro _ wy40 ⟨rfl, hy40⟩
    replace hO := hO.old hy40
    replace hb31 := hy40 _ _ hb31
    replace hb2 := hy40 _ _ hb2
    replace hb3 := hy40 _ _ hb3
    replace hOld := hOld.trans hy40
    refine ⟨hb31, fun hS => ?_⟩
    refine ga_take 5 rfl (by kernel_rfl) (fun _ _ => (ev_fa (j := 6) rfl Tryz.runUnderlying52 rfl Tryz.sizeOf47 rfl rfl)) hS ?_
    refine ga_s 6 rfl (by kernel_rfl) (es_stp (cs' := rdCells) rfl rfl Tryz.sizeOf47 hb3 rfl (by decide) (ones_lit rfl) (by kernel_rfl)) (sb_ne h31.symm hb31) ?_
    refine ga_nil (by kernel_rfl) ?_
    obtain ⟨wz40, hz40⟩ : ∃ wz, wz = wy40.setB w1.heap.size (.cells rdCells 52 (0, 0)) := ⟨_, rfl⟩
    rw [← hz40]
    replace hO : Orc rb kb wz40 := by rw [hz40]; exact ⟨sb_ne (by omega) hO.r, sb_ne (by omega) hO.k⟩
    replace hb2 : wz40.heap[w.heap.size]? = some (.cells zv.cells 52 (0, 0)) := by rw [hz40]; exact sb_ne hne2.symm hb2
    replace hb31 : wz40.heap[B31]? = some (.cells (Value.cells (.agg #[.slice none 0 0, .int .u32 0])) 200 (0, 0)) := by rw [hz40]; exact sb_ne h31.symm hb31
    replace hOld : Old w wz40 := by rw [hz40]; exact hOld.put (by omega)
    replace hb3 : wz40.heap[w1.heap.size]? = some (.cells rdCells 52 (0, 0)) := by rw [hz40]; exact sb_same hb3
    refine gk_seq ?_
    refine gk_region ?_
    refine gr_v (ev_mv rfl) ?_
    refine gr_call (ec_func Tryz.call220 rfl) (m220 hO _) ?_
    rintro _ wc41 ⟨rfl, hh41⟩
    replace hO := hO.same hh41
    replace hb31 := hp hh41 hb31
    replace hb2 := hp hh41 hb2
    replace hb3 := hp hh41 hb3
    replace hOld := hOld.trans (Old.same hh41)
    refine gr_v (ev_as rfl) ?_
    refine gr_nil ?_
    refine gk_seq ?_
    refine gk_draw (fun w' => w'.heap[B31]? = some (.cells (Value.cells (.agg #[.slice none 0 0, .int .u32 0])) 200 (0, 0))) (by kernel_rfl) ?_
    have hS : wc41.drew.heap[B31]? = some (.cells (Value.cells (.agg #[.slice none 0 0, .int .u32 0])) 200 (0, 0)) := hb31
    refine ga_take 0 rfl (by kernel_rfl) (fun _ _ => (ev_mv rfl)) hS ?_
    refine ga_take 2 rfl (by kernel_rfl) (fun _ _ => (ev_mv rfl)) hS ?_
    refine ga_take 3 rfl (by kernel_rfl) (fun _ hs => (ev_ldall rfl Tryz.isAgg200 Tryz.sizeOf200 hs rfl)) hS ?_
    refine ga_call 1 rfl (by kernel_rfl) (ec_func Tryz.call221 rfl) (m221 (hO.same rfl)) ?_
    rintro _ wx42 ⟨rfl, hx42⟩
    replace hx42 : wx42.heap = wc41.heap := hx42
    replace hO := hO.same hx42
    replace hb31 := hp hx42 hb31
    replace hb2 := hp hx42 hb2
    replace hb3 := hp hx42 hb3
    replace hOld := hOld.trans (Old.same hx42)
    refine ⟨hb31, fun hS => ?_⟩
    refine ga_call 4 rfl (by kernel_rfl) (ec_func Tryz.call218 rfl) (m218 (k := 0)) ?_
    rintro _ wy42 ⟨rfl, hy42⟩
    replace hO := hO.old hy42
    replace hb31 := hy42 _ _ hb31
    replace hb2 := hy42 _ _ hb2
    replace hb3 := hy42 _ _ hb3
    replace hOld := hOld.trans hy42
    refine ⟨hb31, fun hS => ?_⟩
    refine ga_take 5 rfl (by kernel_rfl) (fun _ _ => (ev_fa (j := 43) rfl Tryz.runUnderlying52 rfl Tryz.sizeOf47 rfl rfl)) hS ?_
    refine ga_s 6 rfl (by kernel_rfl) (es_stp (cs' := rdCells) rfl rfl Tryz.sizeOf47 hb3 rfl (by decide) (ones_lit rfl) (by kernel_rfl)) (sb_ne h31.symm hb31) ?_
    refine ga_nil (by kernel_rfl) ?_
    obtain ⟨wz42, hz42⟩ : ∃ wz, wz = wy42.setB w1.heap.size (.cells rdCells 52 (0, 0)) := ⟨_, rfl⟩
    rw [← hz42]
    replace hO : Orc rb kb wz42 := by rw [hz42]; exact ⟨sb_ne (by omega) hO.r, sb_ne (by omega) hO.k⟩
    replace hb2 : wz42.heap[w.heap.size]? = some (.cells zv.cells 52 (0, 0)) := by rw [hz42]; exact sb_ne hne2.symm hb2
    replace hb31 : wz42.heap[B31]? = some (.cells (Value.cells (.agg #[.slice none 0 0, .int .u32 0])) 200 (0, 0)) := by rw [hz42]; exact sb_ne h31.symm hb31
    replace hOld : Old w wz42 := by rw [hz42]; exact hOld.put (by omega)
    replace hb3 : wz42.heap[w1.heap.size]? = some (.cells rdCells 52 (0, 0)) := by rw [hz42]; exact sb_same hb3
    refine gk_seq ?_
    refine gk_seq ?_
    refine gk_region ?_
    refine gr_v (ev_mv rfl) ?_
    refine gr_call (ec_func Tryz.call222 rfl) (m222 hO) ?_
    rintro _ wc43 ⟨rfl, hh43⟩
    replace hO := hO.same hh43
    replace hb31 := hp hh43 hb31
    replace hb2 := hp hh43 hb2
    replace hb3 := hp hh43 hb3
    replace hOld := hOld.trans (Old.same hh43)
    refine gr_v (ev_as rfl) ?_
    refine gr_nil ?_
    refine gk_seq ?_
    refine gk_region ?_
    refine gr_v (ev_mv rfl) ?_
    refine gr_call (ec_func Tryz.call223 rfl) (m223 hO _) ?_
    rintro _ wc44 ⟨rfl, hh44⟩
    replace hO := hO.same hh44
    replace hb31 := hp hh44 hb31
    replace hb2 := hp hh44 hb2
    replace hb3 := hp hh44 hb3
    replace hOld := hOld.trans (Old.same hh44)
    refine gr_v (ev_mv rfl) ?_
    refine gr_gs rfl rfl rfl ?_
    refine gr_gs rfl rfl rfl ?_
    refine gr_v (ev_pickF rfl rfl rfl) ?_
    refine gr_nil ?_
    refine gk_false rfl rfl ?_
    refine gk_skip ?_
    refine gk_seq ?_
    refine gk_seq ?_
    refine gk_region ?_
    refine gr_v (ev_as rfl) ?_
    refine gr_nil ?_
    refine gk_block ?_
    refine gk_loop (fun _ : Unit => [(35, .int .i64 0), (0, ptr rb), (2, ptr w.heap.size), (3, ptr w1.heap.size)]) (fun _ w' => Orc rb kb w' ∧ w'.heap[w.heap.size]? = some (.cells zv.cells 52 (0, 0)) ∧ w'.heap[w1.heap.size]? = some (.cells rdCells 52 (0, 0)) ∧ Old w w') (fun _ => 0) () ⟨rfl, rfl, rfl, rfl, trivial⟩ ⟨hO, hb2, hb3, hOld⟩ ?_
    clear hO hb2 hb3 hOld
    rintro ⟨⟩ wl45 ⟨hO, hb2, hb3, hOld⟩
    refine gk_seq ?_
    refine gk_seq ?_
    refine gk_region ?_
    refine gr_v (ev_mv rfl) ?_
    refine gr_v (ev_mv rfl) ?_
    refine gr_call (ec_func Tryz.call225 rfl) (m225 hO) ?_
    rintro _ wc46 ⟨rfl, hh46⟩
    replace hO := hO.same hh46
    replace hb2 := hp hh46 hb2
    replace hb3 := hp hh46 hb3
    replace hOld := hOld.trans (Old.same hh46)
    refine gr_bb (b' := false) (ev_lss rfl rfl) (rfl) ?_
    refine gr_nil ?_
    refine gk_false rfl rfl ?_
    refine gk_exit rfl ?_
    refine gk_seq ?_
    refine gk_region ?_
    refine gr_v (ev_ldall rfl Tryz.isAgg52 Tryz.sizeOf52 hb3 rfl) ?_
    refine gr_s (es_sta rfl rfl Tryz.sizeOf52 hb2 hzs rfl (ones_lit rfl)) ?_
    refine gr_nil ?_
    refine gk_retc Tryz.results40 rfl Tryz.isAgg52 Tryz.sizeOf52 (sb_same hb2) rfl ?_
    exact ⟨_, rfl, rfl, hOld.put (by omega)⟩
  have T20 : ∀ w', w'.heap = (w1.alloc (.cells zv.cells 52)).heap → G 3 (bl 50 351843720888319) [(80, .int .u64 0), (78, .int .u64 0), (76, .int .u64 0), (74, .bool false), (73, .pointer none), (71, .int .u32 ((0 : Nat) : Int)), (70, .float .f32 0), (68, .int .u32 ((0 : Nat) : Int)), (67, .float .f32 0), (65, .int .u32 ((0 : Nat) : Int)), (64, .float .f32 0), (62, .int .u64 0), (60, .int .i64 0), (58, .int .u32 0), (56, .int .i32 0), (54, .int .u64 0), (52, .int .i64 0), (50, .int .u32 0), (48, .int .i32 0), (46, .bool false), (44, B 0), (42, .string (strOf [111, 114, 99])), (41, .slice (some ⟨kb, 140, none⟩) 3 4), (39, .int .i16 80), (37, .int .i16 150), (3, ptr w1.heap.size), (81, ptr rb), (79, ptr rb), (77, ptr rb), (75, ptr rb), (72, ptr rb), (69, ptr rb), (66, ptr rb), (63, ptr rb), (61, ptr rb), (59, ptr rb), (57, ptr rb), (55, ptr rb), (53, ptr rb), (51, ptr rb), (49, ptr rb), (47, ptr rb), (45, ptr rb), (43, ptr rb), (40, ptr rb), (38, ptr rb), (36, ptr rb), (2, ptr w.heap.size), (0, ptr rb)] w' := by
    intro w2 hw2
    refine (hG _ _ _ _).2 ?_
    have hS2 : Orc rb kb w2 := (hO.old Old.alloc).same hw2
    refine ga_call 46 rfl (by kernel_rfl) (ec_func Tryz.call164 rfl) (m164 hS2) ?_
    rintro _ w3 ⟨rfl, hh⟩
    refine ⟨hS2.same hh, fun hS => ?_⟩
    refine ga_take 47 rfl (by kernel_rfl) (fun _ _ => (ev_build (cs := rdCells) rfl (by kernel_rfl))) hS ?_
    refine ga_norm2 (listed' := (bl 50 562949953421311)) (fuel' := 1) (by kernel_rfl) (by kernel_rfl) ?_
    exact (hG _ _ _ _).1 (TE w3 (hh.trans hw2))
  have T19 : ∀ w', w'.heap = (w1.alloc (.cells zv.cells 52)).heap → G 4 (bl 50 334251534843903) [(78, .int .u64 0), (76, .int .u64 0), (74, .bool false), (73, .pointer none), (71, .int .u32 ((0 : Nat) : Int)), (70, .float .f32 0), (68, .int .u32 ((0 : Nat) : Int)), (67, .float .f32 0), (65, .int .u32 ((0 : Nat) : Int)), (64, .float .f32 0), (62, .int .u64 0), (60, .int .i64 0), (58, .int .u32 0), (56, .int .i32 0), (54, .int .u64 0), (52, .int .i64 0), (50, .int .u32 0), (48, .int .i32 0), (46, .bool false), (44, B 0), (42, .string (strOf [111, 114, 99])), (41, .slice (some ⟨kb, 140, none⟩) 3 4), (39, .int .i16 80), (37, .int .i16 150), (3, ptr w1.heap.size), (81, ptr rb), (79, ptr rb), (77, ptr rb), (75, ptr rb), (72, ptr rb), (69, ptr rb), (66, ptr rb), (63, ptr rb), (61, ptr rb), (59, ptr rb), (57, ptr rb), (55, ptr rb), (53, ptr rb), (51, ptr rb), (49, ptr rb), (47, ptr rb), (45, ptr rb), (43, ptr rb), (40, ptr rb), (38, ptr rb), (36, ptr rb), (2, ptr w.heap.size), (0, ptr rb)] w' := by
    intro w2 hw2
    refine (hG _ _ _ _).2 ?_
    have hS2 : Orc rb kb w2 := (hO.old Old.alloc).same hw2
    refine ga_call 44 rfl (by kernel_rfl) (ec_func Tryz.call163 rfl) (m163 hS2) ?_
    rintro _ w3 ⟨rfl, hh⟩
    refine ⟨hS2.same hh, fun hS => ?_⟩
    refine ga_norm2 (listed' := (bl 50 351843720888319)) (fuel' := 3) (by kernel_rfl) (by kernel_rfl) ?_
    exact (hG _ _ _ _).1 (T20 w3 (hh.trans hw2))
  have T18 : ∀ w', w'.heap = (w1.alloc (.cells zv.cells 52)).heap → G 5 (bl 50 329853488332799) [(76, .int .u64 0), (74, .bool false), (73, .pointer none), (71, .int .u32 ((0 : Nat) : Int)), (70, .float .f32 0), (68, .int .u32 ((0 : Nat) : Int)), (67, .float .f32 0), (65, .int .u32 ((0 : Nat) : Int)), (64, .float .f32 0), (62, .int .u64 0), (60, .int .i64 0), (58, .int .u32 0), (56, .int .i32 0), (54, .int .u64 0), (52, .int .i64 0), (50, .int .u32 0), (48, .int .i32 0), (46, .bool false), (44, B 0), (42, .string (strOf [111, 114, 99])), (41, .slice (some ⟨kb, 140, none⟩) 3 4), (39, .int .i16 80), (37, .int .i16 150), (3, ptr w1.heap.size), (81, ptr rb), (79, ptr rb), (77, ptr rb), (75, ptr rb), (72, ptr rb), (69, ptr rb), (66, ptr rb), (63, ptr rb), (61, ptr rb), (59, ptr rb), (57, ptr rb), (55, ptr rb), (53, ptr rb), (51, ptr rb), (49, ptr rb), (47, ptr rb), (45, ptr rb), (43, ptr rb), (40, ptr rb), (38, ptr rb), (36, ptr rb), (2, ptr w.heap.size), (0, ptr rb)] w' := by
    intro w2 hw2
    refine (hG _ _ _ _).2 ?_
    have hS2 : Orc rb kb w2 := (hO.old Old.alloc).same hw2
    refine ga_call 42 rfl (by kernel_rfl) (ec_func Tryz.call162 rfl) (m162 hS2) ?_
    rintro _ w3 ⟨rfl, hh⟩
    refine ⟨hS2.same hh, fun hS => ?_⟩
    refine ga_norm2 (listed' := (bl 50 334251534843903)) (fuel' := 4) (by kernel_rfl) (by kernel_rfl) ?_
    exact (hG _ _ _ _).1 (T19 w3 (hh.trans hw2))
  have T17 : ∀ w', w'.heap = (w1.alloc (.cells zv.cells 52)).heap → G 6 (bl 50 328753976705023) [(74, .bool false), (73, .pointer none), (71, .int .u32 ((0 : Nat) : Int)), (70, .float .f32 0), (68, .int .u32 ((0 : Nat) : Int)), (67, .float .f32 0), (65, .int .u32 ((0 : Nat) : Int)), (64, .float .f32 0), (62, .int .u64 0), (60, .int .i64 0), (58, .int .u32 0), (56, .int .i32 0), (54, .int .u64 0), (52, .int .i64 0), (50, .int .u32 0), (48, .int .i32 0), (46, .bool false), (44, B 0), (42, .string (strOf [111, 114, 99])), (41, .slice (some ⟨kb, 140, none⟩) 3 4), (39, .int .i16 80), (37, .int .i16 150), (3, ptr w1.heap.size), (81, ptr rb), (79, ptr rb), (77, ptr rb), (75, ptr rb), (72, ptr rb), (69, ptr rb), (66, ptr rb), (63, ptr rb), (61, ptr rb), (59, ptr rb), (57, ptr rb), (55, ptr rb), (53, ptr rb), (51, ptr rb), (49, ptr rb), (47, ptr rb), (45, ptr rb), (43, ptr rb), (40, ptr rb), (38, ptr rb), (36, ptr rb), (2, ptr w.heap.size), (0, ptr rb)] w' := by
    intro w2 hw2
    refine (hG _ _ _ _).2 ?_
    have hS2 : Orc rb kb w2 := (hO.old Old.alloc).same hw2
    refine ga_call 40 rfl (by kernel_rfl) (ec_func Tryz.call161 rfl) (m161 hS2) ?_
    rintro _ w3 ⟨rfl, hh⟩
    refine ⟨hS2.same hh, fun hS => ?_⟩
    refine ga_norm2 (listed' := (bl 50 329853488332799)) (fuel' := 5) (by kernel_rfl) (by kernel_rfl) ?_
    exact (hG _ _ _ _).1 (T18 w3 (hh.trans hw2))
  have T16 : ∀ w', w'.heap = (w1.alloc (.cells zv.cells 52)).heap → G 8 (bl 50 328341659844607) [(71, .int .u32 ((0 : Nat) : Int)), (70, .float .f32 0), (68, .int .u32 ((0 : Nat) : Int)), (67, .float .f32 0), (65, .int .u32 ((0 : Nat) : Int)), (64, .float .f32 0), (62, .int .u64 0), (60, .int .i64 0), (58, .int .u32 0), (56, .int .i32 0), (54, .int .u64 0), (52, .int .i64 0), (50, .int .u32 0), (48, .int .i32 0), (46, .bool false), (44, B 0), (42, .string (strOf [111, 114, 99])), (41, .slice (some ⟨kb, 140, none⟩) 3 4), (39, .int .i16 80), (37, .int .i16 150), (3, ptr w1.heap.size), (81, ptr rb), (79, ptr rb), (77, ptr rb), (75, ptr rb), (72, ptr rb), (69, ptr rb), (66, ptr rb), (63, ptr rb), (61, ptr rb), (59, ptr rb), (57, ptr rb), (55, ptr rb), (53, ptr rb), (51, ptr rb), (49, ptr rb), (47, ptr rb), (45, ptr rb), (43, ptr rb), (40, ptr rb), (38, ptr rb), (36, ptr rb), (2, ptr w.heap.size), (0, ptr rb)] w' := by
    intro w2 hw2
    refine (hG _ _ _ _).2 ?_
    have hS2 : Orc rb kb w2 := (hO.old Old.alloc).same hw2
    refine ga_call 37 rfl (by kernel_rfl) (ec_func Tryz.call160 rfl) (m160 hS2 _) ?_
    rintro _ w3 ⟨rfl, hh⟩
    refine ⟨hS2.same hh, fun hS => ?_⟩
    refine ga_take 38 rfl (by kernel_rfl) (fun _ _ => (ev_nilne rfl rfl Tryz.runUnderlying187)) hS ?_
    refine ga_norm2 (listed' := (bl 50 328753976705023)) (fuel' := 6) (by kernel_rfl) (by kernel_rfl) ?_
    exact (hG _ _ _ _).1 (T17 w3 (hh.trans hw2))
  have T15 : ∀ w', w'.heap = (w1.alloc (.cells zv.cells 52)).heap → G 10 (bl 50 328290120237055) [(68, .int .u32 ((0 : Nat) : Int)), (67, .float .f32 0), (65, .int .u32 ((0 : Nat) : Int)), (64, .float .f32 0), (62, .int .u64 0), (60, .int .i64 0), (58, .int .u32 0), (56, .int .i32 0), (54, .int .u64 0), (52, .int .i64 0), (50, .int .u32 0), (48, .int .i32 0), (46, .bool false), (44, B 0), (42, .string (strOf [111, 114, 99])), (41, .slice (some ⟨kb, 140, none⟩) 3 4), (39, .int .i16 80), (37, .int .i16 150), (3, ptr w1.heap.size), (81, ptr rb), (79, ptr rb), (77, ptr rb), (75, ptr rb), (72, ptr rb), (69, ptr rb), (66, ptr rb), (63, ptr rb), (61, ptr rb), (59, ptr rb), (57, ptr rb), (55, ptr rb), (53, ptr rb), (51, ptr rb), (49, ptr rb), (47, ptr rb), (45, ptr rb), (43, ptr rb), (40, ptr rb), (38, ptr rb), (36, ptr rb), (2, ptr w.heap.size), (0, ptr rb)] w' := by
    intro w2 hw2
    refine (hG _ _ _ _).2 ?_
    have hS2 : Orc rb kb w2 := (hO.old Old.alloc).same hw2
    refine ga_call 34 rfl (by kernel_rfl) (ec_func Tryz.call159 rfl) (m159 hS2) ?_
    rintro _ w3 ⟨rfl, hh⟩
    refine ⟨hS2.same hh, fun hS => ?_⟩
    refine ga_take 35 rfl (by kernel_rfl) (fun _ _ => (ev_ext rfl (x156 _ _))) hS ?_
    refine ga_norm2 (listed' := (bl 50 328341659844607)) (fuel' := 8) (by kernel_rfl) (by kernel_rfl) ?_
    exact (hG _ _ _ _).1 (T16 w3 (hh.trans hw2))
  have T14 : ∀ w', w'.heap = (w1.alloc (.cells zv.cells 52)).heap → G 12 (bl 50 328283677786111) [(65, .int .u32 ((0 : Nat) : Int)), (64, .float .f32 0), (62, .int .u64 0), (60, .int .i64 0), (58, .int .u32 0), (56, .int .i32 0), (54, .int .u64 0), (52, .int .i64 0), (50, .int .u32 0), (48, .int .i32 0), (46, .bool false), (44, B 0), (42, .string (strOf [111, 114, 99])), (41, .slice (some ⟨kb, 140, none⟩) 3 4), (39, .int .i16 80), (37, .int .i16 150), (3, ptr w1.heap.size), (81, ptr rb), (79, ptr rb), (77, ptr rb), (75, ptr rb), (72, ptr rb), (69, ptr rb), (66, ptr rb), (63, ptr rb), (61, ptr rb), (59, ptr rb), (57, ptr rb), (55, ptr rb), (53, ptr rb), (51, ptr rb), (49, ptr rb), (47, ptr rb), (45, ptr rb), (43, ptr rb), (40, ptr rb), (38, ptr rb), (36, ptr rb), (2, ptr w.heap.size), (0, ptr rb)] w' := by
    intro w2 hw2
    refine (hG _ _ _ _).2 ?_
    have hS2 : Orc rb kb w2 := (hO.old Old.alloc).same hw2
    refine ga_call 31 rfl (by kernel_rfl) (ec_func Tryz.call158 rfl) (m158 hS2) ?_
    rintro _ w3 ⟨rfl, hh⟩
    refine ⟨hS2.same hh, fun hS => ?_⟩
    refine ga_take 32 rfl (by kernel_rfl) (fun _ _ => (ev_ext rfl (x156 _ _))) hS ?_
    refine ga_norm2 (listed' := (bl 50 328290120237055)) (fuel' := 10) (by kernel_rfl) (by kernel_rfl) ?_
    exact (hG _ _ _ _).1 (T15 w3 (hh.trans hw2))
  have T13 : ∀ w', w'.heap = (w1.alloc (.cells zv.cells 52)).heap → G 14 (bl 50 328282872479743) [(62, .int .u64 0), (60, .int .i64 0), (58, .int .u32 0), (56, .int .i32 0), (54, .int .u64 0), (52, .int .i64 0), (50, .int .u32 0), (48, .int .i32 0), (46, .bool false), (44, B 0), (42, .string (strOf [111, 114, 99])), (41, .slice (some ⟨kb, 140, none⟩) 3 4), (39, .int .i16 80), (37, .int .i16 150), (3, ptr w1.heap.size), (81, ptr rb), (79, ptr rb), (77, ptr rb), (75, ptr rb), (72, ptr rb), (69, ptr rb), (66, ptr rb), (63, ptr rb), (61, ptr rb), (59, ptr rb), (57, ptr rb), (55, ptr rb), (53, ptr rb), (51, ptr rb), (49, ptr rb), (47, ptr rb), (45, ptr rb), (43, ptr rb), (40, ptr rb), (38, ptr rb), (36, ptr rb), (2, ptr w.heap.size), (0, ptr rb)] w' := by
    intro w2 hw2
    refine (hG _ _ _ _).2 ?_
    have hS2 : Orc rb kb w2 := (hO.old Old.alloc).same hw2
    refine ga_call 28 rfl (by kernel_rfl) (ec_func Tryz.call157 rfl) (m157 hS2) ?_
    rintro _ w3 ⟨rfl, hh⟩
    refine ⟨hS2.same hh, fun hS => ?_⟩
    refine ga_take 29 rfl (by kernel_rfl) (fun _ _ => (ev_ext rfl (x156 _ _))) hS ?_
    refine ga_norm2 (listed' := (bl 50 328283677786111)) (fuel' := 12) (by kernel_rfl) (by kernel_rfl) ?_
    exact (hG _ _ _ _).1 (T14 w3 (hh.trans hw2))
  have T12 : ∀ w', w'.heap = (w1.alloc (.cells zv.cells 52)).heap → G 15 (bl 50 328282805370879) [(60, .int .i64 0), (58, .int .u32 0), (56, .int .i32 0), (54, .int .u64 0), (52, .int .i64 0), (50, .int .u32 0), (48, .int .i32 0), (46, .bool false), (44, B 0), (42, .string (strOf [111, 114, 99])), (41, .slice (some ⟨kb, 140, none⟩) 3 4), (39, .int .i16 80), (37, .int .i16 150), (3, ptr w1.heap.size), (81, ptr rb), (79, ptr rb), (77, ptr rb), (75, ptr rb), (72, ptr rb), (69, ptr rb), (66, ptr rb), (63, ptr rb), (61, ptr rb), (59, ptr rb), (57, ptr rb), (55, ptr rb), (53, ptr rb), (51, ptr rb), (49, ptr rb), (47, ptr rb), (45, ptr rb), (43, ptr rb), (40, ptr rb), (38, ptr rb), (36, ptr rb), (2, ptr w.heap.size), (0, ptr rb)] w' := by
    intro w2 hw2
    refine (hG _ _ _ _).2 ?_
    have hS2 : Orc rb kb w2 := (hO.old Old.alloc).same hw2
    refine ga_call 26 rfl (by kernel_rfl) (ec_func Tryz.call155 rfl) (m155 hS2) ?_
    rintro _ w3 ⟨rfl, hh⟩
    refine ⟨hS2.same hh, fun hS => ?_⟩
    refine ga_norm2 (listed' := (bl 50 328282872479743)) (fuel' := 14) (by kernel_rfl) (by kernel_rfl) ?_
    exact (hG _ _ _ _).1 (T13 w3 (hh.trans hw2))
  have T11 : ∀ w', w'.heap = (w1.alloc (.cells zv.cells 52)).heap → G 16 (bl 50 328282788593663) [(58, .int .u32 0), (56, .int .i32 0), (54, .int .u64 0), (52, .int .i64 0), (50, .int .u32 0), (48, .int .i32 0), (46, .bool false), (44, B 0), (42, .string (strOf [111, 114, 99])), (41, .slice (some ⟨kb, 140, none⟩) 3 4), (39, .int .i16 80), (37, .int .i16 150), (3, ptr w1.heap.size), (81, ptr rb), (79, ptr rb), (77, ptr rb), (75, ptr rb), (72, ptr rb), (69, ptr rb), (66, ptr rb), (63, ptr rb), (61, ptr rb), (59, ptr rb), (57, ptr rb), (55, ptr rb), (53, ptr rb), (51, ptr rb), (49, ptr rb), (47, ptr rb), (45, ptr rb), (43, ptr rb), (40, ptr rb), (38, ptr rb), (36, ptr rb), (2, ptr w.heap.size), (0, ptr rb)] w' := by
    intro w2 hw2
    refine (hG _ _ _ _).2 ?_
    have hS2 : Orc rb kb w2 := (hO.old Old.alloc).same hw2
    refine ga_call 24 rfl (by kernel_rfl) (ec_func Tryz.call154 rfl) (m154 hS2) ?_
    rintro _ w3 ⟨rfl, hh⟩
    refine ⟨hS2.same hh, fun hS => ?_⟩
    refine ga_norm2 (listed' := (bl 50 328282805370879)) (fuel' := 15) (by kernel_rfl) (by kernel_rfl) ?_
    exact (hG _ _ _ _).1 (T12 w3 (hh.trans hw2))
  have T10 : ∀ w', w'.heap = (w1.alloc (.cells zv.cells 52)).heap → G 17 (bl 50 328282784399359) [(56, .int .i32 0), (54, .int .u64 0), (52, .int .i64 0), (50, .int .u32 0), (48, .int .i32 0), (46, .bool false), (44, B 0), (42, .string (strOf [111, 114, 99])), (41, .slice (some ⟨kb, 140, none⟩) 3 4), (39, .int .i16 80), (37, .int .i16 150), (3, ptr w1.heap.size), (81, ptr rb), (79, ptr rb), (77, ptr rb), (75, ptr rb), (72, ptr rb), (69, ptr rb), (66, ptr rb), (63, ptr rb), (61, ptr rb), (59, ptr rb), (57, ptr rb), (55, ptr rb), (53, ptr rb), (51, ptr rb), (49, ptr rb), (47, ptr rb), (45, ptr rb), (43, ptr rb), (40, ptr rb), (38, ptr rb), (36, ptr rb), (2, ptr w.heap.size), (0, ptr rb)] w' := by
    intro w2 hw2
    refine (hG _ _ _ _).2 ?_
    have hS2 : Orc rb kb w2 := (hO.old Old.alloc).same hw2
    refine ga_call 22 rfl (by kernel_rfl) (ec_func Tryz.call153 rfl) (m153 hS2) ?_
    rintro _ w3 ⟨rfl, hh⟩
    refine ⟨hS2.same hh, fun hS => ?_⟩
    refine ga_norm2 (listed' := (bl 50 328282788593663)) (fuel' := 16) (by kernel_rfl) (by kernel_rfl) ?_
    exact (hG _ _ _ _).1 (T11 w3 (hh.trans hw2))
  have T9 : ∀ w', w'.heap = (w1.alloc (.cells zv.cells 52)).heap → G 18 (bl 50 328282783350783) [(54, .int .u64 0), (52, .int .i64 0), (50, .int .u32 0), (48, .int .i32 0), (46, .bool false), (44, B 0), (42, .string (strOf [111, 114, 99])), (41, .slice (some ⟨kb, 140, none⟩) 3 4), (39, .int .i16 80), (37, .int .i16 150), (3, ptr w1.heap.size), (81, ptr rb), (79, ptr rb), (77, ptr rb), (75, ptr rb), (72, ptr rb), (69, ptr rb), (66, ptr rb), (63, ptr rb), (61, ptr rb), (59, ptr rb), (57, ptr rb), (55, ptr rb), (53, ptr rb), (51, ptr rb), (49, ptr rb), (47, ptr rb), (45, ptr rb), (43, ptr rb), (40, ptr rb), (38, ptr rb), (36, ptr rb), (2, ptr w.heap.size), (0, ptr rb)] w' := by
    intro w2 hw2
    refine (hG _ _ _ _).2 ?_
    have hS2 : Orc rb kb w2 := (hO.old Old.alloc).same hw2
    refine ga_call 20 rfl (by kernel_rfl) (ec_func Tryz.call152 rfl) (m152 hS2) ?_
    rintro _ w3 ⟨rfl, hh⟩
    refine ⟨hS2.same hh, fun hS => ?_⟩
    refine ga_norm2 (listed' := (bl 50 328282784399359)) (fuel' := 17) (by kernel_rfl) (by kernel_rfl) ?_
    exact (hG _ _ _ _).1 (T10 w3 (hh.trans hw2))
  have T8 : ∀ w', w'.heap = (w1.alloc (.cells zv.cells 52)).heap → G 19 (bl 50 328282783088639) [(52, .int .i64 0), (50, .int .u32 0), (48, .int .i32 0), (46, .bool false), (44, B 0), (42, .string (strOf [111, 114, 99])), (41, .slice (some ⟨kb, 140, none⟩) 3 4), (39, .int .i16 80), (37, .int .i16 150), (3, ptr w1.heap.size), (81, ptr rb), (79, ptr rb), (77, ptr rb), (75, ptr rb), (72, ptr rb), (69, ptr rb), (66, ptr rb), (63, ptr rb), (61, ptr rb), (59, ptr rb), (57, ptr rb), (55, ptr rb), (53, ptr rb), (51, ptr rb), (49, ptr rb), (47, ptr rb), (45, ptr rb), (43, ptr rb), (40, ptr rb), (38, ptr rb), (36, ptr rb), (2, ptr w.heap.size), (0, ptr rb)] w' := by
    intro w2 hw2
    refine (hG _ _ _ _).2 ?_
    have hS2 : Orc rb kb w2 := (hO.old Old.alloc).same hw2
    refine ga_call 18 rfl (by kernel_rfl) (ec_func Tryz.call151 rfl) (m151 hS2) ?_
    rintro _ w3 ⟨rfl, hh⟩
    refine ⟨hS2.same hh, fun hS => ?_⟩
    refine ga_norm2 (listed' := (bl 50 328282783350783)) (fuel' := 18) (by kernel_rfl) (by kernel_rfl) ?_
    exact (hG _ _ _ _).1 (T9 w3 (hh.trans hw2))
  have T7 : ∀ w', w'.heap = (w1.alloc (.cells zv.cells 52)).heap → G 20 (bl 50 328282783023103) [(50, .int .u32 0), (48, .int .i32 0), (46, .bool false), (44, B 0), (42, .string (strOf [111, 114, 99])), (41, .slice (some ⟨kb, 140, none⟩) 3 4), (39, .int .i16 80), (37, .int .i16 150), (3, ptr w1.heap.size), (81, ptr rb), (79, ptr rb), (77, ptr rb), (75, ptr rb), (72, ptr rb), (69, ptr rb), (66, ptr rb), (63, ptr rb), (61, ptr rb), (59, ptr rb), (57, ptr rb), (55, ptr rb), (53, ptr rb), (51, ptr rb), (49, ptr rb), (47, ptr rb), (45, ptr rb), (43, ptr rb), (40, ptr rb), (38, ptr rb), (36, ptr rb), (2, ptr w.heap.size), (0, ptr rb)] w' := by
    intro w2 hw2
    refine (hG _ _ _ _).2 ?_
    have hS2 : Orc rb kb w2 := (hO.old Old.alloc).same hw2
    refine ga_call 16 rfl (by kernel_rfl) (ec_func Tryz.call150 rfl) (m150 hS2) ?_
    rintro _ w3 ⟨rfl, hh⟩
    refine ⟨hS2.same hh, fun hS => ?_⟩
    refine ga_norm2 (listed' := (bl 50 328282783088639)) (fuel' := 19) (by kernel_rfl) (by kernel_rfl) ?_
    exact (hG _ _ _ _).1 (T8 w3 (hh.trans hw2))
  have T6 : ∀ w', w'.heap = (w1.alloc (.cells zv.cells 52)).heap → G 21 (bl 50 328282783006719) [(48, .int .i32 0), (46, .bool false), (44, B 0), (42, .string (strOf [111, 114, 99])), (41, .slice (some ⟨kb, 140, none⟩) 3 4), (39, .int .i16 80), (37, .int .i16 150), (3, ptr w1.heap.size), (81, ptr rb), (79, ptr rb), (77, ptr rb), (75, ptr rb), (72, ptr rb), (69, ptr rb), (66, ptr rb), (63, ptr rb), (61, ptr rb), (59, ptr rb), (57, ptr rb), (55, ptr rb), (53, ptr rb), (51, ptr rb), (49, ptr rb), (47, ptr rb), (45, ptr rb), (43, ptr rb), (40, ptr rb), (38, ptr rb), (36, ptr rb), (2, ptr w.heap.size), (0, ptr rb)] w' := by
    intro w2 hw2
    refine (hG _ _ _ _).2 ?_
    have hS2 : Orc rb kb w2 := (hO.old Old.alloc).same hw2
    refine ga_call 14 rfl (by kernel_rfl) (ec_func Tryz.call149 rfl) (m149 hS2) ?_
    rintro _ w3 ⟨rfl, hh⟩
    refine ⟨hS2.same hh, fun hS => ?_⟩
    refine ga_norm2 (listed' := (bl 50 328282783023103)) (fuel' := 20) (by kernel_rfl) (by kernel_rfl) ?_
    exact (hG _ _ _ _).1 (T7 w3 (hh.trans hw2))
  have T5 : ∀ w', w'.heap = (w1.alloc (.cells zv.cells 52)).heap → G 22 (bl 50 328282783002623) [(46, .bool false), (44, B 0), (42, .string (strOf [111, 114, 99])), (41, .slice (some ⟨kb, 140, none⟩) 3 4), (39, .int .i16 80), (37, .int .i16 150), (3, ptr w1.heap.size), (81, ptr rb), (79, ptr rb), (77, ptr rb), (75, ptr rb), (72, ptr rb), (69, ptr rb), (66, ptr rb), (63, ptr rb), (61, ptr rb), (59, ptr rb), (57, ptr rb), (55, ptr rb), (53, ptr rb), (51, ptr rb), (49, ptr rb), (47, ptr rb), (45, ptr rb), (43, ptr rb), (40, ptr rb), (38, ptr rb), (36, ptr rb), (2, ptr w.heap.size), (0, ptr rb)] w' := by
    intro w2 hw2
    refine (hG _ _ _ _).2 ?_
    have hS2 : Orc rb kb w2 := (hO.old Old.alloc).same hw2
    refine ga_call 12 rfl (by kernel_rfl) (ec_func Tryz.call148 rfl) (m148 hS2) ?_
    rintro _ w3 ⟨rfl, hh⟩
    refine ⟨hS2.same hh, fun hS => ?_⟩
    refine ga_norm2 (listed' := (bl 50 328282783006719)) (fuel' := 21) (by kernel_rfl) (by kernel_rfl) ?_
    exact (hG _ _ _ _).1 (T6 w3 (hh.trans hw2))
  have T4 : ∀ w', w'.heap = (w1.alloc (.cells zv.cells 52)).heap → G 23 (bl 50 328282783001599) [(44, B 0), (42, .string (strOf [111, 114, 99])), (41, .slice (some ⟨kb, 140, none⟩) 3 4), (39, .int .i16 80), (37, .int .i16 150), (3, ptr w1.heap.size), (81, ptr rb), (79, ptr rb), (77, ptr rb), (75, ptr rb), (72, ptr rb), (69, ptr rb), (66, ptr rb), (63, ptr rb), (61, ptr rb), (59, ptr rb), (57, ptr rb), (55, ptr rb), (53, ptr rb), (51, ptr rb), (49, ptr rb), (47, ptr rb), (45, ptr rb), (43, ptr rb), (40, ptr rb), (38, ptr rb), (36, ptr rb), (2, ptr w.heap.size), (0, ptr rb)] w' := by
    intro w2 hw2
    refine (hG _ _ _ _).2 ?_
    have hS2 : Orc rb kb w2 := (hO.old Old.alloc).same hw2
    refine ga_call 10 rfl (by kernel_rfl) (ec_func Tryz.call147 rfl) (m147 hS2) ?_
    rintro _ w3 ⟨rfl, hh⟩
    refine ⟨hS2.same hh, fun hS => ?_⟩
    refine ga_norm2 (listed' := (bl 50 328282783002623)) (fuel' := 22) (by kernel_rfl) (by kernel_rfl) ?_
    exact (hG _ _ _ _).1 (T5 w3 (hh.trans hw2))
  have T3 : ∀ w', w'.heap = (w1.alloc (.cells zv.cells 52)).heap → G 24 (bl 50 328282783001343) [(42, .string (strOf [111, 114, 99])), (41, .slice (some ⟨kb, 140, none⟩) 3 4), (39, .int .i16 80), (37, .int .i16 150), (3, ptr w1.heap.size), (81, ptr rb), (79, ptr rb), (77, ptr rb), (75, ptr rb), (72, ptr rb), (69, ptr rb), (66, ptr rb), (63, ptr rb), (61, ptr rb), (59, ptr rb), (57, ptr rb), (55, ptr rb), (53, ptr rb), (51, ptr rb), (49, ptr rb), (47, ptr rb), (45, ptr rb), (43, ptr rb), (40, ptr rb), (38, ptr rb), (36, ptr rb), (2, ptr w.heap.size), (0, ptr rb)] w' := by
    intro w2 hw2
    refine (hG _ _ _ _).2 ?_
    have hS2 : Orc rb kb w2 := (hO.old Old.alloc).same hw2
    refine ga_call 8 rfl (by kernel_rfl) (ec_func Tryz.call146 rfl) (m146 hS2) ?_
    rintro _ w3 ⟨rfl, hh⟩
    refine ⟨hS2.same hh, fun hS => ?_⟩
    refine ga_norm2 (listed' := (bl 50 328282783001599)) (fuel' := 23) (by kernel_rfl) (by kernel_rfl) ?_
    exact (hG _ _ _ _).1 (T4 w3 (hh.trans hw2))
  have T2 : ∀ w', w'.heap = (w1.alloc (.cells zv.cells 52)).heap → G 26 (bl 50 328282783001247) [(39, .int .i16 80), (37, .int .i16 150), (3, ptr w1.heap.size), (81, ptr rb), (79, ptr rb), (77, ptr rb), (75, ptr rb), (72, ptr rb), (69, ptr rb), (66, ptr rb), (63, ptr rb), (61, ptr rb), (59, ptr rb), (57, ptr rb), (55, ptr rb), (53, ptr rb), (51, ptr rb), (49, ptr rb), (47, ptr rb), (45, ptr rb), (43, ptr rb), (40, ptr rb), (38, ptr rb), (36, ptr rb), (2, ptr w.heap.size), (0, ptr rb)] w' := by
    intro w2 hw2
    refine (hG _ _ _ _).2 ?_
    have hS2 : Orc rb kb w2 := (hO.old Old.alloc).same hw2
    refine ga_call 5 rfl (by kernel_rfl) (ec_func Tryz.call145 rfl) (m145 hS2) ?_
    rintro _ w3 ⟨rfl, hh⟩
    refine ⟨hS2.same hh, fun hS => ?_⟩
    refine ga_take 6 rfl (by kernel_rfl) (fun _ hs => (ev_strOf (bs := [111, 114, 99]) (junk := orcB.take 140) (ex := [0]) rfl (by rw [show orcB.take 140 ++ [111, 114, 99] ++ [0] = orcB from by kernel_rfl]; exact hs.k) (by kernel_rfl))) hS ?_
    refine ga_norm2 (listed' := (bl 50 328282783001343)) (fuel' := 24) (by kernel_rfl) (by kernel_rfl) ?_
    exact (hG _ _ _ _).1 (T3 w3 (hh.trans hw2))
  have T1 : ∀ w', w'.heap = (w1.alloc (.cells zv.cells 52)).heap → G 27 (bl 50 328282783001239) [(37, .int .i16 150), (3, ptr w1.heap.size), (81, ptr rb), (79, ptr rb), (77, ptr rb), (75, ptr rb), (72, ptr rb), (69, ptr rb), (66, ptr rb), (63, ptr rb), (61, ptr rb), (59, ptr rb), (57, ptr rb), (55, ptr rb), (53, ptr rb), (51, ptr rb), (49, ptr rb), (47, ptr rb), (45, ptr rb), (43, ptr rb), (40, ptr rb), (38, ptr rb), (36, ptr rb), (2, ptr w.heap.size), (0, ptr rb)] w' := by
    intro w2 hw2
    refine (hG _ _ _ _).2 ?_
    have hS2 : Orc rb kb w2 := (hO.old Old.alloc).same hw2
    refine ga_call 3 rfl (by kernel_rfl) (ec_func Tryz.call144 rfl) (m144 hS2) ?_
    rintro _ w3 ⟨rfl, hh⟩
    refine ⟨hS2.same hh, fun hS => ?_⟩
    refine ga_norm2 (listed' := (bl 50 328282783001247)) (fuel' := 26) (by kernel_rfl) (by kernel_rfl) ?_
    exact (hG _ _ _ _).1 (T2 w3 (hh.trans hw2))
  have T0 : ∀ w', w'.heap = (w1.alloc (.cells zv.cells 52)).heap → G 28 (bl 50 328282783001237) [(3, ptr w1.heap.size), (81, ptr rb), (79, ptr rb), (77, ptr rb), (75, ptr rb), (72, ptr rb), (69, ptr rb), (66, ptr rb), (63, ptr rb), (61, ptr rb), (59, ptr rb), (57, ptr rb), (55, ptr rb), (53, ptr rb), (51, ptr rb), (49, ptr rb), (47, ptr rb), (45, ptr rb), (43, ptr rb), (40, ptr rb), (38, ptr rb), (36, ptr rb), (2, ptr w.heap.size), (0, ptr rb)] w' := by
    intro w2 hw2
    refine (hG _ _ _ _).2 ?_
    have hS2 : Orc rb kb w2 := (hO.old Old.alloc).same hw2
    refine ga_call 1 rfl (by kernel_rfl) (ec_func Tryz.call143 rfl) (m143 hS2) ?_
    rintro _ w3 ⟨rfl, hh⟩
    refine ⟨hS2.same hh, fun hS => ?_⟩
    refine ga_norm2 (listed' := (bl 50 328282783001239)) (fuel' := 27) (by kernel_rfl) (by kernel_rfl) ?_
    exact (hG _ _ _ _).1 (T1 w3 (hh.trans hw2))
  have hh0 : w1.drew.heap = w1.heap := rfl
  refine (hG _ _ _ _).2 ?_
  refine ga_go2 (i := 1) (j := 48) (by kernel_rfl) ?_ ?_
  · skip
    refine go_call rfl (ec_func Tryz.call143 rfl) (m143 hS) ?_
    rintro _ wf0 ⟨rfl, hf0⟩
    refine ⟨hS.same hf0, fun hS => ?_⟩
    refine ga_norm2 (listed' := (bl 50 46807806290583)) (fuel' := 28) (by kernel_rfl) (by kernel_rfl) ?_
    replace hh0 := hf0.trans hh0
    refine ga_go2 (i := 3) (j := 48) (by kernel_rfl) ?_ ?_
    · skip
      refine go_call rfl (ec_func Tryz.call144 rfl) (m144 hS) ?_
      rintro _ wf1 ⟨rfl, hf1⟩
      refine ⟨hS.same hf1, fun hS => ?_⟩
      refine ga_norm2 (listed' := (bl 50 46807806290591)) (fuel' := 27) (by kernel_rfl) (by kernel_rfl) ?_
      replace hh0 := hf1.trans hh0
      refine ga_go2 (i := 5) (j := 48) (by kernel_rfl) ?_ ?_
      · skip
        refine go_call rfl (ec_func Tryz.call145 rfl) (m145 hS) ?_
        rintro _ wf2 ⟨rfl, hf2⟩
        refine ⟨hS.same hf2, fun hS => ?_⟩
        refine ga_take 6 rfl (by kernel_rfl) (fun _ hs => (ev_strOf (bs := [111, 114, 99]) (junk := orcB.take 140) (ex := [0]) rfl (by rw [show orcB.take 140 ++ [111, 114, 99] ++ [0] = orcB from by kernel_rfl]; exact hs.k) (by kernel_rfl))) hS ?_
        refine ga_norm2 (listed' := (bl 50 46807806290687)) (fuel' := 25) (by kernel_rfl) (by kernel_rfl) ?_
        replace hh0 := hf2.trans hh0
        refine ga_go2 (i := 8) (j := 48) (by kernel_rfl) ?_ ?_
        · skip
          refine go_call rfl (ec_func Tryz.call146 rfl) (m146 hS) ?_
          rintro _ wf3 ⟨rfl, hf3⟩
          refine ⟨hS.same hf3, fun hS => ?_⟩
          refine ga_norm2 (listed' := (bl 50 46807806290943)) (fuel' := 24) (by kernel_rfl) (by kernel_rfl) ?_
          replace hh0 := hf3.trans hh0
          refine ga_go2 (i := 10) (j := 48) (by kernel_rfl) ?_ ?_
          · skip
            refine go_call rfl (ec_func Tryz.call147 rfl) (m147 hS) ?_
            rintro _ wf4 ⟨rfl, hf4⟩
            refine ⟨hS.same hf4, fun hS => ?_⟩
            refine ga_norm2 (listed' := (bl 50 46807806291967)) (fuel' := 23) (by kernel_rfl) (by kernel_rfl) ?_
            replace hh0 := hf4.trans hh0
            refine ga_go2 (i := 12) (j := 48) (by kernel_rfl) ?_ ?_
            · skip
              refine go_call rfl (ec_func Tryz.call148 rfl) (m148 hS) ?_
              rintro _ wf5 ⟨rfl, hf5⟩
              refine ⟨hS.same hf5, fun hS => ?_⟩
              refine ga_norm2 (listed' := (bl 50 46807806296063)) (fuel' := 22) (by kernel_rfl) (by kernel_rfl) ?_
              replace hh0 := hf5.trans hh0
              refine ga_go2 (i := 14) (j := 48) (by kernel_rfl) ?_ ?_
              · skip
                refine go_call rfl (ec_func Tryz.call149 rfl) (m149 hS) ?_
                rintro _ wf6 ⟨rfl, hf6⟩
                refine ⟨hS.same hf6, fun hS => ?_⟩
                refine ga_norm2 (listed' := (bl 50 46807806312447)) (fuel' := 21) (by kernel_rfl) (by kernel_rfl) ?_
                replace hh0 := hf6.trans hh0
                refine ga_go2 (i := 16) (j := 48) (by kernel_rfl) ?_ ?_
                · skip
                  refine go_call rfl (ec_func Tryz.call150 rfl) (m150 hS) ?_
                  rintro _ wf7 ⟨rfl, hf7⟩
                  refine ⟨hS.same hf7, fun hS => ?_⟩
                  refine ga_norm2 (listed' := (bl 50 46807806377983)) (fuel' := 20) (by kernel_rfl) (by kernel_rfl) ?_
                  replace hh0 := hf7.trans hh0
                  refine ga_go2 (i := 18) (j := 48) (by kernel_rfl) ?_ ?_
                  · skip
                    refine go_call rfl (ec_func Tryz.call151 rfl) (m151 hS) ?_
                    rintro _ wf8 ⟨rfl, hf8⟩
                    refine ⟨hS.same hf8, fun hS => ?_⟩
                    refine ga_norm2 (listed' := (bl 50 46807806640127)) (fuel' := 19) (by kernel_rfl) (by kernel_rfl) ?_
                    replace hh0 := hf8.trans hh0
                    refine ga_go2 (i := 20) (j := 48) (by kernel_rfl) ?_ ?_
                    · skip
                      refine go_call rfl (ec_func Tryz.call152 rfl) (m152 hS) ?_
                      rintro _ wf9 ⟨rfl, hf9⟩
                      refine ⟨hS.same hf9, fun hS => ?_⟩
                      refine ga_norm2 (listed' := (bl 50 46807807688703)) (fuel' := 18) (by kernel_rfl) (by kernel_rfl) ?_
                      replace hh0 := hf9.trans hh0
                      refine ga_go2 (i := 22) (j := 48) (by kernel_rfl) ?_ ?_
                      · skip
                        refine go_call rfl (ec_func Tryz.call153 rfl) (m153 hS) ?_
                        rintro _ wf10 ⟨rfl, hf10⟩
                        refine ⟨hS.same hf10, fun hS => ?_⟩
                        refine ga_norm2 (listed' := (bl 50 46807811883007)) (fuel' := 17) (by kernel_rfl) (by kernel_rfl) ?_
                        replace hh0 := hf10.trans hh0
                        refine ga_go2 (i := 24) (j := 48) (by kernel_rfl) ?_ ?_
                        · skip
                          refine go_call rfl (ec_func Tryz.call154 rfl) (m154 hS) ?_
                          rintro _ wf11 ⟨rfl, hf11⟩
                          refine ⟨hS.same hf11, fun hS => ?_⟩
                          refine ga_norm2 (listed' := (bl 50 46807828660223)) (fuel' := 16) (by kernel_rfl) (by kernel_rfl) ?_
                          replace hh0 := hf11.trans hh0
                          refine ga_go2 (i := 26) (j := 48) (by kernel_rfl) ?_ ?_
                          · skip
                            refine go_call rfl (ec_func Tryz.call155 rfl) (m155 hS) ?_
                            rintro _ wf12 ⟨rfl, hf12⟩
                            refine ⟨hS.same hf12, fun hS => ?_⟩
                            refine ga_norm2 (listed' := (bl 50 46807895769087)) (fuel' := 15) (by kernel_rfl) (by kernel_rfl) ?_
                            replace hh0 := hf12.trans hh0
                            refine ga_go2 (i := 28) (j := 48) (by kernel_rfl) ?_ ?_
                            · skip
                              refine go_call rfl (ec_func Tryz.call157 rfl) (m157 hS) ?_
                              rintro _ wf13 ⟨rfl, hf13⟩
                              refine ⟨hS.same hf13, fun hS => ?_⟩
                              refine ga_take 29 rfl (by kernel_rfl) (fun _ _ => (ev_ext rfl (x156 _ _))) hS ?_
                              refine ga_norm2 (listed' := (bl 50 46808701075455)) (fuel' := 13) (by kernel_rfl) (by kernel_rfl) ?_
                              replace hh0 := hf13.trans hh0
                              refine ga_go2 (i := 31) (j := 48) (by kernel_rfl) ?_ ?_
                              · skip
                                refine go_call rfl (ec_func Tryz.call158 rfl) (m158 hS) ?_
                                rintro _ wf14 ⟨rfl, hf14⟩
                                refine ⟨hS.same hf14, fun hS => ?_⟩
                                refine ga_take 32 rfl (by kernel_rfl) (fun _ _ => (ev_ext rfl (x156 _ _))) hS ?_
                                refine ga_norm2 (listed' := (bl 50 46815143526399)) (fuel' := 11) (by kernel_rfl) (by kernel_rfl) ?_
                                replace hh0 := hf14.trans hh0
                                refine ga_go2 (i := 34) (j := 48) (by kernel_rfl) ?_ ?_
                                · skip
                                  refine go_call rfl (ec_func Tryz.call159 rfl) (m159 hS) ?_
                                  rintro _ wf15 ⟨rfl, hf15⟩
                                  refine ⟨hS.same hf15, fun hS => ?_⟩
                                  refine ga_take 35 rfl (by kernel_rfl) (fun _ _ => (ev_ext rfl (x156 _ _))) hS ?_
                                  refine ga_norm2 (listed' := (bl 50 46866683133951)) (fuel' := 9) (by kernel_rfl) (by kernel_rfl) ?_
                                  replace hh0 := hf15.trans hh0
                                  refine ga_go2 (i := 37) (j := 48) (by kernel_rfl) ?_ ?_
                                  · skip
                                    refine go_call rfl (ec_func Tryz.call160 rfl) (m160 hS _) ?_
                                    rintro _ wf16 ⟨rfl, hf16⟩
                                    refine ⟨hS.same hf16, fun hS => ?_⟩
                                    refine ga_take 38 rfl (by kernel_rfl) (fun _ _ => (ev_nilne rfl rfl Tryz.runUnderlying187)) hS ?_
                                    refine ga_norm2 (listed' := (bl 50 47278999994367)) (fuel' := 7) (by kernel_rfl) (by kernel_rfl) ?_
                                    replace hh0 := hf16.trans hh0
                                    refine ga_go2 (i := 40) (j := 48) (by kernel_rfl) ?_ ?_
                                    · skip
                                      refine go_call rfl (ec_func Tryz.call161 rfl) (m161 hS) ?_
                                      rintro _ wf17 ⟨rfl, hf17⟩
                                      refine ⟨hS.same hf17, fun hS => ?_⟩
                                      refine ga_norm2 (listed' := (bl 50 48378511622143)) (fuel' := 6) (by kernel_rfl) (by kernel_rfl) ?_
                                      replace hh0 := hf17.trans hh0
                                      refine ga_go2 (i := 42) (j := 48) (by kernel_rfl) ?_ ?_
                                      · skip
                                        refine go_call rfl (ec_func Tryz.call162 rfl) (m162 hS) ?_
                                        rintro _ wf18 ⟨rfl, hf18⟩
                                        refine ⟨hS.same hf18, fun hS => ?_⟩
                                        refine ga_norm2 (listed' := (bl 50 52776558133247)) (fuel' := 5) (by kernel_rfl) (by kernel_rfl) ?_
                                        replace hh0 := hf18.trans hh0
                                        refine ga_go2 (i := 44) (j := 48) (by kernel_rfl) ?_ ?_
                                        · skip
                                          refine go_call rfl (ec_func Tryz.call163 rfl) (m163 hS) ?_
                                          rintro _ wf19 ⟨rfl, hf19⟩
                                          refine ⟨hS.same hf19, fun hS => ?_⟩
                                          refine ga_norm2 (listed' := (bl 50 70368744177663)) (fuel' := 4) (by kernel_rfl) (by kernel_rfl) ?_
                                          replace hh0 := hf19.trans hh0
                                          refine ga_go2 (i := 46) (j := 48) (by kernel_rfl) ?_ ?_
                                          · skip
                                            refine go_call rfl (ec_func Tryz.call164 rfl) (m164 hS) ?_
                                            rintro _ wf20 ⟨rfl, hf20⟩
                                            refine ⟨hS.same hf20, fun hS => ?_⟩
                                            refine ga_take 47 rfl (by kernel_rfl) (fun _ _ => (ev_build (cs := rdCells) rfl (by kernel_rfl))) hS ?_
                                            refine ga_norm2 (listed' := (bl 50 281474976710655)) (fuel' := 2) (by kernel_rfl) (by kernel_rfl) ?_
                                            replace hh0 := hf20.trans hh0
                                            refine ga_v 48 rfl (by kernel_rfl) (ev_allocAt hzv (by rw [hh0])) (hS.old Old.alloc) ?_
                                            refine ga_norm2 (listed' := (bl 50 562949953421311)) (fuel' := 1) (by kernel_rfl) (by kernel_rfl) ?_
                                            exact ga_keep (by exact ⟨rfl, rfl, rfl, rfl, rfl, rfl, rfl, rfl, rfl, rfl, rfl, rfl, rfl, rfl, rfl, rfl, rfl, rfl, rfl, rfl, rfl, rfl, rfl, rfl, rfl, rfl, rfl, rfl, rfl, rfl, rfl, rfl, rfl, rfl, rfl, rfl, rfl, rfl, rfl, rfl, rfl, rfl, rfl, rfl, rfl, rfl, rfl, rfl, rfl, rfl, rfl, trivial⟩) ((hG _ _ _ _).1 (TE _ (alloc_heap hh0)))
                                          · skip
                                            refine go_v rfl (ev_allocAt hzv (by rw [hh0])) (hS.old Old.alloc) ?_
                                            refine ga_norm2 (listed' := (bl 50 351843720888319)) (fuel' := 3) (by kernel_rfl) (by kernel_rfl) ?_
                                            exact ga_keep (by exact ⟨rfl, rfl, rfl, rfl, rfl, rfl, rfl, rfl, rfl, rfl, rfl, rfl, rfl, rfl, rfl, rfl, rfl, rfl, rfl, rfl, rfl, rfl, rfl, rfl, rfl, rfl, rfl, rfl, rfl, rfl, rfl, rfl, rfl, rfl, rfl, rfl, rfl, rfl, rfl, rfl, rfl, rfl, rfl, rfl, rfl, rfl, rfl, rfl, rfl, trivial⟩) ((hG _ _ _ _).1 (T20 _ (alloc_heap hh0)))
                                        · skip
                                          refine go_v rfl (ev_allocAt hzv (by rw [hh0])) (hS.old Old.alloc) ?_
                                          refine ga_norm2 (listed' := (bl 50 334251534843903)) (fuel' := 4) (by kernel_rfl) (by kernel_rfl) ?_
                                          exact ga_keep (by exact ⟨rfl, rfl, rfl, rfl, rfl, rfl, rfl, rfl, rfl, rfl, rfl, rfl, rfl, rfl, rfl, rfl, rfl, rfl, rfl, rfl, rfl, rfl, rfl, rfl, rfl, rfl, rfl, rfl, rfl, rfl, rfl, rfl, rfl, rfl, rfl, rfl, rfl, rfl, rfl, rfl, rfl, rfl, rfl, rfl, rfl, rfl, rfl, rfl, trivial⟩) ((hG _ _ _ _).1 (T19 _ (alloc_heap hh0)))
                                      · skip
                                        refine go_v rfl (ev_allocAt hzv (by rw [hh0])) (hS.old Old.alloc) ?_
                                        refine ga_norm2 (listed' := (bl 50 329853488332799)) (fuel' := 5) (by kernel_rfl) (by kernel_rfl) ?_
                                        exact ga_keep (by exact ⟨rfl, rfl, rfl, rfl, rfl, rfl, rfl, rfl, rfl, rfl, rfl, rfl, rfl, rfl, rfl, rfl, rfl, rfl, rfl, rfl, rfl, rfl, rfl, rfl, rfl, rfl, rfl, rfl, rfl, rfl, rfl, rfl, rfl, rfl, rfl, rfl, rfl, rfl, rfl, rfl, rfl, rfl, rfl, rfl, rfl, rfl, rfl, trivial⟩) ((hG _ _ _ _).1 (T18 _ (alloc_heap hh0)))
                                    · skip
                                      refine go_v rfl (ev_allocAt hzv (by rw [hh0])) (hS.old Old.alloc) ?_
                                      refine ga_norm2 (listed' := (bl 50 328753976705023)) (fuel' := 6) (by kernel_rfl) (by kernel_rfl) ?_
                                      exact ga_keep (by exact ⟨rfl, rfl, rfl, rfl, rfl, rfl, rfl, rfl, rfl, rfl, rfl, rfl, rfl, rfl, rfl, rfl, rfl, rfl, rfl, rfl, rfl, rfl, rfl, rfl, rfl, rfl, rfl, rfl, rfl, rfl, rfl, rfl, rfl, rfl, rfl, rfl, rfl, rfl, rfl, rfl, rfl, rfl, rfl, rfl, rfl, rfl, trivial⟩) ((hG _ _ _ _).1 (T17 _ (alloc_heap hh0)))
                                  · skip
                                    refine go_v rfl (ev_allocAt hzv (by rw [hh0])) (hS.old Old.alloc) ?_
                                    refine ga_norm2 (listed' := (bl 50 328341659844607)) (fuel' := 8) (by kernel_rfl) (by kernel_rfl) ?_
                                    exact ga_keep (by exact ⟨rfl, rfl, rfl, rfl, rfl, rfl, rfl, rfl, rfl, rfl, rfl, rfl, rfl, rfl, rfl, rfl, rfl, rfl, rfl, rfl, rfl, rfl, rfl, rfl, rfl, rfl, rfl, rfl, rfl, rfl, rfl, rfl, rfl, rfl, rfl, rfl, rfl, rfl, rfl, rfl, rfl, rfl, rfl, rfl, trivial⟩) ((hG _ _ _ _).1 (T16 _ (alloc_heap hh0)))
                                · skip
                                  refine go_v rfl (ev_allocAt hzv (by rw [hh0])) (hS.old Old.alloc) ?_
                                  refine ga_norm2 (listed' := (bl 50 328290120237055)) (fuel' := 10) (by kernel_rfl) (by kernel_rfl) ?_
                                  exact ga_keep (by exact ⟨rfl, rfl, rfl, rfl, rfl, rfl, rfl, rfl, rfl, rfl, rfl, rfl, rfl, rfl, rfl, rfl, rfl, rfl, rfl, rfl, rfl, rfl, rfl, rfl, rfl, rfl, rfl, rfl, rfl, rfl, rfl, rfl, rfl, rfl, rfl, rfl, rfl, rfl, rfl, rfl, rfl, rfl, trivial⟩) ((hG _ _ _ _).1 (T15 _ (alloc_heap hh0)))
                              · skip
                                refine go_v rfl (ev_allocAt hzv (by rw [hh0])) (hS.old Old.alloc) ?_
                                refine ga_norm2 (listed' := (bl 50 328283677786111)) (fuel' := 12) (by kernel_rfl) (by kernel_rfl) ?_
                                exact ga_keep (by exact ⟨rfl, rfl, rfl, rfl, rfl, rfl, rfl, rfl, rfl, rfl, rfl, rfl, rfl, rfl, rfl, rfl, rfl, rfl, rfl, rfl, rfl, rfl, rfl, rfl, rfl, rfl, rfl, rfl, rfl, rfl, rfl, rfl, rfl, rfl, rfl, rfl, rfl, rfl, rfl, rfl, trivial⟩) ((hG _ _ _ _).1 (T14 _ (alloc_heap hh0)))
                            · skip
                              refine go_v rfl (ev_allocAt hzv (by rw [hh0])) (hS.old Old.alloc) ?_
                              refine ga_norm2 (listed' := (bl 50 328282872479743)) (fuel' := 14) (by kernel_rfl) (by kernel_rfl) ?_
                              exact ga_keep (by exact ⟨rfl, rfl, rfl, rfl, rfl, rfl, rfl, rfl, rfl, rfl, rfl, rfl, rfl, rfl, rfl, rfl, rfl, rfl, rfl, rfl, rfl, rfl, rfl, rfl, rfl, rfl, rfl, rfl, rfl, rfl, rfl, rfl, rfl, rfl, rfl, rfl, rfl, rfl, trivial⟩) ((hG _ _ _ _).1 (T13 _ (alloc_heap hh0)))
                          · skip
                            refine go_v rfl (ev_allocAt hzv (by rw [hh0])) (hS.old Old.alloc) ?_
                            refine ga_norm2 (listed' := (bl 50 328282805370879)) (fuel' := 15) (by kernel_rfl) (by kernel_rfl) ?_
                            exact ga_keep (by exact ⟨rfl, rfl, rfl, rfl, rfl, rfl, rfl, rfl, rfl, rfl, rfl, rfl, rfl, rfl, rfl, rfl, rfl, rfl, rfl, rfl, rfl, rfl, rfl, rfl, rfl, rfl, rfl, rfl, rfl, rfl, rfl, rfl, rfl, rfl, rfl, rfl, rfl, trivial⟩) ((hG _ _ _ _).1 (T12 _ (alloc_heap hh0)))
                        · skip
                          refine go_v rfl (ev_allocAt hzv (by rw [hh0])) (hS.old Old.alloc) ?_
                          refine ga_norm2 (listed' := (bl 50 328282788593663)) (fuel' := 16) (by kernel_rfl) (by kernel_rfl) ?_
                          exact ga_keep (by exact ⟨rfl, rfl, rfl, rfl, rfl, rfl, rfl, rfl, rfl, rfl, rfl, rfl, rfl, rfl, rfl, rfl, rfl, rfl, rfl, rfl, rfl, rfl, rfl, rfl, rfl, rfl, rfl, rfl, rfl, rfl, rfl, rfl, rfl, rfl, rfl, rfl, trivial⟩) ((hG _ _ _ _).1 (T11 _ (alloc_heap hh0)))
                      · skip
                        refine go_v rfl (ev_allocAt hzv (by rw [hh0])) (hS.old Old.alloc) ?_
                        refine ga_norm2 (listed' := (bl 50 328282784399359)) (fuel' := 17) (by kernel_rfl) (by kernel_rfl) ?_
                        exact ga_keep (by exact ⟨rfl, rfl, rfl, rfl, rfl, rfl, rfl, rfl, rfl, rfl, rfl, rfl, rfl, rfl, rfl, rfl, rfl, rfl, rfl, rfl, rfl, rfl, rfl, rfl, rfl, rfl, rfl, rfl, rfl, rfl, rfl, rfl, rfl, rfl, rfl, trivial⟩) ((hG _ _ _ _).1 (T10 _ (alloc_heap hh0)))
                    · skip
                      refine go_v rfl (ev_allocAt hzv (by rw [hh0])) (hS.old Old.alloc) ?_
                      refine ga_norm2 (listed' := (bl 50 328282783350783)) (fuel' := 18) (by kernel_rfl) (by kernel_rfl) ?_
                      exact ga_keep (by exact ⟨rfl, rfl, rfl, rfl, rfl, rfl, rfl, rfl, rfl, rfl, rfl, rfl, rfl, rfl, rfl, rfl, rfl, rfl, rfl, rfl, rfl, rfl, rfl, rfl, rfl, rfl, rfl, rfl, rfl, rfl, rfl, rfl, rfl, rfl, trivial⟩) ((hG _ _ _ _).1 (T9 _ (alloc_heap hh0)))
                  · skip
                    refine go_v rfl (ev_allocAt hzv (by rw [hh0])) (hS.old Old.alloc) ?_
                    refine ga_norm2 (listed' := (bl 50 328282783088639)) (fuel' := 19) (by kernel_rfl) (by kernel_rfl) ?_
                    exact ga_keep (by exact ⟨rfl, rfl, rfl, rfl, rfl, rfl, rfl, rfl, rfl, rfl, rfl, rfl, rfl, rfl, rfl, rfl, rfl, rfl, rfl, rfl, rfl, rfl, rfl, rfl, rfl, rfl, rfl, rfl, rfl, rfl, rfl, rfl, rfl, trivial⟩) ((hG _ _ _ _).1 (T8 _ (alloc_heap hh0)))
                · skip
                  refine go_v rfl (ev_allocAt hzv (by rw [hh0])) (hS.old Old.alloc) ?_
                  refine ga_norm2 (listed' := (bl 50 328282783023103)) (fuel' := 20) (by kernel_rfl) (by kernel_rfl) ?_
                  exact ga_keep (by exact ⟨rfl, rfl, rfl, rfl, rfl, rfl, rfl, rfl, rfl, rfl, rfl, rfl, rfl, rfl, rfl, rfl, rfl, rfl, rfl, rfl, rfl, rfl, rfl, rfl, rfl, rfl, rfl, rfl, rfl, rfl, rfl, rfl, trivial⟩) ((hG _ _ _ _).1 (T7 _ (alloc_heap hh0)))
              · skip
                refine go_v rfl (ev_allocAt hzv (by rw [hh0])) (hS.old Old.alloc) ?_
                refine ga_norm2 (listed' := (bl 50 328282783006719)) (fuel' := 21) (by kernel_rfl) (by kernel_rfl) ?_
                exact ga_keep (by exact ⟨rfl, rfl, rfl, rfl, rfl, rfl, rfl, rfl, rfl, rfl, rfl, rfl, rfl, rfl, rfl, rfl, rfl, rfl, rfl, rfl, rfl, rfl, rfl, rfl, rfl, rfl, rfl, rfl, rfl, rfl, rfl, trivial⟩) ((hG _ _ _ _).1 (T6 _ (alloc_heap hh0)))
            · skip
              refine go_v rfl (ev_allocAt hzv (by rw [hh0])) (hS.old Old.alloc) ?_
              refine ga_norm2 (listed' := (bl 50 328282783002623)) (fuel' := 22) (by kernel_rfl) (by kernel_rfl) ?_
              exact ga_keep (by exact ⟨rfl, rfl, rfl, rfl, rfl, rfl, rfl, rfl, rfl, rfl, rfl, rfl, rfl, rfl, rfl, rfl, rfl, rfl, rfl, rfl, rfl, rfl, rfl, rfl, rfl, rfl, rfl, rfl, rfl, rfl, trivial⟩) ((hG _ _ _ _).1 (T5 _ (alloc_heap hh0)))
          · skip
            refine go_v rfl (ev_allocAt hzv (by rw [hh0])) (hS.old Old.alloc) ?_
            refine ga_norm2 (listed' := (bl 50 328282783001599)) (fuel' := 23) (by kernel_rfl) (by kernel_rfl) ?_
            exact ga_keep (by exact ⟨rfl, rfl, rfl, rfl, rfl, rfl, rfl, rfl, rfl, rfl, rfl, rfl, rfl, rfl, rfl, rfl, rfl, rfl, rfl, rfl, rfl, rfl, rfl, rfl, rfl, rfl, rfl, rfl, rfl, trivial⟩) ((hG _ _ _ _).1 (T4 _ (alloc_heap hh0)))
        · skip
          refine go_v rfl (ev_allocAt hzv (by rw [hh0])) (hS.old Old.alloc) ?_
          refine ga_norm2 (listed' := (bl 50 328282783001343)) (fuel' := 24) (by kernel_rfl) (by kernel_rfl) ?_
          exact ga_keep (by exact ⟨rfl, rfl, rfl, rfl, rfl, rfl, rfl, rfl, rfl, rfl, rfl, rfl, rfl, rfl, rfl, rfl, rfl, rfl, rfl, rfl, rfl, rfl, rfl, rfl, rfl, rfl, rfl, rfl, trivial⟩) ((hG _ _ _ _).1 (T3 _ (alloc_heap hh0)))
      · skip
        refine go_v rfl (ev_allocAt hzv (by rw [hh0])) (hS.old Old.alloc) ?_
        refine ga_norm2 (listed' := (bl 50 328282783001247)) (fuel' := 26) (by kernel_rfl) (by kernel_rfl) ?_
        exact ga_keep (by exact ⟨rfl, rfl, rfl, rfl, rfl, rfl, rfl, rfl, rfl, rfl, rfl, rfl, rfl, rfl, rfl, rfl, rfl, rfl, rfl, rfl, rfl, rfl, rfl, rfl, rfl, rfl, trivial⟩) ((hG _ _ _ _).1 (T2 _ (alloc_heap hh0)))
    · skip
      refine go_v rfl (ev_allocAt hzv (by rw [hh0])) (hS.old Old.alloc) ?_
      refine ga_norm2 (listed' := (bl 50 328282783001239)) (fuel' := 27) (by kernel_rfl) (by kernel_rfl) ?_
      exact ga_keep (by exact ⟨rfl, rfl, rfl, rfl, rfl, rfl, rfl, rfl, rfl, rfl, rfl, rfl, rfl, rfl, rfl, rfl, rfl, rfl, rfl, rfl, rfl, rfl, rfl, rfl, rfl, trivial⟩) ((hG _ _ _ _).1 (T1 _ (alloc_heap hh0)))
  · skip
    refine go_v rfl (ev_allocAt hzv (by rw [hh0])) (hS.old Old.alloc) ?_
    refine ga_norm2 (listed' := (bl 50 328282783001237)) (fuel' := 28) (by kernel_rfl) (by kernel_rfl) ?_
    exact ga_keep (by exact ⟨rfl, rfl, rfl, rfl, rfl, rfl, rfl, rfl, rfl, rfl, rfl, rfl, rfl, rfl, rfl, rfl, rfl, rfl, rfl, rfl, rfl, rfl, rfl, rfl, trivial⟩) ((hG _ _ _ _).1 (T0 _ (alloc_heap hh0)))

end Go.Proofs.YtjaplgfgkigmiaaGreat