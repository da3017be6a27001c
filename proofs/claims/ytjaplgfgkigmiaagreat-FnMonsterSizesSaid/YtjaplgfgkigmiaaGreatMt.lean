/-
  A monster turned from one type to the other.
-/
import Derived.Test.YtjaplgfgkigmiaaGreatCp
namespace Go.Proofs.YtjaplgfgkigmiaaGreat
open Go Go.Proofs

theorem CR_imp {P : Program} {f : FuncId} {args : Array Value} {w : World} {R R' : Value → World → Prop} (h : CR P f args w R) (hi : ∀ v w', R v w' → R' v w') : CR P f args w R' :=
  Calls.mono h fun e w' ⟨v, he, hr, hs⟩ => ⟨v, he, hi v w' hr, hs⟩
def SpecOK (M : Mem) (cs : Array Value) (pk : PK) : Prop := cs.size = 51 ∧ ones cs ∧ ∀ (M1 : Mem) (w : World), Sub M M1 → Has M1 w →
  CR Tryz.prog 8 #[.agg cs] w (fun v w' => ∃ M' cs', v = .agg cs' ∧ Builds M1 w w' M' ∧ ImplOK M' cs' pk)
theorem SpecOK.sub {M M' : Mem} {cs : Array Value} {pk : PK} (h : SpecOK M cs pk) (hs : Sub M M') : SpecOK M' cs pk := ⟨h.1, h.2.1, fun M1 w h1 h2 => h.2.2 M1 w (hs.trans h1) h2⟩
theorem isVec_ok : ∀ (cs : Array Value) (v : Vec), isVec cs v → cs.size = 7 ∧ ones cs := by rintro _ _ rfl; exact ⟨rfl, ones_lit rfl⟩
theorem isTest_ok : ∀ (cs : Array Value) (v : Int × Int), isTest cs v → cs.size = 2 ∧ ones cs := by rintro _ _ rfl; exact ⟨rfl, ones_lit rfl⟩
theorem isAbil_ok : ∀ (cs : Array Value) (v : Int × Int), isAbil cs v → cs.size = 2 ∧ ones cs := by rintro _ _ rfl; exact ⟨rfl, ones_lit rfl⟩
theorem isStat_ok : ∀ (cs : Array Value) (v : ByteArray × Int × Int), isStat cs v → cs.size = 3 ∧ ones cs := by rintro _ _ rfl; exact ⟨rfl, ones_lit rfl⟩
theorem copyC {α : Type} {f : FuncId} {sz : Nat} {R : Array Value → α → Prop} (hR : ∀ cs a, R cs a → cs.size = sz ∧ ones cs) (hk : ∀ (cs : Array Value), cs.size = sz → ones cs → ∀ w, CR Tryz.prog f #[.agg cs] w (fun v w' => v = .agg cs ∧ Old w w')) {M : Mem} :
    ∀ (Mk : Mem) (wk : World), Sub M Mk → Has Mk wk → ∀ cs a, R cs a → CR Tryz.prog f #[.agg cs] wk (fun y w' => ∃ M' cs', y = .agg cs' ∧ Builds Mk wk w' M' ∧ R cs' a) :=
  fun Mk wk _ hh cs a hr => CR_imp (hk cs (hR cs a hr).1 (hR cs a hr).2 wk) fun v w' ⟨h1, h2⟩ => ⟨Mk, cs, h1, (Builds.refl hh).step h2, hr⟩
theorem rowM.isS {α : Type} {sz : Nat} {M : Mem} {v : Value} {l : List α} {R : Array Value → α → Prop} (h : rowM sz M v l R) : ∃ a n c, v = .slice a n c := by
  rcases h with ⟨_, a, c, h⟩ | ⟨_, b, o, c, _, _, _, h, _⟩
  · exact ⟨_, _, _, h⟩
  · exact ⟨_, _, _, h⟩
theorem Builds.none_of {M M' : Mem} {w w' : World} {b : Nat} (h : Builds M w w' M') (hn : M b = none) (hb : b < w.heap.size) : M' b = none := by
  cases hm : M' b with
  | none => rfl
  | some y =>
    rcases h.new _ _ hm with h1 | h1
    · rw [hn] at h1; cases h1
    · omega
theorem m21 {M M1 : Mem} {w : World} {v : Value} {l : List PK} (hv : rowM 51 M v l (SpecOK M)) (hs : Sub M M1) (hM : Has M1 w) (hl : l.length ≤ 1000) :
    CR Tryz.prog 21 #[v, .func (.func 8) #[] #[]] w (fun v' w' => ∃ M', Builds M1 w w' M' ∧ rowM 51 M' v' l (ImplOK M')) :=
  i21 (R := SpecOK M) (R' := ImplOK) (hv.sub hs fun _ _ k => k) hM hl (fun _ _ k => ⟨k.1, k.2.1⟩) (fun _ _ _ k => ⟨k.1, k.2.1⟩) (fun _ _ _ _ h k => k.sub h) fun Mk wk h1 h2 cs pk k => k.2.2 Mk wk (hs.trans h1) h2
theorem h20 {M M1 : Mem} {w : World} {k col : UInt8} {v : Value} {l : List PK} (hv : rowM 51 M v l (SpecOK M)) (hs : Sub M M1) (hM : Has M1 w) (hl : l.length ≤ 1000) :
    CR Tryz.prog 20 #[.agg #[B k, v, B col]] w (fun y w' => ∃ M' a n c, y = .agg #[B k, .slice a n c, B col] ∧ Builds M1 w w' M' ∧ rowM 51 M' (.slice a n c) l (ImplOK M')) := by
  refine cr_enter Tryz.func20 rfl Tryz.ntmps20 ?_
  refine gk_seq ?_
  refine gk_region ?_
  refine gr_box rfl ?_
  intro w1 ho1 hb1 hs1
  refine gr_al Tryz.zeroValue47 ?_
  intro w2 ho2 hb2 hs2
  refine gr_nil ?_
  refine gk_seq ?_
  refine gk_draw (fun w' => w'.heap[w.heap.size]? = some (.cells #[B k, v, B col] 26 (0, 0))) (by kernel_rfl) ?_
  have hS := ho2 _ _ hb1
  refine ga_take 0 rfl (by kernel_rfl) (fun _ _ => (ev_fa (j := 0) rfl Tryz.runUnderlying26 rfl Tryz.sizeOf5 rfl rfl)) hS ?_
  refine ga_take 1 rfl (by kernel_rfl) (fun _ hs => ev_ld rfl Tryz.isAgg5 hs (by rfl)) hS ?_
  refine ga_take 2 rfl (by kernel_rfl) (fun _ _ => (ev_fa (j := 1) rfl Tryz.runUnderlying26 rfl Tryz.sizeOf24 rfl rfl)) hS ?_
  refine ga_take 3 rfl (by kernel_rfl) (fun _ hs => ev_ld rfl Tryz.isAgg24 hs (by rfl)) hS ?_
  refine ga_take 5 rfl (by kernel_rfl) (fun _ _ => (ev_fa (j := 2) rfl Tryz.runUnderlying26 rfl Tryz.sizeOf5 rfl rfl)) hS ?_
  refine ga_take 6 rfl (by kernel_rfl) (fun _ hs => ev_ld rfl Tryz.isAgg5 hs (by rfl)) hS ?_
  have hB2 : Builds M1 w w2.drew M1 := ((Builds.refl hM).step (ho1.trans ho2)).step (Old.same rfl)
  refine ga_call 4 rfl (by kernel_rfl) (ec_func Tryz.call21 rfl) (m21 hv hs hB2.has hl) ?_
  rintro v' w3 ⟨M', hb3, hr3⟩
  refine ⟨hb3.old _ _ hS, fun hS => ?_⟩
  obtain ⟨a, n, c, rfl⟩ := hr3.isS
  refine ga_take 7 rfl (by kernel_rfl) (fun _ _ => (ev_build (cs := #[B k, .slice a n c, B col]) rfl (by kernel_rfl))) hS ?_
  have hz3 := hb3.old _ _ (dr_heap hb2)
  refine ga_s 8 rfl (by kernel_rfl) (es_sta rfl rfl Tryz.sizeOf47 hz3 rfl rfl (ones_lit rfl)) (sb_ne (by omega) hS) ?_
  refine ga_nil (by kernel_rfl) ?_
  have hn : M' w1.heap.size = none := by
    cases hm : M' w1.heap.size with
    | none => rfl
    | some y => rcases hb3.new _ _ hm with h1 | h1
                · rw [hM.none (by omega)] at h1; cases h1
                · have : w2.heap.size ≤ w1.heap.size := h1; omega
  refine gk_retc Tryz.results20 rfl Tryz.isAgg47 Tryz.sizeOf47 (sb_same hz3) rfl ?_
  exact ⟨_, rfl, M', a, n, c, rfl, (hB2.trans hb3).put hn (by omega), hr3⟩

set_option maxHeartbeats 8000000 in
theorem t8 {M : Mem} {d : SD} {x : SV} (h : SrcR SpecOK M d x) (hc : Clean d) (hcl : d.test.subs.length ≤ 1000 ∧ d.anyU.subs.length ≤ 1000 ∧ d.anyA.subs.length ≤ 1000) : SpecOK M (cells52 d x) (packM (toMD d)) := by
  refine ⟨rfl, h.ones, fun M1 w hs hM => ?_⟩
  refine cr_enter Tryz.func8 rfl Tryz.ntmps8 ?_
  refine gk_seq ?_
  refine gk_region ?_
  refine gr_box rfl ?_
  intro w1 ho1 hb1 hs1
  refine gr_al Tryz.zeroValue52 ?_
  intro w2 ho2 hb2 hs2
  refine gr_nil ?_
  refine gk_seq ?_
  refine gk_region ?_
  refine gr_v (ev_as rfl) ?_
  refine gr_nil ?_
  refine gk_seq ?_
  have hB0 : Builds M1 w w2.drew M1 := ((Builds.refl hM).step (ho1.trans ho2)).step (Old.same rfl)
  have hz0 : w2.drew.heap[w1.heap.size]? = some (.cells (Value.cells _) 52 (0, 0)) := hb2
  have hn0 : M1 w1.heap.size = none := hM.none (by omega)
  have hlt : w1.heap.size < w2.drew.heap.size := by show w1.heap.size < w2.heap.size; omega
  refine gk_draw (fun w' => w'.heap[w.heap.size]? = some (.cells (cells52 d x) 38 (0, 0))) (by kernel_rfl) ?_
  have hS := ho2 _ _ hb1
  refine ga_norm2 (listed' := (bl 115 0)) (fuel' := 115) (by kernel_rfl) (by kernel_rfl) ?_
  refine ga_ns [(some 4, [1], []), (some 5, [4], [0]), (some 6, [5], [1]), (some 7, [1], []), (some 8, [7], [3]), (some 9, [1], []), (some 10, [9], [5]), (some 11, [1], []), (some 12, [11], [7]), (some 13, [1], []), (some 14, [13], [9]), (some 15, [1], []), (some 16, [15], [11]), (some 17, [3], []), (some 18, [1], []), (some 19, [18], [14]), (some 20, [17, 19], [13, 15, 2]), (some 21, [1], []), (some 22, [21], [17]), (some 23, [22], [18, 16]), (some 24, [1], []), (some 25, [24], [20]), (some 26, [25], [21, 19]), (some 27, [1], []), (some 28, [27], [23]), (some 29, [28], [24, 22]), (some 30, [1], []), (some 31, [30], [26]), (some 32, [31], [27, 25]), (some 33, [1], []), (some 34, [33], [29]), (some 35, [1], []), (some 36, [35], [31]), (some 37, [36], [32, 28]), (some 38, [1], []), (some 39, [38], [34]), (some 40, [1], []), (some 41, [40], [36]), (some 42, [1], []), (some 43, [42], [38]), (some 44, [1], []), (some 45, [44], [40]), (some 46, [1], []), (some 47, [46], [42]), (some 48, [1], []), (some 49, [48], [44]), (some 50, [1], []), (some 51, [50], [46]), (some 52, [1], []), (some 53, [52], [48]), (some 54, [1], []), (some 55, [54], [50]), (some 56, [1], []), (some 57, [56], [52]), (some 58, [57], [53, 33]), (some 59, [1], []), (some 60, [59], [55]), (some 61, [1], []), (some 62, [61], [57]), (some 63, [1], []), (some 64, [63], [59]), (some 65, [1], []), (some 66, [65], [61]), (some 67, [66], [62, 54]), (some 68, [1], []), (some 69, [68], [64]), (some 70, [69], [65, 63]), (some 71, [1], []), (some 72, [71], [67]), (some 73, [1], []), (some 74, [73], [69]), (some 75, [74], [70, 66]), (some 76, [1], []), (some 77, [76], [72]), (some 78, [77], [73, 71]), (some 79, [1], []), (some 80, [79], [75]), (some 81, [80], [76, 74]), (some 82, [1], []), (some 83, [82], [78]), (some 84, [1], []), (some 85, [84], [80]), (some 86, [85], [81, 77]), (some 87, [1], []), (some 88, [87], [83]), (some 89, [1], []), (some 90, [89], [85]), (some 91, [90], [86, 82]), (some 92, [1], []), (some 93, [92], [88]), (some 94, [93], [89, 87]), (some 95, [1], []), (some 96, [95], [91]), (some 97, [1], []), (some 98, [97], [93]), (some 99, [98], [94, 90]), (some 100, [1], []), (some 101, [100], [96]), (some 102, [1], []), (some 103, [102], [98]), (some 104, [103], [99, 95]), (some 105, [3], []), (some 106, [1], []), (some 107, [106], [102]), (some 108, [105, 107], [101, 103, 100]), (some 109, [3], []), (some 110, [1], []), (some 111, [110], [106]), (some 112, [109, 111], [105, 107, 104]), (some 113, [1], []), (some 114, [113], [109]), (some 115, [1], []), (some 116, [115], [111]), (some 117, [6, 8, 10, 12, 14, 16, 20, 23, 26, 29, 32, 34, 37, 39, 41, 43, 45, 47, 49, 51, 53, 55, 58, 60, 62, 64, 67, 70, 72, 75, 78, 81, 83, 86, 88, 91, 94, 96, 99, 101, 104, 108, 112, 114, 116], [2, 4, 6, 8, 10, 12, 16, 19, 22, 25, 28, 30, 33, 35, 37, 39, 41, 43, 45, 47, 49, 51, 54, 56, 58, 60, 63, 66, 68, 71, 74, 77, 79, 82, 84, 87, 90, 92, 95, 97, 100, 104, 108, 110, 112]), (none, [2, 117], [113, 108, 0, 1, 2, 3, 4, 5, 6, 7, 8, 9, 10, 11, 12, 13, 14, 15, 16, 17, 18, 19, 20, 21, 22, 23, 24, 25, 26, 27, 28, 29, 30, 31, 32, 33, 34, 35, 36, 37, 38, 39, 40, 41, 42, 43, 44, 45, 46, 47, 48, 49, 50, 51, 52, 53, 54, 55, 56, 57, 58, 59, 60, 61, 62, 63, 64, 65, 66, 67, 68, 69, 70, 71, 72, 73, 74, 75, 76, 77, 78, 79, 80, 81, 82, 83, 84, 85, 86, 87, 88, 89, 90, 91, 92, 93, 94, 95, 96, 97, 98, 99, 100, 101, 102, 103, 104, 105, 106, 107, 108, 109, 110, 111, 112, 113])] (by kernel_rfl) (by kernel_rfl) fun hns hsm => ?_
  refine ga_takef 0 (bl 115 1) hns hsm rfl (by kernel_rfl) (by kernel_rfl) (fun _ _ => (ev_fa (j := 0) rfl Tryz.runUnderlying38 rfl Tryz.sizeOf22 rfl rfl)) hS ?_
  refine ga_takef 1 (bl 115 3) hns hsm rfl (by kernel_rfl) (by kernel_rfl) (fun _ hs => ev_ld rfl Tryz.isAgg22 hs (by rfl)) hS ?_
  refine ga_takef 3 (bl 115 11) hns hsm rfl (by kernel_rfl) (by kernel_rfl) (fun _ _ => (ev_fa (j := 1) rfl Tryz.runUnderlying38 rfl Tryz.sizeOf23 rfl rfl)) hS ?_
  refine ga_takef 4 (bl 115 27) hns hsm rfl (by kernel_rfl) (by kernel_rfl) (fun _ hs => ev_ld rfl Tryz.isAgg23 hs (by rfl)) hS ?_
  refine ga_takef 5 (bl 115 59) hns hsm rfl (by kernel_rfl) (by kernel_rfl) (fun _ _ => (ev_fa (j := 2) rfl Tryz.runUnderlying38 rfl Tryz.sizeOf23 rfl rfl)) hS ?_
  refine ga_takef 6 (bl 115 123) hns hsm rfl (by kernel_rfl) (by kernel_rfl) (fun _ hs => ev_ld rfl Tryz.isAgg23 hs (by rfl)) hS ?_
  refine ga_takef 7 (bl 115 251) hns hsm rfl (by kernel_rfl) (by kernel_rfl) (fun _ _ => (ev_fa (j := 3) rfl Tryz.runUnderlying38 rfl Tryz.sizeOf9 rfl rfl)) hS ?_
  refine ga_takef 8 (bl 115 507) hns hsm rfl (by kernel_rfl) (by kernel_rfl) (fun _ hs => ev_ld rfl Tryz.isAgg9 hs (by rfl)) hS ?_
  refine ga_takef 9 (bl 115 1019) hns hsm rfl (by kernel_rfl) (by kernel_rfl) (fun _ _ => (ev_fa (j := 4) rfl Tryz.runUnderlying38 rfl Tryz.sizeOf9 rfl rfl)) hS ?_
  refine ga_takef 10 (bl 115 2043) hns hsm rfl (by kernel_rfl) (by kernel_rfl) (fun _ hs => ev_ld rfl Tryz.isAgg9 hs (by rfl)) hS ?_
  refine ga_takef 11 (bl 115 4091) hns hsm rfl (by kernel_rfl) (by kernel_rfl) (fun _ _ => (ev_fa (j := 5) rfl Tryz.runUnderlying38 rfl Tryz.sizeOf5 rfl rfl)) hS ?_
  refine ga_takef 12 (bl 115 8187) hns hsm rfl (by kernel_rfl) (by kernel_rfl) (fun _ hs => ev_ld rfl Tryz.isAgg5 hs (by rfl)) hS ?_
  refine ga_takef 13 (bl 115 16379) hns hsm rfl (by kernel_rfl) (by kernel_rfl) (fun _ _ => (ev_mv rfl)) hS ?_
  refine ga_takef 14 (bl 115 32763) hns hsm rfl (by kernel_rfl) (by kernel_rfl) (fun _ _ => (ev_fa (j := 6) rfl Tryz.runUnderlying38 rfl Tryz.sizeOf26 rfl rfl)) hS ?_
  refine ga_takef 15 (bl 115 65531) hns hsm rfl (by kernel_rfl) (by kernel_rfl) (fun _ hs => (show EV _ _ _ _ _ (.agg #[B d.test.k, x.test, B d.test.col]) _ from ev_lda (s := 3) (i := 6) rfl Tryz.isAgg26 Tryz.sizeOf26 hs (by show 6 + 3 ≤ 51; decide))) hS ?_
  refine ga_takef 17 (bl 115 196603) hns hsm rfl (by kernel_rfl) (by kernel_rfl) (fun _ _ => (ev_fa (j := 9) rfl Tryz.runUnderlying38 rfl Tryz.sizeOf27 rfl rfl)) hS ?_
  refine ga_takef 18 (bl 115 458747) hns hsm rfl (by kernel_rfl) (by kernel_rfl) (fun _ hs => ev_ld rfl Tryz.isAgg27 hs (by rfl)) hS ?_
  refine ga_takef 20 (bl 115 1507323) hns hsm rfl (by kernel_rfl) (by kernel_rfl) (fun _ _ => (ev_fa (j := 10) rfl Tryz.runUnderlying38 rfl Tryz.sizeOf28 rfl rfl)) hS ?_
  refine ga_takef 21 (bl 115 3604475) hns hsm rfl (by kernel_rfl) (by kernel_rfl) (fun _ hs => ev_ld rfl Tryz.isAgg28 hs (by rfl)) hS ?_
  refine ga_takef 23 (bl 115 11993083) hns hsm rfl (by kernel_rfl) (by kernel_rfl) (fun _ _ => (ev_fa (j := 11) rfl Tryz.runUnderlying38 rfl Tryz.sizeOf24 rfl rfl)) hS ?_
  refine ga_takef 24 (bl 115 28770299) hns hsm rfl (by kernel_rfl) (by kernel_rfl) (fun _ hs => ev_ld rfl Tryz.isAgg24 hs (by rfl)) hS ?_
  refine ga_takef 26 (bl 115 95879163) hns hsm rfl (by kernel_rfl) (by kernel_rfl) (fun _ _ => (ev_fa (j := 12) rfl Tryz.runUnderlying38 rfl Tryz.sizeOf24 rfl rfl)) hS ?_
  refine ga_takef 27 (bl 115 230096891) hns hsm rfl (by kernel_rfl) (by kernel_rfl) (fun _ hs => ev_ld rfl Tryz.isAgg24 hs (by rfl)) hS ?_
  refine ga_takef 29 (bl 115 766967803) hns hsm rfl (by kernel_rfl) (by kernel_rfl) (fun _ _ => (ev_fa (j := 13) rfl Tryz.runUnderlying38 rfl Tryz.sizeOf9 rfl rfl)) hS ?_
  refine ga_takef 30 (bl 115 1840709627) hns hsm rfl (by kernel_rfl) (by kernel_rfl) (fun _ hs => ev_ld rfl Tryz.isAgg9 hs (by rfl)) hS ?_
  refine ga_takef 31 (bl 115 3988193275) hns hsm rfl (by kernel_rfl) (by kernel_rfl) (fun _ _ => (ev_fa (j := 14) rfl Tryz.runUnderlying38 rfl Tryz.sizeOf29 rfl rfl)) hS ?_
  refine ga_takef 32 (bl 115 8283160571) hns hsm rfl (by kernel_rfl) (by kernel_rfl) (fun _ hs => ev_ld rfl Tryz.isAgg29 hs (by rfl)) hS ?_
  refine ga_takef 34 (bl 115 25463029755) hns hsm rfl (by kernel_rfl) (by kernel_rfl) (fun _ _ => (ev_fa (j := 15) rfl Tryz.runUnderlying38 rfl Tryz.sizeOf4 rfl rfl)) hS ?_
  refine ga_takef 35 (bl 115 59822768123) hns hsm rfl (by kernel_rfl) (by kernel_rfl) (fun _ hs => ev_ld rfl Tryz.isAgg4 hs (by rfl)) hS ?_
  refine ga_takef 36 (bl 115 128542244859) hns hsm rfl (by kernel_rfl) (by kernel_rfl) (fun _ _ => (ev_fa (j := 16) rfl Tryz.runUnderlying38 rfl Tryz.sizeOf21 rfl rfl)) hS ?_
  refine ga_takef 37 (bl 115 265981198331) hns hsm rfl (by kernel_rfl) (by kernel_rfl) (fun _ hs => ev_ld rfl Tryz.isAgg21 hs (by rfl)) hS ?_
  refine ga_takef 38 (bl 115 540859105275) hns hsm rfl (by kernel_rfl) (by kernel_rfl) (fun _ _ => (ev_fa (j := 17) rfl Tryz.runUnderlying38 rfl Tryz.sizeOf30 rfl rfl)) hS ?_
  refine ga_takef 39 (bl 115 1090614919163) hns hsm rfl (by kernel_rfl) (by kernel_rfl) (fun _ hs => ev_ld rfl Tryz.isAgg30 hs (by rfl)) hS ?_
  refine ga_takef 40 (bl 115 2190126546939) hns hsm rfl (by kernel_rfl) (by kernel_rfl) (fun _ _ => (ev_fa (j := 18) rfl Tryz.runUnderlying38 rfl Tryz.sizeOf2 rfl rfl)) hS ?_
  refine ga_takef 41 (bl 115 4389149802491) hns hsm rfl (by kernel_rfl) (by kernel_rfl) (fun _ hs => ev_ld rfl Tryz.isAgg2 hs (by rfl)) hS ?_
  refine ga_takef 42 (bl 115 8787196313595) hns hsm rfl (by kernel_rfl) (by kernel_rfl) (fun _ _ => (ev_fa (j := 19) rfl Tryz.runUnderlying38 rfl Tryz.sizeOf31 rfl rfl)) hS ?_
  refine ga_takef 43 (bl 115 17583289335803) hns hsm rfl (by kernel_rfl) (by kernel_rfl) (fun _ hs => ev_ld rfl Tryz.isAgg31 hs (by rfl)) hS ?_
  refine ga_takef 44 (bl 115 35175475380219) hns hsm rfl (by kernel_rfl) (by kernel_rfl) (fun _ _ => (ev_fa (j := 20) rfl Tryz.runUnderlying38 rfl Tryz.sizeOf21 rfl rfl)) hS ?_
  refine ga_takef 45 (bl 115 70359847469051) hns hsm rfl (by kernel_rfl) (by kernel_rfl) (fun _ hs => ev_ld rfl Tryz.isAgg21 hs (by rfl)) hS ?_
  refine ga_takef 46 (bl 115 140728591646715) hns hsm rfl (by kernel_rfl) (by kernel_rfl) (fun _ _ => (ev_fa (j := 21) rfl Tryz.runUnderlying38 rfl Tryz.sizeOf30 rfl rfl)) hS ?_
  refine ga_takef 47 (bl 115 281466080002043) hns hsm rfl (by kernel_rfl) (by kernel_rfl) (fun _ hs => ev_ld rfl Tryz.isAgg30 hs (by rfl)) hS ?_
  refine ga_takef 48 (bl 115 562941056712699) hns hsm rfl (by kernel_rfl) (by kernel_rfl) (fun _ _ => (ev_fa (j := 22) rfl Tryz.runUnderlying38 rfl Tryz.sizeOf2 rfl rfl)) hS ?_
  refine ga_takef 49 (bl 115 1125891010134011) hns hsm rfl (by kernel_rfl) (by kernel_rfl) (fun _ hs => ev_ld rfl Tryz.isAgg2 hs (by rfl)) hS ?_
  refine ga_takef 50 (bl 115 2251790916976635) hns hsm rfl (by kernel_rfl) (by kernel_rfl) (fun _ _ => (ev_fa (j := 23) rfl Tryz.runUnderlying38 rfl Tryz.sizeOf31 rfl rfl)) hS ?_
  refine ga_takef 51 (bl 115 4503590730661883) hns hsm rfl (by kernel_rfl) (by kernel_rfl) (fun _ hs => ev_ld rfl Tryz.isAgg31 hs (by rfl)) hS ?_
  refine ga_takef 52 (bl 115 9007190358032379) hns hsm rfl (by kernel_rfl) (by kernel_rfl) (fun _ _ => (ev_fa (j := 24) rfl Tryz.runUnderlying38 rfl Tryz.sizeOf32 rfl rfl)) hS ?_
  refine ga_takef 53 (bl 115 18014389612773371) hns hsm rfl (by kernel_rfl) (by kernel_rfl) (fun _ hs => ev_ld rfl Tryz.isAgg32 hs (by rfl)) hS ?_
  refine ga_takef 55 (bl 115 54043186631737339) hns hsm rfl (by kernel_rfl) (by kernel_rfl) (fun _ _ => (ev_fa (j := 25) rfl Tryz.runUnderlying38 rfl Tryz.sizeOf30 rfl rfl)) hS ?_
  refine ga_takef 56 (bl 115 126100780669665275) hns hsm rfl (by kernel_rfl) (by kernel_rfl) (fun _ hs => ev_ld rfl Tryz.isAgg30 hs (by rfl)) hS ?_
  refine ga_takef 57 (bl 115 270215968745521147) hns hsm rfl (by kernel_rfl) (by kernel_rfl) (fun _ _ => (ev_fa (j := 26) rfl Tryz.runUnderlying38 rfl Tryz.sizeOf30 rfl rfl)) hS ?_
  refine ga_takef 58 (bl 115 558446344897232891) hns hsm rfl (by kernel_rfl) (by kernel_rfl) (fun _ hs => ev_ld rfl Tryz.isAgg30 hs (by rfl)) hS ?_
  refine ga_takef 59 (bl 115 1134907097200656379) hns hsm rfl (by kernel_rfl) (by kernel_rfl) (fun _ _ => (ev_fa (j := 27) rfl Tryz.runUnderlying38 rfl Tryz.sizeOf30 rfl rfl)) hS ?_
  refine ga_takef 60 (bl 115 2287828601807503355) hns hsm rfl (by kernel_rfl) (by kernel_rfl) (fun _ hs => ev_ld rfl Tryz.isAgg30 hs (by rfl)) hS ?_
  refine ga_takef 61 (bl 115 4593671611021197307) hns hsm rfl (by kernel_rfl) (by kernel_rfl) (fun _ _ => (ev_fa (j := 28) rfl Tryz.runUnderlying38 rfl Tryz.sizeOf28 rfl rfl)) hS ?_
  refine ga_takef 62 (bl 115 9205357629448585211) hns hsm rfl (by kernel_rfl) (by kernel_rfl) (fun _ hs => ev_ld rfl Tryz.isAgg28 hs (by rfl)) hS ?_
  refine ga_takef 64 (bl 115 27652101703158136827) hns hsm rfl (by kernel_rfl) (by kernel_rfl) (fun _ _ => (ev_fa (j := 29) rfl Tryz.runUnderlying38 rfl Tryz.sizeOf33 rfl rfl)) hS ?_
  refine ga_takef 65 (bl 115 64545589850577240059) hns hsm rfl (by kernel_rfl) (by kernel_rfl) (fun _ hs => ev_ld rfl Tryz.isAgg33 hs (by rfl)) hS ?_
  refine ga_takef 67 (bl 115 212119542440253652987) hns hsm rfl (by kernel_rfl) (by kernel_rfl) (fun _ _ => (ev_fa (j := 30) rfl Tryz.runUnderlying38 rfl Tryz.sizeOf9 rfl rfl)) hS ?_
  refine ga_takef 68 (bl 115 507267447619606478843) hns hsm rfl (by kernel_rfl) (by kernel_rfl) (fun _ hs => ev_ld rfl Tryz.isAgg9 hs (by rfl)) hS ?_
  refine ga_takef 69 (bl 115 1097563257978312130555) hns hsm rfl (by kernel_rfl) (by kernel_rfl) (fun _ _ => (ev_fa (j := 31) rfl Tryz.runUnderlying38 rfl Tryz.sizeOf27 rfl rfl)) hS ?_
  refine ga_takef 70 (bl 115 2278154878695723433979) hns hsm rfl (by kernel_rfl) (by kernel_rfl) (fun _ hs => ev_ld rfl Tryz.isAgg27 hs (by rfl)) hS ?_
  refine ga_takef 72 (bl 115 7000521361565368647675) hns hsm rfl (by kernel_rfl) (by kernel_rfl) (fun _ _ => (ev_fa (j := 32) rfl Tryz.runUnderlying38 rfl Tryz.sizeOf34 rfl rfl)) hS ?_
  refine ga_takef 73 (bl 115 16445254327304659075067) hns hsm rfl (by kernel_rfl) (by kernel_rfl) (fun _ hs => ev_ld rfl Tryz.isAgg34 hs (by rfl)) hS ?_
  refine ga_takef 75 (bl 115 54224186190261820784635) hns hsm rfl (by kernel_rfl) (by kernel_rfl) (fun _ _ => (ev_fa (j := 33) rfl Tryz.runUnderlying38 rfl Tryz.sizeOf35 rfl rfl)) hS ?_
  refine ga_takef 76 (bl 115 129782049916176144203771) hns hsm rfl (by kernel_rfl) (by kernel_rfl) (fun _ hs => ev_ld rfl Tryz.isAgg35 hs (by rfl)) hS ?_
  refine ga_takef 78 (bl 115 432013504819833437880315) hns hsm rfl (by kernel_rfl) (by kernel_rfl) (fun _ _ => (ev_fa (j := 34) rfl Tryz.runUnderlying38 rfl Tryz.sizeOf4 rfl rfl)) hS ?_
  refine ga_takef 79 (bl 115 1036476414627148025233403) hns hsm rfl (by kernel_rfl) (by kernel_rfl) (fun _ hs => ev_ld rfl Tryz.isAgg4 hs (by rfl)) hS ?_
  refine ga_takef 80 (bl 115 2245402234241777199939579) hns hsm rfl (by kernel_rfl) (by kernel_rfl) (fun _ _ => (ev_fa (j := 35) rfl Tryz.runUnderlying38 rfl Tryz.sizeOf35 rfl rfl)) hS ?_
  refine ga_takef 81 (bl 115 4663253873471035549351931) hns hsm rfl (by kernel_rfl) (by kernel_rfl) (fun _ hs => ev_ld rfl Tryz.isAgg35 hs (by rfl)) hS ?_
  refine ga_takef 83 (bl 115 14334660430388068947001339) hns hsm rfl (by kernel_rfl) (by kernel_rfl) (fun _ _ => (ev_fa (j := 36) rfl Tryz.runUnderlying38 rfl Tryz.sizeOf31 rfl rfl)) hS ?_
  refine ga_takef 84 (bl 115 33677473544222135742300155) hns hsm rfl (by kernel_rfl) (by kernel_rfl) (fun _ hs => ev_ld rfl Tryz.isAgg31 hs (by rfl)) hS ?_
  refine ga_takef 85 (bl 115 72363099771890269332897787) hns hsm rfl (by kernel_rfl) (by kernel_rfl) (fun _ _ => (ev_fa (j := 37) rfl Tryz.runUnderlying38 rfl Tryz.sizeOf35 rfl rfl)) hS ?_
  refine ga_takef 86 (bl 115 149734352227226536514093051) hns hsm rfl (by kernel_rfl) (by kernel_rfl) (fun _ hs => ev_ld rfl Tryz.isAgg35 hs (by rfl)) hS ?_
  refine ga_takef 88 (bl 115 459219362048571605238874107) hns hsm rfl (by kernel_rfl) (by kernel_rfl) (fun _ _ => (ev_fa (j := 38) rfl Tryz.runUnderlying38 rfl Tryz.sizeOf35 rfl rfl)) hS ?_
  refine ga_takef 89 (bl 115 1078189381691261742688436219) hns hsm rfl (by kernel_rfl) (by kernel_rfl) (fun _ hs => ev_ld rfl Tryz.isAgg35 hs (by rfl)) hS ?_
  refine ga_takef 91 (bl 115 3554069460262022292486684667) hns hsm rfl (by kernel_rfl) (by kernel_rfl) (fun _ _ => (ev_fa (j := 39) rfl Tryz.runUnderlying38 rfl Tryz.sizeOf31 rfl rfl)) hS ?_
  refine ga_takef 92 (bl 115 8505829617403543392083181563) hns hsm rfl (by kernel_rfl) (by kernel_rfl) (fun _ hs => ev_ld rfl Tryz.isAgg31 hs (by rfl)) hS ?_
  refine ga_takef 93 (bl 115 18409349931686585591276175355) hns hsm rfl (by kernel_rfl) (by kernel_rfl) (fun _ _ => (ev_fa (j := 40) rfl Tryz.runUnderlying38 rfl Tryz.sizeOf35 rfl rfl)) hS ?_
  refine ga_takef 94 (bl 115 38216390560252669989662162939) hns hsm rfl (by kernel_rfl) (by kernel_rfl) (fun _ hs => ev_ld rfl Tryz.isAgg35 hs (by rfl)) hS ?_
  refine ga_takef 96 (bl 115 117444553074517007583206113275) hns hsm rfl (by kernel_rfl) (by kernel_rfl) (fun _ _ => (ev_fa (j := 41) rfl Tryz.runUnderlying38 rfl Tryz.sizeOf31 rfl rfl)) hS ?_
  refine ga_takef 97 (bl 115 275900878103045682770294013947) hns hsm rfl (by kernel_rfl) (by kernel_rfl) (fun _ hs => ev_ld rfl Tryz.isAgg31 hs (by rfl)) hS ?_
  refine ga_takef 98 (bl 115 592813528160103033144469815291) hns hsm rfl (by kernel_rfl) (by kernel_rfl) (fun _ _ => (ev_fa (j := 42) rfl Tryz.runUnderlying38 rfl Tryz.sizeOf35 rfl rfl)) hS ?_
  refine ga_takef 99 (bl 115 1226638828274217733892821417979) hns hsm rfl (by kernel_rfl) (by kernel_rfl) (fun _ hs => ev_ld rfl Tryz.isAgg35 hs (by rfl)) hS ?_
  refine ga_takef 101 (bl 115 3761940028730676536886227828731) hns hsm rfl (by kernel_rfl) (by kernel_rfl) (fun _ _ => (ev_mv rfl)) hS ?_
  refine ga_takef 102 (bl 115 8832542429643594142873040650235) hns hsm rfl (by kernel_rfl) (by kernel_rfl) (fun _ _ => (ev_fa (j := 43) rfl Tryz.runUnderlying38 rfl Tryz.sizeOf26 rfl rfl)) hS ?_
  refine ga_takef 103 (bl 115 18973747231469429354846666293243) hns hsm rfl (by kernel_rfl) (by kernel_rfl) (fun _ hs => (show EV _ _ _ _ _ (.agg #[B d.anyU.k, x.anyU, B d.anyU.col]) _ from ev_lda (s := 3) (i := 43) rfl Tryz.isAgg26 Tryz.sizeOf26 hs (by show 43 + 3 ≤ 51; decide))) hS ?_
  refine ga_takef 105 (bl 115 59538566438772770202741168865275) hns hsm rfl (by kernel_rfl) (by kernel_rfl) (fun _ _ => (ev_mv rfl)) hS ?_
  refine ga_takef 106 (bl 115 140668204853379451898530174009339) hns hsm rfl (by kernel_rfl) (by kernel_rfl) (fun _ _ => (ev_fa (j := 46) rfl Tryz.runUnderlying38 rfl Tryz.sizeOf26 rfl rfl)) hS ?_
  refine ga_takef 107 (bl 115 302927481682592815290108184297467) hns hsm rfl (by kernel_rfl) (by kernel_rfl) (fun _ hs => (show EV _ _ _ _ _ (.agg #[B d.anyA.k, x.anyA, B d.anyA.col]) _ from ev_lda (s := 3) (i := 46) rfl Tryz.isAgg26 Tryz.sizeOf26 hs (by show 46 + 3 ≤ 51; decide))) hS ?_
  refine ga_takef 109 (bl 115 951964588999446268856420225449979) hns hsm rfl (by kernel_rfl) (by kernel_rfl) (fun _ _ => (ev_fa (j := 49) rfl Tryz.runUnderlying38 rfl Tryz.sizeOf9 rfl rfl)) hS ?_
  refine ga_takef 110 (bl 115 2250038803633153175989044307755003) hns hsm rfl (by kernel_rfl) (by kernel_rfl) (fun _ hs => ev_ld rfl Tryz.isAgg9 hs (by rfl)) hS ?_
  refine ga_takef 111 (bl 115 4846187232900566990254292472365051) hns hsm rfl (by kernel_rfl) (by kernel_rfl) (fun _ _ => (ev_fa (j := 50) rfl Tryz.runUnderlying38 rfl Tryz.sizeOf36 rfl rfl)) hS ?_
  refine ga_takef 112 (bl 115 10038484091435394618784788801585147) hns hsm rfl (by kernel_rfl) (by kernel_rfl) (fun _ hs => ev_ld rfl Tryz.isAgg36 hs (by rfl)) hS ?_
  refine ga_call 2 rfl (by kernel_rfl) (ec_func Tryz.call22 rfl) (i22 (R := isVec) (R' := fun _ => isVec) (h.pos.sub (hs.trans hB0.sub) fun _ _ k => k) hB0.has (Nat.le_trans hc.pos (by decide)) isVec_ok (fun _ => isVec_ok) (fun _ _ _ _ _ k => k) (copyC isVec_ok fun _ h1 h2 => k23 h1 h2)) ?_
  rintro v1 wq1 ⟨Mq1, hb1q, hf1⟩
  refine ⟨hb1q.old _ _ hS, fun hS => ?_⟩
  obtain ⟨a1, n1, c1, rfl⟩ := hf1.isS
  have hB1 := hB0.trans hb1q
  have hz1 := hb1q.old _ _ hz0
  have hn1 := hb1q.none_of hn0 hlt
  have hlt1 := Nat.lt_of_lt_of_le hlt hb1q.old.size
  refine ga_norm (listed' := (bl 115 10038484091435394618784788801585151)) (by kernel_rfl) ?_
  refine ga_call 16 rfl (by kernel_rfl) (ec_dyn rfl Tryz.call20 rfl) (h20 h.test (hs.trans hB1.sub) hB1.has hcl.1) ?_
  rintro _ wq2 ⟨Mq2, a2, n2, c2, rfl, hb2q, hf2⟩
  refine ⟨hb2q.old _ _ hS, fun hS => ?_⟩
  have hB2 := hB1.trans hb2q
  have hz2 := hb2q.old _ _ hz1
  have hn2 := hb2q.none_of hn1 hlt1
  have hlt2 := Nat.lt_of_lt_of_le hlt1 hb2q.old.size
  refine ga_norm (listed' := (bl 115 10038484091435394618784788801650687)) (by kernel_rfl) ?_
  refine ga_call 19 rfl (by kernel_rfl) (ec_func Tryz.call24 rfl) (i24_25 (R := isTest) (R' := fun _ => isTest) (h.test4.sub (hs.trans hB2.sub) fun _ _ k => k) hB2.has (Nat.le_trans hc.test4 (by decide)) isTest_ok (fun _ => isTest_ok) (fun _ _ _ _ _ k => k) (copyC isTest_ok fun _ h1 h2 => k25 h1 h2)) ?_
  rintro v3 wq3 ⟨Mq3, hb3q, hf3⟩
  refine ⟨hb3q.old _ _ hS, fun hS => ?_⟩
  obtain ⟨a3, n3, c3, rfl⟩ := hf3.isS
  have hB3 := hB2.trans hb3q
  have hz3 := hb3q.old _ _ hz2
  have hn3 := hb3q.none_of hn2 hlt2
  have hlt3 := Nat.lt_of_lt_of_le hlt2 hb3q.old.size
  refine ga_norm (listed' := (bl 115 10038484091435394618784788802174975)) (by kernel_rfl) ?_
  refine ga_call 22 rfl (by kernel_rfl) (ec_func Tryz.call26 rfl) (i26 (h.strs.sub (hs.trans hB3.sub) fun _ _ k => k) _) ?_
  rintro v4 _ ⟨hf4, rfl⟩
  refine ⟨hS, fun hS => ?_⟩
  obtain ⟨a4, n4, c4, rfl⟩ := hf4.isS
  refine ga_norm (listed' := (bl 115 10038484091435394618784788806369279)) (by kernel_rfl) ?_
  refine ga_call 25 rfl (by kernel_rfl) (ec_func Tryz.call21 rfl) (m21 h.tables (hs.trans hB3.sub) hB3.has (Nat.le_trans hc.tables (by decide))) ?_
  rintro v5 wq5 ⟨Mq5, hb5q, hf5⟩
  refine ⟨hb5q.old _ _ hS, fun hS => ?_⟩
  obtain ⟨a5, n5, c5, rfl⟩ := hf5.isS
  have hB5 := hB3.trans hb5q
  have hz5 := hb5q.old _ _ hz3
  have hn5 := hb5q.none_of hn3 hlt3
  have hlt5 := Nat.lt_of_lt_of_le hlt3 hb5q.old.size
  refine ga_norm (listed' := (bl 115 10038484091435394618784788839923711)) (by kernel_rfl) ?_
  refine ga_call 28 rfl (by kernel_rfl) (ec_func Tryz.call21 rfl) (m21 h.enemy (hs.trans hB5.sub) hB5.has (Nat.le_trans hc.enemy (by decide))) ?_
  rintro v6 wq6 ⟨Mq6, hb6q, hf6⟩
  refine ⟨hb6q.old _ _ hS, fun hS => ?_⟩
  obtain ⟨a6, n6, c6, rfl⟩ := hf6.isS
  have hB6 := hB5.trans hb6q
  have hz6 := hb6q.old _ _ hz5
  have hn6 := hb6q.none_of hn5 hlt5
  have hlt6 := Nat.lt_of_lt_of_le hlt5 hb6q.old.size
  refine ga_norm (listed' := (bl 115 10038484091435394618784789108359167)) (by kernel_rfl) ?_
  refine ga_call 33 rfl (by kernel_rfl) (ec_func Tryz.call27 rfl) (i27 (R := isStat) (R' := fun _ => isStat) (h.stat.sub (hs.trans hB6.sub) fun _ _ k => k) hB6.has (Nat.le_trans hc.stat (by decide)) isStat_ok (fun _ => isStat_ok) (fun _ _ _ _ _ k => k) (copyC isStat_ok fun _ h1 h2 => k28 h1 h2)) ?_
  rintro v7 wq7 ⟨Mq7, hb7q, hf7⟩
  refine ⟨hb7q.old _ _ hS, fun hS => ?_⟩
  obtain ⟨a7, n7, c7, rfl⟩ := hf7.isS
  have hB7 := hB6.trans hb7q
  have hz7 := hb7q.old _ _ hz6
  have hn7 := hb7q.none_of hn6 hlt6
  have hlt7 := Nat.lt_of_lt_of_le hlt6 hb7q.old.size
  refine ga_norm (listed' := (bl 115 10038484091435394618784797698293759)) (by kernel_rfl) ?_
  refine ga_call 54 rfl (by kernel_rfl) (ec_func Tryz.call29 rfl) (i29 (h.bools.sub (hs.trans hB7.sub) fun _ _ k => k) _) ?_
  rintro v8 _ ⟨hf8, rfl⟩
  refine ⟨hS, fun hS => ?_⟩
  obtain ⟨a8, n8, c8, rfl⟩ := hf8.isS
  refine ga_norm (listed' := (bl 115 10038484091435394636799196207775743)) (by kernel_rfl) ?_
  refine ga_call 63 rfl (by kernel_rfl) (ec_func Tryz.call26 rfl) (i26 (h.strs2.sub (hs.trans hB7.sub) fun _ _ k => k) _) ?_
  rintro v9 _ ⟨hf9, rfl⟩
  refine ⟨hS, fun hS => ?_⟩
  obtain ⟨a9, n9, c9, rfl⟩ := hf9.isS
  refine ga_norm (listed' := (bl 115 10038484091435403860171233062551551)) (by kernel_rfl) ?_
  refine ga_call 66 rfl (by kernel_rfl) (ec_func Tryz.call30 rfl) (i30 (R := isAbil) (R' := fun _ => isAbil) (h.abil.sub (hs.trans hB7.sub) fun _ _ k => k) hB7.has (Nat.le_trans hc.abil (by decide)) isAbil_ok (fun _ => isAbil_ok) (fun _ _ _ _ _ k => k) (copyC isAbil_ok fun _ h1 h2 => k31 h1 h2)) ?_
  rintro v10 wq10 ⟨Mq10, hb10q, hf10⟩
  refine ⟨hb10q.old _ _ hS, fun hS => ?_⟩
  obtain ⟨a10, n10, c10, rfl⟩ := hf10.isS
  have hB10 := hB7.trans hb10q
  have hz10 := hb10q.old _ _ hz7
  have hn10 := hb10q.none_of hn7 hlt7
  have hlt10 := Nat.lt_of_lt_of_le hlt7 hb10q.old.size
  refine ga_norm (listed' := (bl 115 10038484091435477647147527900758015)) (by kernel_rfl) ?_
  refine ga_call 71 rfl (by kernel_rfl) (ec_func Tryz.call24 rfl) (i24_32 (R := isTest) (R' := fun _ => isTest) (h.test5.sub (hs.trans hB10.sub) fun _ _ k => k) hB10.has (Nat.le_trans hc.test5 (by decide)) isTest_ok (fun _ => isTest_ok) (fun _ _ _ _ _ k => k) (copyC isTest_ok fun _ h1 h2 => k32 h1 h2)) ?_
  rintro v11 wq11 ⟨Mq11, hb11q, hf11⟩
  refine ⟨hb11q.old _ _ hS, fun hS => ?_⟩
  obtain ⟨a11, n11, c11, rfl⟩ := hf11.isS
  have hB11 := hB10.trans hb11q
  have hz11 := hb11q.old _ _ hz10
  have hn11 := hb11q.none_of hn10 hlt10
  have hlt11 := Nat.lt_of_lt_of_le hlt10 hb11q.old.size
  refine ga_norm (listed' := (bl 115 10038484091437838830388962723364863)) (by kernel_rfl) ?_
  refine ga_call 74 rfl (by kernel_rfl) (ec_func Tryz.call33 rfl) (i33 (h.longs.sub (hs.trans hB11.sub) fun _ _ k => k) _) ?_
  rintro v12 _ ⟨hf12, rfl⟩
  refine ⟨hS, fun hS => ?_⟩
  obtain ⟨a12, n12, c12, rfl⟩ := hf12.isS
  refine ga_norm (listed' := (bl 115 10038484091456728296320441304219647)) (by kernel_rfl) ?_
  refine ga_call 77 rfl (by kernel_rfl) (ec_func Tryz.call34 rfl) (i34 (h.doubles.sub (hs.trans hB11.sub) fun _ _ k => k) _) ?_
  rintro v13 _ ⟨hf13, rfl⟩
  refine ⟨hS, fun hS => ?_⟩
  obtain ⟨a13, n13, c13, rfl⟩ := hf13.isS
  refine ga_norm (listed' := (bl 115 10038484091607844023772269951057919)) (by kernel_rfl) ?_
  refine ga_call 82 rfl (by kernel_rfl) (ec_func Tryz.call34 rfl) (i34 (h.refs.sub (hs.trans hB11.sub) fun _ _ k => k) _) ?_
  rintro v14 _ ⟨hf14, rfl⟩
  refine ⟨hS, fun hS => ?_⟩
  obtain ⟨a14, n14, c14, rfl⟩ := hf14.isS
  refine ga_norm (listed' := (bl 115 10038484096443547302230786649882623)) (by kernel_rfl) ?_
  refine ga_call 87 rfl (by kernel_rfl) (ec_func Tryz.call34 rfl) (i34 (h.weak.sub (hs.trans hB11.sub) fun _ _ k => k) _) ?_
  rintro v15 _ ⟨hf15, rfl⟩
  refine ⟨hS, fun hS => ?_⟩
  obtain ⟨a15, n15, c15, rfl⟩ := hf15.isS
  refine ga_norm (listed' := (bl 115 10038484251186052212903321012273151)) (by kernel_rfl) ?_
  refine ga_call 90 rfl (by kernel_rfl) (ec_func Tryz.call34 rfl) (i34 (h.strong.sub (hs.trans hB11.sub) fun _ _ k => k) _) ?_
  rintro v16 _ ⟨hf16, rfl⟩
  refine ⟨hS, fun hS => ?_⟩
  obtain ⟨a16, n16, c16, rfl⟩ := hf16.isS
  refine ga_norm (listed' := (bl 115 10038485489126091498283595911397375)) (by kernel_rfl) ?_
  refine ga_call 95 rfl (by kernel_rfl) (ec_func Tryz.call34 rfl) (i34 (h.coown.sub (hs.trans hB11.sub) fun _ _ k => k) _) ?_
  rintro v17 _ ⟨hf17, rfl⟩
  refine ⟨hS, fun hS => ?_⟩
  obtain ⟨a17, n17, c17, rfl⟩ := hf17.isS
  refine ga_norm (listed' := (bl 115 10038525103207348630452392683372543)) (by kernel_rfl) ?_
  refine ga_call 100 rfl (by kernel_rfl) (ec_func Tryz.call34 rfl) (i34 (h.nonown.sub (hs.trans hB11.sub) fun _ _ k => k) _) ?_
  rintro v18 _ ⟨hf18, rfl⟩
  refine ⟨hS, fun hS => ?_⟩
  obtain ⟨a18, n18, c18, rfl⟩ := hf18.isS
  refine ga_norm (listed' := (bl 115 10039792753807576859853889386577919)) (by kernel_rfl) ?_
  refine ga_call 104 rfl (by kernel_rfl) (ec_dyn rfl Tryz.call20 rfl) (h20 h.anyU (hs.trans hB11.sub) hB11.has hcl.2.1) ?_
  rintro _ wq19 ⟨Mq19, a19, n19, c19, rfl, hb19q, hf19⟩
  refine ⟨hb19q.old _ _ hS, fun hS => ?_⟩
  have hB19 := hB11.trans hb19q
  have hz19 := hb19q.old _ _ hz11
  have hn19 := hb19q.none_of hn11 hlt11
  have hlt19 := Nat.lt_of_lt_of_le hlt11 hb19q.old.size
  refine ga_norm (listed' := (bl 115 10060075163411228530277836637863935)) (by kernel_rfl) ?_
  refine ga_call 108 rfl (by kernel_rfl) (ec_dyn rfl Tryz.call20 rfl) (h20 h.anyA (hs.trans hB19.sub) hB19.has hcl.2.2) ?_
  rintro _ wq20 ⟨Mq20, a20, n20, c20, rfl, hb20q, hf20⟩
  refine ⟨hb20q.old _ _ hS, fun hS => ?_⟩
  have hB20 := hB19.trans hb20q
  have hz20 := hb20q.old _ _ hz19
  have hn20 := hb20q.none_of hn19 hlt19
  have hlt20 := Nat.lt_of_lt_of_le hlt19 hb20q.old.size
  refine ga_norm (listed' := (bl 115 10384593717069655257060992658440191)) (by kernel_rfl) ?_
  refine ga_takef 113 (bl 115 20769187434139310514121985316880383) hns hsm rfl (by kernel_rfl) (by kernel_rfl) (fun _ _ => (ev_build (cs := cells52 d ({ pos := .slice a1 n1 c1, test := .slice a2 n2 c2, test4 := .slice a3 n3 c3, strs := .slice a4 n4 c4, tables := .slice a5 n5 c5, enemy := .slice a6 n6 c6, stat := .slice a7 n7 c7, bools := .slice a8 n8 c8, strs2 := .slice a9 n9 c9, abil := .slice a10 n10 c10, test5 := .slice a11 n11 c11, longs := .slice a12 n12 c12, doubles := .slice a13 n13 c13, refs := .slice a14 n14 c14, weak := .slice a15 n15 c15, strong := .slice a16 n16 c16, coown := .slice a17 n17 c17, nonown := .slice a18 n18 c18, anyU := .slice a19 n19 c19, anyA := .slice a20 n20 c20 } : SV)) rfl (by kernel_rfl))) hS ?_
  refine ga_s 114 rfl (by kernel_rfl) (es_sta rfl rfl Tryz.sizeOf52 hz20 rfl rfl (ones_lit (by rfl))) (sb_ne (by omega) hS) ?_
  refine ga_norm (listed' := (bl 115 41538374868278621028243970633760767)) (by kernel_rfl) ?_
  refine ga_nil (by kernel_rfl) ?_
  have hsl : Sub Mq20 Mq20 := Sub.refl
  have hs_Mq19 : Sub Mq19 Mq20 := hb20q.sub.trans hsl
  have hs_Mq11 : Sub Mq11 Mq20 := hb19q.sub.trans hs_Mq19
  have hs_Mq10 : Sub Mq10 Mq20 := hb11q.sub.trans hs_Mq11
  have hs_Mq7 : Sub Mq7 Mq20 := hb10q.sub.trans hs_Mq10
  have hs_Mq6 : Sub Mq6 Mq20 := hb7q.sub.trans hs_Mq7
  have hs_Mq5 : Sub Mq5 Mq20 := hb6q.sub.trans hs_Mq6
  have hs_Mq3 : Sub Mq3 Mq20 := hb5q.sub.trans hs_Mq5
  have hs_Mq2 : Sub Mq2 Mq20 := hb3q.sub.trans hs_Mq3
  have hs_Mq1 : Sub Mq1 Mq20 := hb2q.sub.trans hs_Mq2
  have hs_M1 : Sub M1 Mq20 := hb1q.sub.trans hs_Mq1
  have hX : SrcR ImplOK Mq20 d ({ pos := .slice a1 n1 c1, test := .slice a2 n2 c2, test4 := .slice a3 n3 c3, strs := .slice a4 n4 c4, tables := .slice a5 n5 c5, enemy := .slice a6 n6 c6, stat := .slice a7 n7 c7, bools := .slice a8 n8 c8, strs2 := .slice a9 n9 c9, abil := .slice a10 n10 c10, test5 := .slice a11 n11 c11, longs := .slice a12 n12 c12, doubles := .slice a13 n13 c13, refs := .slice a14 n14 c14, weak := .slice a15 n15 c15, strong := .slice a16 n16 c16, coown := .slice a17 n17 c17, nonown := .slice a18 n18 c18, anyU := .slice a19 n19 c19, anyA := .slice a20 n20 c20 } : SV) := { pos := hf1.sub hs_Mq1 fun _ _ k => k, test := hf2.sub hs_Mq2 fun _ _ k => k.sub hs_Mq2, test4 := hf3.sub hs_Mq3 fun _ _ k => k, strs := hf4.rowS.sub hs_Mq3 fun _ _ k => k, tables := hf5.sub hs_Mq5 fun _ _ k => k.sub hs_Mq5, enemy := hf6.sub hs_Mq6 fun _ _ k => k.sub hs_Mq6, stat := hf7.sub hs_Mq7 fun _ _ k => k, bools := hf8.rowS.sub hs_Mq7 fun _ _ k => k, strs2 := hf9.rowS.sub hs_Mq7 fun _ _ k => k, abil := hf10.sub hs_Mq10 fun _ _ k => k, test5 := hf11.sub hs_Mq11 fun _ _ k => k, longs := hf12.rowS.sub hs_Mq11 fun _ _ k => k, doubles := hf13.rowS.sub hs_Mq11 fun _ _ k => k, refs := hf14.rowS.sub hs_Mq11 fun _ _ k => k, weak := hf15.rowS.sub hs_Mq11 fun _ _ k => k, strong := hf16.rowS.sub hs_Mq11 fun _ _ k => k, coown := hf17.rowS.sub hs_Mq11 fun _ _ k => k, nonown := hf18.rowS.sub hs_Mq11 fun _ _ k => k, anyU := hf19.sub hs_Mq19 fun _ _ k => k.sub hs_Mq19, anyA := hf20.sub hsl fun _ _ k => k.sub hsl }
  refine gk_retc Tryz.results8 rfl Tryz.isAgg52 Tryz.sizeOf52 (sb_same hz20) rfl ?_
  exact ⟨_, rfl, Mq20, _, rfl, hB20.put hn20 (by omega), o17 hX hc⟩

end Go.Proofs.YtjaplgfgkigmiaaGreat