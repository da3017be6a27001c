/-
  The row's closed facts, one by one.
-/
import Derived.Test.YtjaplgfgkigmiaaGreatRows
import Derived.JoinedOf
import Derived.KernelRfl
namespace Go.Proofs.YtjaplgfgkigmiaaGreat
open Go Go.Proofs

noncomputable abbrev P_ : Program := Tryz.pinned.checked.prog
abbrev C_ : OpenClaim := Rows.fnMonsterSizesRow
abbrev S_ : ChangeSpec := Rows.fnMonsterSizesSpec
theorem band {a b : Bool} (h : a = true) (k : b = true) : (a && b) = true := by rw [h, k]; rfl

theorem j0 : (C_.wf (OpenSpec.ofChange S_)) = true := by kernel_rfl
theorem j1 : (laidOutB P_) = true := by kernel_rfl
theorem j2 : (mapsRowed P_) = true := by kernel_rfl
theorem j3 : (Tryz.f3.params.all (P_.readableRec ·)) = true := by kernel_rfl
theorem j4 : (namedTie P_ C_.named S_.vars) = true := by kernel_rfl
theorem j5 : ((C_.stops == [])) = true := by kernel_rfl
theorem j6 : ((P_.stops == [])) = true := by kernel_rfl
theorem j7 : ((C_.knobs == [])) = true := by kernel_rfl
theorem j8 : ((P_.stopKnobs == [])) = true := by kernel_rfl
theorem j9 : ((C_.inPlace == P_.inPlace 3)) = true := by kernel_rfl
theorem j10 : ((C_.unfollowed == P_.unfollowed 3)) = true := by kernel_rfl
theorem j11 : ((C_.recurses == P_.recurses 3)) = true := by kernel_rfl
theorem j12 : ((C_.named == P_.varsNamed 3)) = true := by kernel_rfl
theorem j13 : ((C_.maps == (Tryz.f3.params.toList ++ S_.plain.varTypes P_).any (P_.mapsRec ·))) = true := by kernel_rfl
theorem j14 : ((C_.ifaces == (Tryz.f3.params.toList ++ S_.plain.varTypes P_).any (P_.ifacesRec ·))) = true := by kernel_rfl
theorem j15 : ((C_.mapsOut == P_.mapsAmong Tryz.f3.resultTypes.toList)) = true := by kernel_rfl
theorem j16 : ((C_.loops == (Tryz.f3.params.toList ++ S_.plain.varTypes P_).any (P_.loopsFrom ·))) = true := by kernel_rfl
theorem j17 : ((C_.wideKeys == (Tryz.f3.params.toList ++ S_.plain.varTypes P_ ++ Tryz.f3.resultTypes.toList).any (P_.wideKeysFrom ·))) = true := by kernel_rfl
theorem j18 : (S_.vars.all (P_.varReadable ·)) = true := by kernel_rfl
theorem j19 : (Tryz.f3.resultTypes.all (fun t => P_.readableRec t && decide (t < P_.types.size))) = true := by kernel_rfl
theorem j20 : ((C_.ifacesOut == Tryz.f3.resultTypes.toList.any (P_.ifacesRec ·))) = true := by kernel_rfl
theorem j21 : ((C_.loopsOut == Tryz.f3.resultTypes.toList.any (P_.loopsFrom ·))) = true := by kernel_rfl
theorem j22 : ((C_.plainKeys == P_.plainKeys)) = true := by kernel_rfl
theorem j23 : (C_.shortTexts.isNone) = true := by kernel_rfl
theorem j24 : (P_.stopsHeard) = true := by kernel_rfl
theorem j25 : (P_.mayEnter) = true := by kernel_rfl
theorem j26 : ((C_.lifted == P_.liftsFinal)) = true := by kernel_rfl
theorem j27 : ((P_.make == some C_.make)) = true := by kernel_rfl
theorem j28 : ((C_.kinds == (if C_.domain.isEmpty then [] else Tryz.f3.params.toList.map fun t => match P_.underlying t with | some (.int k) => some k | _ => none))) = true := by kernel_rfl
theorem j29 : ((C_.pinned == C_.pinnedBy)) = true := by kernel_rfl
theorem j30 : ((C_.veiled == (Tryz.f3.params.toList ++ S_.plain.varTypes P_ ++ Tryz.f3.resultTypes.toList).any (P_.veiledRec ·))) = true := by kernel_rfl
theorem j31 : (C_.veiledFits P_ Tryz.f3.params.toList (Tryz.f3.params.toList ++ S_.plain.varTypes P_ ++ Tryz.f3.resultTypes.toList)) = true := by kernel_rfl
set_option maxRecDepth 100000 in
theorem closed_ : joinedFacts P_ 3 Tryz.f3 S_ C_ = true := by
  unfold joinedFacts
  exact (band (band (band (band (band (band (band (band (band (band (band (band (band (band (band (band (band (band (band (band (band (band (band (band (band (band (band (band (band (band (band j0 j1) j2) j3) j4) j5) j6) j7) j8) j9) j10) j11) j12) j13) j14) j15) j16) j17) j18) j19) j20) j21) j22) j23) j24) j25) j26) j27) j28) j29) j30) j31)
theorem named_ : P_.funcNamed C_.func = some 3 := by kernel_rfl
theorem inst_ : Func.isInstance P_ Tryz.f3 C_.origin C_.targs := of_decide_eq_true (by kernel_rfl)
theorem wrap_ : Func.isWrapper P_ Tryz.f3 C_.wrapper C_.mainSum := by
  unfold Func.isWrapper; first | (rw [if_pos (by decide +kernel)]; kernel_rfl) | (rw [if_neg (by decide +kernel)]; exact ⟨rfl, rfl⟩)
end Go.Proofs.YtjaplgfgkigmiaaGreat
