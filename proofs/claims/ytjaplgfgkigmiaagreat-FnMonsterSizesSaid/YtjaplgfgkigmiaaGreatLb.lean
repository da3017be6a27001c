/-
  The monster of monsterAwake: its bytes.
-/
import Derived.Test.YtjaplgfgkigmiaaGreatRr
namespace Go.Proofs.YtjaplgfgkigmiaaGreat
open Go Go.Proofs

def noCh : Ch := ⟨0, [], 0⟩
def orcN : ByteArray := ⟨#[111, 114, 99]⟩
def dOrc : SD := { pos := [], mana := 150, hp := 80, name := orcN, inv := ⟨#[]⟩, color := 0, test := noCh, test4 := [], strs := [], tables := [], enemy := [], nest := ⟨#[]⟩, stat := [], tbool := false, s32 := 0, u32 := 0, s64 := 0, u64 := 0, s32a := 0, u32a := 0, s64a := 0, u64a := 0, bools := [], f1 := 0, f2 := 0, f3 := 0, strs2 := [], abil := [], flex := ⟨#[]⟩, test5 := [], longs := [], doubles := [], parent := false, refs := [], single := 0, weak := [], strong := [], co := 0, coown := [], non := 0, nonown := [], anyU := noCh, anyA := noCh, enums := ⟨#[]⟩, signed := 0 }
def nilS : Value := .slice none 0 0
def xOrc : SV := { pos := nilS, test := nilS, test4 := nilS, strs := nilS, tables := nilS, enemy := nilS, stat := nilS, bools := nilS, strs2 := nilS, abil := nilS, test5 := nilS, longs := nilS, doubles := nilS, refs := nilS, weak := nilS, strong := nilS, coown := nilS, nonown := nilS, anyU := nilS, anyA := nilS }
theorem orc_src {M : Mem} {sub : Mem → Array Value → PK → Prop} : SrcR sub M dOrc xOrc := by
  constructor <;> exact .inl ⟨rfl, none, 0, rfl⟩
theorem orc_clean : Clean dOrc := by
  constructor <;> first | exact Nat.zero_le _ | exact .inl rfl | (show (3 : Nat) ≤ 300; decide) | (intro s hs; cases hs)
theorem orc_bytes : ((packM (toMD dOrc) St0).bind fun p => (finish p.1 p.2).map (·.buf)) = some orcB := by kernel_rfl
theorem orc_pack : ∃ r S S', packM (toMD dOrc) St0 = some (r, S) ∧ finish r S = some S' ∧ S'.fin = true ∧ 0 < S'.buf.length ∧ S'.buf = orcB := by
  obtain ⟨r, S, S', h1, h2, h3, h4, _⟩ := tot_all (totD (k6 := 0) (k7 := 0) (k3 := 0) (k23 := 0) (k24 := 0) orc_clean trivial trivial trivial trivial trivial) (by decide)
  refine ⟨r, S, S', h1, h2, h3, h4, ?_⟩
  have := orc_bytes
  rw [h1, Option.bind_some, h2] at this
  exact Option.some.inj this
end Go.Proofs.YtjaplgfgkigmiaaGreat
