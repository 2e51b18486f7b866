/- The closed runs over the code's procText: a round, and the end behind the last whole block. No condition. -/
import Derived.Test.YtfilandehjmikaaDoorAscU
namespace Go.Proofs.YtfilandehjmikaaDoor.Asc
open Go.RowKit Go.Proofs.YtfilandehjmikaaDoor.Sx

noncomputable def t34 : Code := bodyOf 34
noncomputable def tR0 : Code := pA t34
noncomputable def tR1 : Code := pA (pB t34)
noncomputable def tR2 : Code := pA (pB (pB t34))
noncomputable def tIf : Code := pA (pB (pB (pB t34)))
noncomputable def tLp : Code := pL (pK (pA (pB (pB (pB (pB t34))))))
noncomputable def tRest : Code := pB (pB (pB (pB (pB t34))))
theorem t34_eq : t34 = .seq tR0 (.seq tR1 (.seq tR2 (.seq tIf (.seq (.block 0 (.loop tLp)) tRest)))) := by kernel_rfl
def mask (back : Bool) : AV := match back with
  | true => u64L 0
  | false => u64L 18446744073709551615
def roundT (two back : Bool) : List T := match back with
  | true => wholeT two
  | false => absT two
def endT (two back : Bool) (k : Nat) : List T := match back with
  | true => backT two k
  | false => tailT two k
def tL (x y : AV) (back : Bool) (n r : Nat) : List (Nat × AV) := [(1, x), (2, y), (4, ptV 2), (10, i64 n), (11, i64 r), (12, mask back)]
def oldA (n : Nat) : List AC := (List.range n).map fun i => .o (10 + i)
noncomputable def tRound (two back : Bool) (r : Nat) : Bool :=
  endsAt .nrm (tL (.one (.c (.slc 0 0 (rate two) ⟨1, 0⟩ ⟨201, 0⟩))) (.one (.c (.slc 1 0 (rate two) ⟨1, 0⟩ ⟨202, 0⟩))) back (rate two) r) [roB (win 0 (rate two)), rwB (outs (rate two)), rwB (permA r (roundT two back))]
    (aCode Tryd.prog {} (KC {}) 159 100 tLp (mkTr (tL (slV 0 ⟨1, rate two⟩ ⟨201, rate two⟩) (slV 1 ⟨1, rate two⟩ ⟨202, rate two⟩) back (rate two) r)) [roB (win 0 (rate two)), rwB (oldA (rate two)), rwB (wsA [sT 0, sT 1, sT 2, sT 3, sT 4])])
theorem tRound_8 : (tRound false false 6 && tRound false true 6) = true := by kernel_rfl
theorem tRound_16 : (tRound true false 8 && tRound true true 8) = true := by kernel_rfl
def leftV2 : Nat → AV
  | 0 => opV 1
  | k => slV 1 ⟨0, k⟩ ⟨202, k⟩
noncomputable def tExit (two back : Bool) (r k : Nat) : Bool :=
  endsAt (.exit 0) (tL (leftV k) (leftV2 k) back (rate two) r) [roB (win 0 k), rwB (oldA k), rwB (wsA [sT 0, sT 1, sT 2, sT 3, sT 4])]
    (aCode Tryd.prog (leftG k) (KC (leftG k)) 159 100 tLp (mkTr (tL (leftV k) (leftV2 k) back (rate two) r)) [roB (win 0 k), rwB (oldA k), rwB (wsA [sT 0, sT 1, sT 2, sT 3, sT 4])])
noncomputable def tEnd (two back : Bool) (r k : Nat) : Bool :=
  endsAt .nrm [] [roB (win 0 k), rwB (outs k), rwB (wsA (endT two back k))]
    (aCode Tryd.prog (leftG k) (KC (leftG k)) 159 100 tRest (mkTr (tL (leftV k) (leftV2 k) back (rate two) r)) [roB (win 0 k), rwB (oldA k), rwB (wsA [sT 0, sT 1, sT 2, sT 3, sT 4])])
theorem tExit_8 : ((List.range 8).all fun k => tExit false false 6 k && tEnd false false 6 k && tExit false true 6 k && tEnd false true 6 k) = true := by kernel_rfl
noncomputable def tBoth (two : Bool) (r : Nat) (l : List Nat) : Bool := l.all fun k => tExit two false r k && tEnd two false r k && tExit two true r k && tEnd two true r k
theorem tBoth_a : tBoth true 8 [0, 1, 2, 3, 4, 5] = true := by kernel_rfl
theorem tBoth_b : tBoth true 8 [6, 7, 8, 9] = true := by kernel_rfl
theorem tBoth_c : tBoth true 8 [10, 11, 12] = true := by kernel_rfl
theorem tBoth_d : tBoth true 8 [13, 14, 15] = true := by kernel_rfl
theorem tLeft (two back : Bool) (r k : Nat) (h : (two = false ∧ r = 6 ∧ k < 8) ∨ (two = true ∧ r = 8 ∧ k < 16)) : tExit two back r k = true ∧ tEnd two back r k = true := by
  have one : ∀ {two r k}, (tExit two false r k && tEnd two false r k && tExit two true r k && tEnd two true r k) = true → tExit two back r k = true ∧ tEnd two back r k = true := fun {two r k} h => by
    simp only [Bool.and_eq_true] at h
    obtain ⟨⟨⟨h1, h2⟩, h3⟩, h4⟩ := h
    cases back
    · exact ⟨h1, h2⟩
    · exact ⟨h3, h4⟩
  rcases h with ⟨rfl, rfl, h⟩ | ⟨rfl, rfl, h⟩
  · exact one (List.all_eq_true.1 tExit_8 k (List.mem_range.2 h))
  · rcases (show k ∈ [0, 1, 2, 3, 4, 5] ∨ k ∈ [6, 7, 8, 9] ∨ k ∈ [10, 11, 12] ∨ k ∈ [13, 14, 15] by simp; omega) with h | h | h | h
    · exact one (List.all_eq_true.1 tBoth_a k h)
    · exact one (List.all_eq_true.1 tBoth_b k h)
    · exact one (List.all_eq_true.1 tBoth_c k h)
    · exact one (List.all_eq_true.1 tBoth_d k h)
theorem tRounds (two back : Bool) (r : Nat) (h : (two = false ∧ r = 6) ∨ (two = true ∧ r = 8)) : tRound two back r = true := by
  rcases h with ⟨rfl, rfl⟩ | ⟨rfl, rfl⟩
  · have := tRound_8
    simp only [Bool.and_eq_true] at this
    cases back
    · exact this.1
    · exact this.2
  · have := tRound_16
    simp only [Bool.and_eq_true] at this
    cases back
    · exact this.1
    · exact this.2
end Go.Proofs.YtfilandehjmikaaDoor.Asc
