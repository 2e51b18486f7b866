/- The closed runs over the code's assocData and procText: a round, and the end behind the last whole block. No condition. -/
import Derived.Test.YtfilandehjmikaaDoorAscT
namespace Go.Proofs.YtfilandehjmikaaDoor.Asc
open Go.RowKit Go.Proofs.YtfilandehjmikaaDoor.Sx

def pC : Code → Code
  | .cond _ x _ => x
  | c => c
def fsC : List FuncId := [42, 43, 44, 45, 46, 48, 52]
noncomputable def KC (G : Cfg) : CallF := callN Tryd.prog G permK fsC 100 4
def emG : Cfg := { so := [(0, 0, []), (1, 0, [])] }
def u64L (n : Int) : AV := .one (.c (.v (.int .u64 n)))

/-! ### assocData -/
noncomputable def a33 : Code := bodyOf 33
noncomputable def aR0 : Code := pA a33
noncomputable def aR1 : Code := pA (pB a33)
noncomputable def aR2 : Code := pA (pA (pB (pB a33)))
noncomputable def aCo : Code := pB (pA (pB (pB a33)))
noncomputable def aLp : Code := pL (pK (pA (pC aCo)))
noncomputable def aRest : Code := pB (pC aCo)
noncomputable def aFin : Code := pB (pB (pB a33))
theorem a33_eq : a33 = .seq aR0 (.seq aR1 (.seq (.seq aR2 (.cond (.tmp 16) (.seq (.block 0 (.loop aLp)) aRest) .skip)) aFin)) := by kernel_rfl
def aL (x : AV) (n r : Nat) : List (Nat × AV) := [(1, x), (2, ptV 1), (6, i64 n), (7, i64 r)]
noncomputable def aRound (two : Bool) (r : Nat) : Bool :=
  endsAt .nrm (aL (.one (.c (.slc 0 0 (rate two) ⟨1, 0⟩ ⟨201, 0⟩))) (rate two) r) [roB (win 0 (rate two)), rwB (permA r (absT two))]
    (aCode Tryd.prog {} (KC {}) 99 100 aLp (mkTr (aL (slV 0 ⟨1, rate two⟩ ⟨201, rate two⟩) (rate two) r)) [roB (win 0 (rate two)), rwB (wsA [sT 0, sT 1, sT 2, sT 3, sT 4])])
theorem aRound_8 : aRound false 6 = true := by kernel_rfl
theorem aRound_16 : aRound true 8 = true := by kernel_rfl
/-- What is left: nothing (whatever the slice), or so many bytes. -/
def leftG : Nat → Cfg
  | 0 => emG
  | _ => {}
def leftV : Nat → AV
  | 0 => opV 0
  | k => slV 0 ⟨0, k⟩ ⟨201, k⟩
noncomputable def aExit (two : Bool) (r k : Nat) : Bool :=
  endsAt (.exit 0) (aL (leftV k) (rate two) r) [roB (win 0 k), rwB (wsA [sT 0, sT 1, sT 2, sT 3, sT 4])]
    (aCode Tryd.prog (leftG k) (KC (leftG k)) 99 100 aLp (mkTr (aL (leftV k) (rate two) r)) [roB (win 0 k), rwB (wsA [sT 0, sT 1, sT 2, sT 3, sT 4])])
noncomputable def aEnd (two : Bool) (r k : Nat) : Bool :=
  endsAt .nrm (aL (leftV k) (rate two) r) [roB (win 0 k), rwB (permA r (tailT two k))]
    (aCode Tryd.prog (leftG k) (KC (leftG k)) 99 100 aRest (mkTr (aL (leftV k) (rate two) r)) [roB (win 0 k), rwB (wsA [sT 0, sT 1, sT 2, sT 3, sT 4])])
theorem aExit_8 : ((List.range 8).all fun k => aExit false 6 k && aEnd false 6 k) = true := by kernel_rfl
theorem aExit_16 : ((List.range 16).all fun k => aExit true 8 k && aEnd true 8 k) = true := by kernel_rfl
theorem aLeft (two : Bool) (r k : Nat) (h : (two = false ∧ r = 6 ∧ k < 8) ∨ (two = true ∧ r = 8 ∧ k < 16)) : aExit two r k = true ∧ aEnd two r k = true := by
  rcases h with ⟨rfl, rfl, h⟩ | ⟨rfl, rfl, h⟩
  · simpa using List.all_eq_true.1 aExit_8 k (List.mem_range.2 h)
  · simpa using List.all_eq_true.1 aExit_16 k (List.mem_range.2 h)
theorem aRounds (two : Bool) (r : Nat) (h : (two = false ∧ r = 6) ∨ (two = true ∧ r = 8)) : aRound two r = true := by
  rcases h with ⟨rfl, rfl⟩ | ⟨rfl, rfl⟩
  · exact aRound_8
  · exact aRound_16
/-! ### ahead of the loop, and behind it -/
def cmode : Nat → Int
  | 0 => 1
  | 1 => 2
  | _ => -1
def mdOf : Nat → Md
  | 1 => ⟨true, 8⟩
  | _ => ⟨false, 6⟩
theorem mdOf_is (m : Nat) : ((mdOf m).two = false ∧ (mdOf m).r = 6) ∨ ((mdOf m).two = true ∧ (mdOf m).r = 8) := by
  unfold mdOf
  split
  · exact .inr ⟨rfl, rfl⟩
  · exact .inl ⟨rfl, rfl⟩
/-- The cipher's cells: three words, the way. -/
def ciph (m : Nat) : MB := roB [.o 20, .o 21, .o 22, .v (.int .i64 (cmode m))]
def preG (b : Bool) : Cfg := { ln := [(0, 2)], cm := [(.gtr, 3, .o 2, .v (.int .i64 0), .v (.bool b))] }
def pL0 : List (Nat × AV) := [(0, ptV 0), (1, opV 0), (2, opV 1)]
def pL1 (m : Nat) : List (Nat × AV) := [(0, ptV 0), (1, opV 0), (2, opV 1), (6, i64 (rate (mdOf m).two))]
def pL2 (m : Nat) : List (Nat × AV) := [(1, opV 0), (2, opV 1), (6, i64 (rate (mdOf m).two)), (7, i64 (mdOf m).r)]
def pL3 (m : Nat) (b : Bool) : List (Nat × AV) := [(1, opV 0), (2, opV 1), (6, i64 (rate (mdOf m).two)), (7, i64 (mdOf m).r), (16, .one (.c (.v (.bool b))))]
noncomputable def aPre (m : Nat) (b : Bool) : Bool :=
  endsAt .nrm (pL1 m) [ciph m] (aCode Tryd.prog (preG b) (KC (preG b)) 99 100 aR0 (mkTr pL0) [ciph m]) &&
  endsAt .nrm (pL2 m) [ciph m] (aCode Tryd.prog (preG b) (KC (preG b)) 99 100 aR1 (mkTr (pL1 m)) [ciph m]) &&
  endsAt .nrm (pL3 m b) [ciph m] (aCode Tryd.prog (preG b) (KC (preG b)) 99 100 aR2 (mkTr (pL2 m)) [ciph m])
theorem aPre_all : ([0, 1, 2].all fun m => aPre m true && aPre m false) = true := by kernel_rfl
theorem aPre_at {m : Nat} (hm : m ≤ 2) (b : Bool) : aPre m b = true := by
  have := List.all_eq_true.1 aPre_all m (by simp; omega)
  simp only [Bool.and_eq_true] at this
  cases b
  · exact this.2
  · exact this.1
noncomputable def aLast : Bool :=
  endsAt .nrm [] [rwB (wsA [sT 0, sT 1, sT 2, sT 3, mkXor (sT 4) (.k 1)])] (aCode Tryd.prog {} (KC {}) 99 100 aFin (mkTr [(2, ptV 0)]) [rwB (wsA [sT 0, sT 1, sT 2, sT 3, sT 4])])
theorem aLast_ok : aLast = true := by kernel_rfl
end Go.Proofs.YtfilandehjmikaaDoor.Asc
