/- The closed runs over the specification's Crypt: a round, and the end behind the last whole block. No condition. -/
import Derived.Test.YtfilandehjmikaaDoorSpA
import Derived.Test.YtfilandehjmikaaDoorAscV
namespace Go.Proofs.YtfilandehjmikaaDoor.Asc
open Go.RowKit Go.Proofs.YtfilandehjmikaaDoor.Sx

/-- A piece of code that returns: with these results, and (up to blocks that are new) this memory. -/
def endsR (P : Program) (rs : List ResultVar) (S : List RS) (m : List MB) (r : ARes) : Bool :=
  match r with
  | some (.ret, tr, mF) => (match aResults P tr mF rs with
    | some l => rsAll m.length mF S l
    | none => false) && memPre m mF && soloIn m && m.all fun b => !b.live || b.cs.all (AC.wf m.length)
  | _ => false
theorem packR_den {E : Env} {bl : Bl} (l : List A1) : (packR l).den E bl = packV (l.map (A1.den E bl)) := by
  match l with
  | [] => rfl
  | [x] => rfl
  | x :: y :: r => simp [packR, AV.den, packV]
theorem code_wpR {P : Program} {E : Env} {w0 w : World} {G : Cfg} {F : CallF} {nt fuel : Nat} (hE : CfgOk P E w0 G) (hF : CallOk P E w0 G F) (hmix : P.follows .mixedOrders = true) {fn : Func} {c : Code} {tr : Tr} {m m' : List MB} {S : List RS} {bl : Bl} {a : Act} {Post : Ending → World → Prop}
    (h : endsR P fn.results.toList S m' (aCode P G F nt fuel c tr m) = true) (hs : SRel E bl w0 G nt tr m a w)
    (hq : ∀ bl' vs w', Agree m.length bl bl' → RsAll E w0 w' bl' m' S vs → MRel E bl' w0 m' w' → Post (.returned (packV vs)) w') : c.wp P (bodyPost P fn Post) a w := by
  unfold endsR at h
  split at h
  · rename_i tr1 mF hr
    simp only [Bool.and_eq_true] at h
    obtain ⟨⟨⟨h1, h2⟩, h3⟩, h4⟩ := h
    split at h1
    · rename_i l hl
      obtain ⟨r', e, hrr⟩ := memPre_eq h2
      subst e
      refine aCode_sound hE hF hmix fuel c tr tr1 m (m' ++ r') .ret bl a w _ hr hs fun bl' a' w' ha _ hs' => ?_
      obtain ⟨g1, _⟩ := ends_run hs' hl
      refine ⟨hs'.defers, _, g1, ?_⟩
      rw [packR_den]
      exact hq bl' _ w' ha (rsAll_ok hE.env hs'.mem h1) (hs'.mem.take hrr h4 h3)
    · cases h1
  · cases h
/-- A way's cells: how many bytes a key has (whatever it is), a block, how many rounds. -/
def modeA (two : Bool) (r : Nat) : List AC := [.o 30, .v (.int .i64 (Int.ofNat (rate two))), .v (.int .i64 (Int.ofNat r))]
def fsS : List FuncId := [37, 39]
noncomputable def KS (G : Cfg) : CallF := callN Tryd.prog G specK fsS 100 2
theorem entsS : ∀ f ∈ fsS, Enters Tryd.prog f := fun f hf => by
  simp only [fsS, List.mem_cons, List.not_mem_nil, or_false] at hf
  rcases hf with rfl | rfl <;> exact fun _ _ => by kernel_rfl
theorem KS_ok {E : Env} {w0 : World} {G : Cfg} (hE : CfgOk Tryd.prog E w0 G) (hap : ApOk E) : CallOk Tryd.prog E w0 G (KS G) := callN_sound hE (specK_ok hE.env hap) mix entsS 2
noncomputable def c25 : Code := bodyOf 25
noncomputable def cR0 : Code := pA c25
noncomputable def cR1 : Code := pA (pB c25)
noncomputable def cLp : Code := pL (pK (pA (pB (pB c25))))
noncomputable def cRest : Code := pB (pB (pB c25))
theorem c25_eq : c25 = .seq cR0 (.seq cR1 (.seq (.block 0 (.loop cLp)) cRest)) := by kernel_rfl
def zeroA5 : List AC := [.v (.int .u64 0), .v (.int .u64 0), .v (.int .u64 0), .v (.int .u64 0), .v (.int .u64 0)]
/-- What is left of the text: a block, or none. -/
def srcMB : Nat → MB
  | 0 => ⟨[], false, false, false, 0, false⟩
  | k => roB (win 0 k)
def deadMB : MB := ⟨[], true, false, true, 1, true⟩
def cL (x : AV) (back : Bool) : List (Nat × AV) := [(2, x), (3, .one (.c (.v (.bool back)))), (4, ptV 1), (5, ptV 2), (9, opV 9)]
def cLR (x : AV) (back : Bool) : List (Nat × AV) := [(2, x), (3, .one (.c (.v (.bool back)))), (4, ptV 1), (5, ptV 2), (9, ptV 5)]
def cIn : AV := .one (.c (.dy 3 1 0 ⟨1, 0⟩))
def slC (k : Nat) : AV := .one (.c (.slc 0 0 k ⟨2, 0⟩ ⟨201, 0⟩))
noncomputable def cStart (two back : Bool) (r : Nat) : Bool :=
  endsAt .nrm [(2, opV 0), (3, .one (.c (.v (.bool back)))), (4, ptV 0), (5, ptV 1), (9, ptV 2)] [owB (modeA two r), owB stA, owB zeroA5]
    (aCode Tryd.prog {} noK 104 100 cR0 (mkTr [(0, .one (.a (modeA two r))), (1, .one (.a stA)), (2, opV 0), (3, .one (.c (.v (.bool back))))]) []) &&
  endsD .nrm [(2, opV 0), (3, .one (.c (.v (.bool back)))), (4, ptV 0), (5, ptV 1), (9, ptV 2)] [owB (modeA two r), owB stA, owB zeroA5] [(10, 0, [])]
    (aCode Tryd.prog {} noK 104 100 cR1 (mkTr [(2, opV 0), (3, .one (.c (.v (.bool back)))), (4, ptV 0), (5, ptV 1), (9, ptV 2)]) [owB (modeA two r), owB stA, owB zeroA5])
noncomputable def cRound (two back : Bool) (r : Nat) : Bool :=
  endsD .nrm (cLR (slC (rate two)) back) [roB (win 0 (rate two)), roB (modeA two r), owB (permA r (roundT two back)), deadMB, capMB, owB zeroA5] [(10, 1, outs (rate two))]
    (aCode Tryd.prog {} (KS {}) 104 100 cLp (mkTr (cLR (slV 0 ⟨2, rate two⟩ ⟨201, rate two⟩) back ++ [(10, cIn)])) [roB (win 0 (rate two)), roB (modeA two r), owB stA, newMB 1 [], capMB, owB zeroA5])
noncomputable def cExit (two back : Bool) (r j : Nat) : Bool :=
  endsAt (.exit 0) (cL (leftV j) back ++ [(10, opV 10)]) [srcMB j, roB (modeA two r), roB stA]
    (aCode Tryd.prog (leftG j) noK 104 100 cLp (mkTr (cL (leftV j) back ++ [(10, opV 10)])) [srcMB j, roB (modeA two r), roB stA])
noncomputable def cEnd (two back : Bool) (r j : Nat) : Bool :=
  endsR Tryd.prog [.tmp 8, .cell 9 48] [.d 1 (outs j), .v (.a (wsA (endT two back j)))] [srcMB j, roB (modeA two r), owB stA, deadMB, capMB, owB (wsA (endT two back j))]
    (aCode Tryd.prog (leftG j) (KS (leftG j)) 104 100 cRest (mkTr (cLR (leftV j) back ++ [(10, cIn)])) [srcMB j, roB (modeA two r), owB stA, newMB 1 [], capMB, owB zeroA5])
theorem cStart_all : (cStart false false 6 && cStart false true 6 && cStart true false 8 && cStart true true 8) = true := by kernel_rfl
theorem cRound_8 : (cRound false false 6 && cRound false true 6) = true := by kernel_rfl
theorem cRound_16a : cRound true false 8 = true := by kernel_rfl
theorem cRound_16b : cRound true true 8 = true := by kernel_rfl
theorem cExit_8 : ((List.range 8).all fun j => cExit false false 6 j && cExit false true 6 j) = true := by kernel_rfl
theorem cExit_16 : ((List.range 16).all fun j => cExit true false 8 j && cExit true true 8 j) = true := by kernel_rfl
theorem cStarts {two back : Bool} {r : Nat} (h : (two = false ∧ r = 6) ∨ (two = true ∧ r = 8)) : cStart two back r = true := by
  have := cStart_all
  simp only [Bool.and_eq_true] at this
  rcases h with ⟨rfl, rfl⟩ | ⟨rfl, rfl⟩ <;> cases back
  · exact this.1.1.1
  · exact this.1.1.2
  · exact this.1.2
  · exact this.2
theorem cRounds {two back : Bool} {r : Nat} (h : (two = false ∧ r = 6) ∨ (two = true ∧ r = 8)) : cRound two back r = true := by
  have := cRound_8
  simp only [Bool.and_eq_true] at this
  rcases h with ⟨rfl, rfl⟩ | ⟨rfl, rfl⟩ <;> cases back
  · exact this.1
  · exact this.2
  · exact cRound_16a
  · exact cRound_16b
theorem cExits {two back : Bool} {r k : Nat} (h : (two = false ∧ r = 6) ∨ (two = true ∧ r = 8)) (hk : k < rate two) : cExit two back r k = true := by
  rcases h with ⟨rfl, rfl⟩ | ⟨rfl, rfl⟩
  · have := List.all_eq_true.1 cExit_8 k (List.mem_range.2 hk)
    simp only [Bool.and_eq_true] at this
    cases back
    · exact this.1
    · exact this.2
  · have := List.all_eq_true.1 cExit_16 k (List.mem_range.2 hk)
    simp only [Bool.and_eq_true] at this
    cases back
    · exact this.1
    · exact this.2
end Go.Proofs.YtfilandehjmikaaDoor.Asc
