/- The laws' questions: whether a mode, a key and a nonce fit; whether bytes are few. No condition. -/
import Derived.Test.YtfilandehjmikaaDoorAscF
namespace Go.Proofs.YtfilandehjmikaaDoor.Asc
open Go.RowKit Go.Proofs.YtfilandehjmikaaDoor.Sx

def rgG (k n : Int) (b1 b2 : Bool) : Cfg := { ln := [(0, 2), (1, 3)], cm := [(.eql, 3, .o 2, .v (.int .i64 k), .v (.bool b1)), (.eql, 3, .o 3, .v (.int .i64 n), .v (.bool b2))] }
def rgOut (b1 b2 : Bool) : Cfg := { ln := [(0, 2), (1, 3)], cm := [(.geq, 3, .o 4, .v (.int .i64 0), .v (.bool b1)), (.lss, 3, .o 4, .v (.int .i64 3), .v (.bool b2))] }
noncomputable def rgOk (m : Nat) (b1 b2 : Bool) : Bool :=
  endsF [.v (.c (.v (.bool (b1 && b2))))] [] (runF Tryd.prog (rgG (klen m) 16 b1 b2) (callN Tryd.prog (rgG (klen m) 16 b1 b2) noK [12] 100 2) 100 13 [.c (.v (.int .i64 (m : Int))), .c (.o 0), .c (.o 1)] [])
theorem rg_all : ([0, 1, 2].all fun m => rgOk m true true && rgOk m true false && rgOk m false true && rgOk m false false) = true := by kernel_rfl
noncomputable def rgBad (b1 b2 : Bool) : Bool :=
  endsF [.v (.c (.v (.bool false)))] [] (runF Tryd.prog (rgOut b1 b2) (callN Tryd.prog (rgOut b1 b2) noK [12] 100 2) 100 13 [.c (.o 4), .c (.o 0), .c (.o 1)] [])
theorem rg_bad : (rgBad true false && rgBad false true) = true := by kernel_rfl
def rightB (mode : Int) (kl nl : Nat) : Bool := decide (0 ≤ mode ∧ mode < 3 ∧ kl = klen mode.toNat ∧ nl = 16)
def vlR (k n : Value) (kl nl : Nat) (mode : Int) : Nat → Value := fun i => match i with
  | 0 => k
  | 1 => n
  | 2 => .int .i64 (kl : Int)
  | 3 => .int .i64 (nl : Int)
  | 4 => .int .i64 mode
  | _ => .bool true
theorem entM : ∀ f ∈ [12], Enters Tryd.prog f := fun f hf => by
  rw [List.mem_singleton] at hf; subst hf; exact fun _ _ => by kernel_rfl
theorem und3 : Tryd.prog.underlying 3 = some (.int .i64) := by kernel_rfl
theorem run_eq3 (w : World) (a b : Int) (r : Bool) (h : (a = b) = (r = true)) : (binOp .eql 3 (.int .i64 a) (.int .i64 b)).run Tryd.prog w = .ok (.bool r) w := by
  have : (Op.equal 3 (.int .i64 a) (.int .i64 b)).run Tryd.prog w = .ok (a == b) w := run_equalIn_int w _ 3 .i64 .i64 a b und3
  show (do pure (Value.bool (← Op.equal 3 (.int .i64 a) (.int .i64 b))) : Sem Value).run Tryd.prog w = _
  simp only [Sem.run_bind, this, Result.andThen_ok, Sem.run_pure]
  congr 2
  cases r <;> simp at h ⊢ <;> exact h
theorem run_geq3 (w : World) (a b : Int) (r : Bool) (h : (b ≤ a) = (r = true)) : (binOp .geq 3 (.int .i64 a) (.int .i64 b)).run Tryd.prog w = .ok (.bool r) w := by
  show (Op.intCmp .geq a b).run _ w = _
  simp only [Op.intCmp, Sem.run_pure]; congr 2; cases r <;> simp at h ⊢ <;> omega
theorem run_lss3 (w : World) (a b : Int) (r : Bool) (h : (a < b) = (r = true)) : (binOp .lss 3 (.int .i64 a) (.int .i64 b)).run Tryd.prog w = .ok (.bool r) w := by
  show (Op.intCmp .lss a b).run _ w = _
  simp only [Op.intCmp, Sem.run_pure]; congr 2; cases r <;> simp at h ⊢ <;> omega
theorem right_calls {w : World} {mode : Int} {ka na : Option Addr} {kl kc nl nc : Nat} :
    Calls Tryd.prog 13 #[.int .i64 mode, .slice ka kl kc, .slice na nl nc] w fun e w' => e = .returned (.bool (rightB mode kl nl)) ∧ Below w.heap.size w w' := by
  have hE0 : EnvOk (envA ⟨0, 0, 0, 0, 0⟩ [] (rowsN 0 0 0) (vlR (.slice ka kl kc) (.slice na nl nc) kl nl mode)) := envA_ok (fun i => by unfold vlR; split <;> rfl) (rowsN_le (by decide)) rowsN_one
  have hln : LnOk (envA ⟨0, 0, 0, 0, 0⟩ [] (rowsN 0 0 0) (vlR (.slice ka kl kc) (.slice na nl nc) kl nl mode)) [(0, 2), (1, 3)] := fun p hp => by
    simp only [List.mem_cons, List.not_mem_nil, or_false] at hp
    rcases hp with rfl | rfl
    · exact ⟨ka, kl, kc, rfl, rfl⟩
    · exact ⟨na, nl, nc, rfl, rfl⟩
  have e0 : (envA ⟨0, 0, 0, 0, 0⟩ [] (rowsN 0 0 0) (vlR (.slice ka kl kc) (.slice na nl nc) kl nl mode)).vl 0 = .slice ka kl kc := rfl
  have e1 : (envA ⟨0, 0, 0, 0, 0⟩ [] (rowsN 0 0 0) (vlR (.slice ka kl kc) (.slice na nl nc) kl nl mode)).vl 1 = .slice na nl nc := rfl
  have e2 : (envA ⟨0, 0, 0, 0, 0⟩ [] (rowsN 0 0 0) (vlR (.slice ka kl kc) (.slice na nl nc) kl nl mode)).vl 2 = .int .i64 (kl : Int) := rfl
  have e3 : (envA ⟨0, 0, 0, 0, 0⟩ [] (rowsN 0 0 0) (vlR (.slice ka kl kc) (.slice na nl nc) kl nl mode)).vl 3 = .int .i64 (nl : Int) := rfl
  have e4 : (envA ⟨0, 0, 0, 0, 0⟩ [] (rowsN 0 0 0) (vlR (.slice ka kl kc) (.slice na nl nc) kl nl mode)).vl 4 = .int .i64 mode := rfl
  generalize envA ⟨0, 0, 0, 0, 0⟩ [] (rowsN 0 0 0) (vlR (.slice ka kl kc) (.slice na nl nc) kl nl mode) = E at hE0 hln e0 e1 e2 e3 e4
  by_cases hm : 0 ≤ mode ∧ mode < 3
  · obtain ⟨m, rfl⟩ : ∃ m : Nat, mode = (m : Int) := ⟨mode.toNat, by omega⟩
    have hG : CfgOk Tryd.prog E w (rgG (klen m) 16 (decide (kl = klen m)) (decide (nl = 16))) := ⟨hE0, (fun p hp => nomatch hp), (fun p hp => nomatch hp), (fun p hp => by
      simp only [rgG, List.mem_cons, List.not_mem_nil, or_false] at hp
      rcases hp with rfl | rfl
      · exact cm_int (fun _ => e2) (fun _ => rfl) fun w => run_eq3 w _ _ _ (by simp; omega)
      · exact cm_int (fun _ => e3) (fun _ => rfl) fun w => run_eq3 w _ _ _ (by simp; omega)), (fun p hp => nomatch hp), hln, (fun p hp => nomatch hp)⟩
    have hrun : rgOk m (decide (kl = klen m)) (decide (nl = 16)) = true := by
      have := List.all_eq_true.1 rg_all m (in3 (by omega))
      simp only [Bool.and_eq_true] at this
      obtain ⟨⟨⟨h1, h2⟩, h3⟩, h4⟩ := this
      generalize decide (kl = klen m) = b1
      generalize decide (nl = 16) = b2
      match b1, b2 with
      | true, true => exact h1
      | true, false => exact h2
      | false, true => exact h3
      | false, false => exact h4
    have := fn_calls (bl := fun _ => (0, 0)) hG (callN_sound hG noK_ok mix entM 2) mix hrun (MRel.nil E _ w) gok0 rfl
    rw [show ([.c (.v (.int .i64 (m : Int))), .c (.o 0), .c (.o 1)] : List A1).map (A1.den E fun _ => (0, 0)) = [.int .i64 (m : Int), .slice ka kl kc, .slice na nl nc] by simp only [List.map, A1.den, AC.den, e0, e1]] at this
    refine this.mono fun e w' ⟨bl', vs, he, hr, _, hm'⟩ => ?_
    obtain ⟨v', h1, h2⟩ := rsOne hr
    refine ⟨?_, chgNil hm'⟩
    rw [he, h1, h2]
    have hf : rightB (m : Int) kl nl = (decide (kl = klen m) && decide (nl = 16)) := by
      unfold rightB
      rw [Int.toNat_natCast, Bool.eq_iff_iff]
      simp only [Bool.and_eq_true, decide_eq_true_eq]
      exact ⟨fun h => ⟨h.2.2.1, h.2.2.2⟩, fun h => ⟨hm.1, hm.2, h.1, h.2⟩⟩
    rw [hf]; rfl
  · have hG : CfgOk Tryd.prog E w (rgOut (decide (0 ≤ mode)) (decide (mode < 3))) := ⟨hE0, (fun p hp => nomatch hp), (fun p hp => nomatch hp), (fun p hp => by
      simp only [rgOut, List.mem_cons, List.not_mem_nil, or_false] at hp
      rcases hp with rfl | rfl
      · exact cm_int (fun _ => e4) (fun _ => rfl) fun w => run_geq3 w _ _ _ (by simp)
      · exact cm_int (fun _ => e4) (fun _ => rfl) fun w => run_lss3 w _ _ _ (by simp)), (fun p hp => nomatch hp), hln, (fun p hp => nomatch hp)⟩
    have hrun : rgBad (decide (0 ≤ mode)) (decide (mode < 3)) = true := by
      have := rg_bad
      simp only [Bool.and_eq_true] at this
      by_cases h0 : 0 ≤ mode
      · rw [decide_eq_true h0, decide_eq_false (by omega)]; exact this.1
      · rw [decide_eq_false h0, decide_eq_true (by omega)]; exact this.2
    have := fn_calls (bl := fun _ => (0, 0)) hG (callN_sound hG noK_ok mix entM 2) mix hrun (MRel.nil E _ w) gok0 rfl
    rw [show ([.c (.o 4), .c (.o 0), .c (.o 1)] : List A1).map (A1.den E fun _ => (0, 0)) = [.int .i64 mode, .slice ka kl kc, .slice na nl nc] by simp only [List.map, A1.den, AC.den, e0, e1, e4]] at this
    refine this.mono fun e w' ⟨bl', vs, he, hr, _, hm'⟩ => ?_
    obtain ⟨v', h1, h2⟩ := rsOne hr
    refine ⟨?_, chgNil hm'⟩
    rw [he, h1, h2]
    have hf : rightB mode kl nl = false := decide_eq_false fun h => hm ⟨h.1, h.2.1⟩
    rw [hf]; rfl

/-! ### few -/
/-- The slices, their lengths, the sums. -/
def fwG (k : Nat) (bs : List Bool) : Cfg := { ln := (List.range k).map fun i => (i, 10 + i), cm := [(.gtr, 3, .o 10, .v (.int .i64 4096), .v (.bool (bs.getD 0 false))), (.add, 3, .v (.int .i64 0), .o 10, .o 10), (.sub, 3, .v (.int .i64 4096), .o 10, .o 20), (.gtr, 3, .o 11, .o 20, .v (.bool (bs.getD 1 false))), (.add, 3, .o 10, .o 11, .o 21),
  (.sub, 3, .v (.int .i64 4096), .o 21, .o 22), (.gtr, 3, .o 12, .o 22, .v (.bool (bs.getD 2 false))), (.add, 3, .o 21, .o 12, .o 23)] }
def fwR (k : Nat) (bs : List Bool) : Bool := (bs.take k).all fun b => !b
noncomputable def fwOk (k : Nat) (bs : List Bool) : Bool :=
  endsF [.v (.c (.v (.bool (fwR k bs))))] [roB ((List.range k).map .o)] (runF Tryd.prog (fwG k bs) noK 100 14 [.c (.slc 0 0 0 ⟨0, k⟩ ⟨0, k⟩)] [roB ((List.range k).map .o)])
def all8 : List (List Bool) := [[true, true, true], [true, true, false], [true, false, true], [true, false, false], [false, true, true], [false, true, false], [false, false, true], [false, false, false]]
theorem fw_all : ([1, 2, 3].all fun k => all8.all fun bs => fwOk k bs) = true := by kernel_rfl
theorem all8_mem (a b c : Bool) : [a, b, c] ∈ all8 := by cases a <;> cases b <;> cases c <;> decide
def lens (vs : List Value) : List Nat := vs.map fun v => match v with
  | .slice _ n _ => n
  | _ => 0
def vlF (vs : List Value) : Nat → Value := fun i =>
  if i < 10 then vs.getD i (.bool true) else match i with
  | 10 => .int .i64 ((lens vs).getD 0 0 : Nat)
  | 11 => .int .i64 ((lens vs).getD 1 0 : Nat)
  | 12 => .int .i64 ((lens vs).getD 2 0 : Nat)
  | 20 => .int .i64 (4096 - ((lens vs).getD 0 0 : Nat))
  | 21 => .int .i64 ((lens vs).getD 0 0 + (lens vs).getD 1 0 : Nat)
  | 22 => .int .i64 (4096 - ((lens vs).getD 0 0 + (lens vs).getD 1 0 : Nat))
  | 23 => .int .i64 ((lens vs).getD 0 0 + (lens vs).getD 1 0 + (lens vs).getD 2 0 : Nat)
  | _ => .bool true
def bsF (vs : List Value) : List Bool := [decide (4096 < (lens vs).getD 0 0), decide (4096 < (lens vs).getD 0 0 + (lens vs).getD 1 0), decide (4096 < (lens vs).getD 0 0 + (lens vs).getD 1 0 + (lens vs).getD 2 0)]
theorem run_gtr3 (w : World) (a b : Int) (r : Bool) (h : (b < a) = (r = true)) : (binOp .gtr 3 (.int .i64 a) (.int .i64 b)).run Tryd.prog w = .ok (.bool r) w := by
  show (Op.intCmp .gtr a b).run _ w = _
  simp only [Op.intCmp, Sem.run_pure]; congr 2; cases r <;> simp at h ⊢ <;> omega
theorem run_add3 (w : World) (a b c : Int) (h : c = a + b) (h0 : -9223372036854775808 ≤ c) (h1 : c < 9223372036854775808) : (binOp .add 3 (.int .i64 a) (.int .i64 b)).run Tryd.prog w = .ok (.int .i64 c) w := by
  simp only [binOp, ne_eq, not_true, if_false, Op.intArith, Sem.run_pure]
  rw [show IntKind.i64.wrap (a + b) = c by rw [← h, IntKind.wrap_i64]; omega]
theorem run_sub3 (w : World) (a b c : Int) (h : c = a - b) (h0 : -9223372036854775808 ≤ c) (h1 : c < 9223372036854775808) : (binOp .sub 3 (.int .i64 a) (.int .i64 b)).run Tryd.prog w = .ok (.int .i64 c) w := by
  simp only [binOp, ne_eq, not_true, if_false, Op.intArith, Sem.run_pure]
  rw [show IntKind.i64.wrap (a - b) = c by rw [← h, IntKind.wrap_i64]; omega]
theorem one_bin {E : Env} {op : BinOp} {x y r : AC} {a b : Int} {v : Value} (hx : ∀ bl, x.den E bl = .int .i64 a) (hy : ∀ bl, y.den E bl = .int .i64 b) (hr : ∀ bl, r.den E bl = v) (hw : r.wf 0 = true)
    (h : ∀ (w : World), (binOp op 3 (.int .i64 a) (.int .i64 b)).run Tryd.prog w = .ok v w) : r.wf 0 = true ∧ ∀ (bl : Bl) (w : World) (u v : Operand),
      (do eqGuard op 3 u v (x.den E bl) (y.den E bl); binOp op 3 (x.den E bl) (y.den E bl) : Sem Value).run Tryd.prog w = .ok (r.den E bl) w :=
  ⟨hw, fun bl w u v' => by rw [hx, hy, hr]; simp only [Sem.run_bind, run_eqGuard_int, Result.andThen_ok, h]⟩
/-- Slices as cells of a row that is there: whether they are few. -/
theorem few_calls {w : World} {fb fo k : Nat} {vs : List Value} (hk : vs.length = k) (h3 : k ≤ 3) (hpos : 0 < k) (hsl : ∀ v ∈ vs, ∃ a n c, v = .slice a n c) (hle : ∀ n ∈ lens vs, n ≤ 2147483647) (hat : At w fb fo vs) :
    Calls Tryd.prog 14 #[.slice (some ⟨fb, fo, none⟩) k k] w fun e w' => e = .returned (.bool (decide ((lens vs).sum ≤ 4096))) ∧ Below w.heap.size w w' := by
  have hE0 : EnvOk (envA ⟨0, 0, 0, 0, 0⟩ [] (rowsN 0 0 0) (vlF vs)) := envA_ok (fun i => by
    unfold vlF
    split
    · simp only [List.getD]
      cases hx : vs[i]? with
      | none => rfl
      | some x => obtain ⟨a, n, c, rfl⟩ := hsl x (List.mem_of_getElem? hx); rfl
    · split <;> rfl) (rowsN_le (by decide)) rowsN_one
  have ev : ∀ i, (envA ⟨0, 0, 0, 0, 0⟩ [] (rowsN 0 0 0) (vlF vs)).vl i = vlF vs i := fun _ => rfl
  generalize envA ⟨0, 0, 0, 0, 0⟩ [] (rowsN 0 0 0) (vlF vs) = E at hE0 ev
  have l0 : (lens vs).getD 0 0 ≤ 2147483647 := by
    simp only [List.getD]
    cases hx : (lens vs)[0]? with
    | none => exact Nat.zero_le _
    | some x => exact hle x (List.mem_of_getElem? hx)
  have l1 : (lens vs).getD 1 0 ≤ 2147483647 := by
    simp only [List.getD]
    cases hx : (lens vs)[1]? with
    | none => exact Nat.zero_le _
    | some x => exact hle x (List.mem_of_getElem? hx)
  have l2 : (lens vs).getD 2 0 ≤ 2147483647 := by
    simp only [List.getD]
    cases hx : (lens vs)[2]? with
    | none => exact Nat.zero_le _
    | some x => exact hle x (List.mem_of_getElem? hx)
  have hcm : CmOk Tryd.prog E (fwG k (bsF vs)).cm := fun p hp => by
    have e10 : ∀ bl : Bl, (AC.o 10).den E bl = .int .i64 ((lens vs).getD 0 0 : Nat) := fun _ => ev 10
    have e11 : ∀ bl : Bl, (AC.o 11).den E bl = .int .i64 ((lens vs).getD 1 0 : Nat) := fun _ => ev 11
    have e12 : ∀ bl : Bl, (AC.o 12).den E bl = .int .i64 ((lens vs).getD 2 0 : Nat) := fun _ => ev 12
    have e20 : ∀ bl : Bl, (AC.o 20).den E bl = .int .i64 (4096 - ((lens vs).getD 0 0 : Nat)) := fun _ => ev 20
    have e21 : ∀ bl : Bl, (AC.o 21).den E bl = .int .i64 ((lens vs).getD 0 0 + (lens vs).getD 1 0 : Nat) := fun _ => ev 21
    have e22 : ∀ bl : Bl, (AC.o 22).den E bl = .int .i64 (4096 - ((lens vs).getD 0 0 + (lens vs).getD 1 0 : Nat)) := fun _ => ev 22
    have e23 : ∀ bl : Bl, (AC.o 23).den E bl = .int .i64 ((lens vs).getD 0 0 + (lens vs).getD 1 0 + (lens vs).getD 2 0 : Nat) := fun _ => ev 23
    simp only [fwG, bsF, List.mem_cons, List.not_mem_nil, or_false, List.getD_cons_zero, List.getD_cons_succ] at hp
    generalize (lens vs).getD 0 0 = x at *
    generalize (lens vs).getD 1 0 = y at *
    generalize (lens vs).getD 2 0 = z at *
    rcases hp with rfl | rfl | rfl | rfl | rfl | rfl | rfl | rfl
    · exact cm_int e10 (fun _ => rfl) fun w => run_gtr3 w _ _ _ (by rw [decide_eq_true_eq]; exact propext (by omega))
    · exact one_bin (fun _ => rfl) e10 e10 rfl fun w => run_add3 w _ _ _ (by omega) (by omega) (by omega)
    · exact one_bin (fun _ => rfl) e10 e20 rfl fun w => run_sub3 w _ _ _ (by omega) (by omega) (by omega)
    · exact cm_int e11 e20 fun w => run_gtr3 w _ _ _ (by rw [decide_eq_true_eq]; exact propext (by omega))
    · exact one_bin e10 e11 e21 rfl fun w => run_add3 w _ _ _ (by omega) (by omega) (by omega)
    · exact one_bin (fun _ => rfl) e21 e22 rfl fun w => run_sub3 w _ _ _ (by omega) (by omega) (by omega)
    · exact cm_int e12 e22 fun w => run_gtr3 w _ _ _ (by rw [decide_eq_true_eq]; exact propext (by omega))
    · exact one_bin e21 e12 e23 rfl fun w => run_add3 w _ _ _ (by omega) (by omega) (by omega)
  have hmem : ∀ i, i < k → vs[i]? = some (E.vl i) := fun i hi => by
    rw [ev, show vlF vs i = vs.getD i (.bool true) by unfold vlF; rw [if_pos (by omega)], List.getD, List.getElem?_eq_getElem (by omega)]; rfl
  have hln : LnOk E (fwG k (bsF vs)).ln := fun p hp => by
    obtain ⟨i, hi, rfl⟩ := List.mem_map.1 hp
    rw [List.mem_range] at hi
    obtain ⟨a, n, c, hv⟩ := hsl _ (List.mem_of_getElem? (hmem i hi))
    refine ⟨a, n, c, hv, ?_⟩
    have hl : (lens vs).getD i 0 = n := by
      simp only [lens, List.getD, List.getElem?_map, hmem i hi, hv]; rfl
    have h012 : i = 0 ∨ i = 1 ∨ i = 2 := by omega
    rcases h012 with rfl | rfl | rfl
    · rw [ev, ← hl]; rfl
    · rw [ev, ← hl]; rfl
    · rw [ev, ← hl]; rfl
  have hG : CfgOk Tryd.prog E w (fwG k (bsF vs)) := ⟨hE0, (fun p hp => nomatch hp), (fun p hp => nomatch hp), hcm, (fun p hp => nomatch hp), hln, (fun p hp => nomatch hp)⟩
  have hrun : fwOk k (bsF vs) = true := List.all_eq_true.1 (List.all_eq_true.1 fw_all k (by simp; omega)) _ (all8_mem _ _ _)
  have hden : ((List.range k).map .o).map (AC.den E fun _ => (fb, fo)) = vs := by
    apply List.ext_getElem?
    intro j
    simp only [List.map_map, List.getElem?_map]
    by_cases hj : j < k
    · rw [List.getElem?_range hj, hmem j hj]; rfl
    · rw [List.getElem?_eq_none (by simpa using hj), List.getElem?_eq_none (by omega)]; rfl
  have hwf : (((List.range k).map .o : List AC).all (AC.wf 0)) = true := List.all_eq_true.2 fun x hx => by obtain ⟨i, _, rfl⟩ := List.mem_map.1 hx; rfl
  have hm0 : MRel E (fun _ => (fb, fo)) w [roB ((List.range k).map .o)] w := start1 hwf (at_lt hat (by intro e; rw [e] at hk; simp at hk; omega)) (by rw [hden]; exact hat)
  have := fn_calls hG noK_ok mix hrun hm0 gok0 rfl
  rw [show ([.c (.slc 0 0 0 ⟨0, k⟩ ⟨0, k⟩)] : List A1).map (A1.den E fun _ => (fb, fo)) = [.slice (some ⟨fb, fo, none⟩) k k] by
    have e1 : (AC.slc 0 0 0 ⟨0, k⟩ ⟨0, k⟩).den E (fun _ => (fb, fo)) = .slice (some ⟨fb, fo, none⟩) k k := slc_den (E := E) (bl := fun _ => (fb, fo)) (b := 0) (ib := fb) (io := fo) (s := 0) (c := k) (q := 0) (d := k) (cap := k) (n := k) rfl rfl hpos rfl
    simp only [List.map, A1.den, e1]] at this
  refine this.mono fun e w' ⟨bl', vs', he, hr, _, hm'⟩ => ?_
  obtain ⟨v', h1, h2⟩ := rsOne hr
  refine ⟨?_, endR hm'⟩
  rw [he, h1, h2]
  have hf : fwR k (bsF vs) = decide ((lens vs).sum ≤ 4096) := by
    have hll : (lens vs).length = k := by simp [lens, hk]
    generalize hL : lens vs = L at *
    have h123 : k = 1 ∨ k = 2 ∨ k = 3 := by omega
    by_cases hs : L.sum ≤ 4096
    · rw [decide_eq_true hs]
      rcases h123 with rfl | rfl | rfl
      · match L, hll, hs with
        | [x], _, hs => simp at hs; simp [fwR, bsF, hL]; omega
      · match L, hll, hs with
        | [x, y], _, hs => simp at hs; simp [fwR, bsF, hL]; omega
      · match L, hll, hs with
        | [x, y, z], _, hs => simp at hs; simp [fwR, bsF, hL]; omega
    · rw [decide_eq_false hs]
      rcases h123 with rfl | rfl | rfl
      · match L, hll, hs with
        | [x], _, hs => simp at hs; simp [fwR, bsF, hL]; omega
      · match L, hll, hs with
        | [x, y], _, hs => simp at hs; simp [fwR, bsF, hL]; omega
      · match L, hll, hs with
        | [x, y, z], _, hs => simp at hs; simp [fwR, bsF, hL]; omega
  rw [← hf]; rfl
end Go.Proofs.YtfilandehjmikaaDoor.Asc
