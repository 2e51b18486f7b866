/- Code, functions and calls over abstract values and memory: a run of the abstract machine is a run of the model. No condition. -/
import Derived.Test.YtfilandehjmikaaDoorSxV
import Derived.LoopN
namespace Go.Proofs.YtfilandehjmikaaDoor.Sx
open Go.RowKit

inductive AEx where
  | nrm
  | exit (id : Nat)
  | ret
def AEx.toExit : AEx → Exit
  | .nrm => .normal
  | .exit id => .exit id
  | .ret => .ret
abbrev ARes := Option (AEx × Tr × List MB)
def aLoop : Nat → (Tr → List MB → ARes) → Tr → List MB → ARes
  | 0, _, _, _ => none
  | k + 1, f, tr, m => match f tr m with
    | some (.nrm, tr', m') => aLoop k f tr' m'
    | r => r
def ofPair : Option (Tr × List MB) → ARes
  | some (tr, m) => some (.nrm, tr, m)
  | none => none
def aCode (P : Program) (G : Cfg) (F : CallF) (nt : Nat) : Nat → Code → Tr → List MB → ARes
  | 0, _, _, _ => none
  | n + 1, c, tr, m => match c with
    | .skip => some (.nrm, tr, m)
    | .label _ => some (.nrm, tr, m)
    | .region _ ops false => ofPair (aList P G F nt ops ops.toList tr m)
    | .region _ ops true => ofPair (aDraw P G F nt ops tr m)
    | .seq x y => match aCode P G F nt n x tr m with
      | some (.nrm, tr', m') => aCode P G F nt n y tr' m'
      | r => r
    | .cond c x y => match evO G.g tr.get c with
      | some (.one (.c (.v (.bool true)))) => aCode P G F nt n x tr m
      | some (.one (.c (.v (.bool false)))) => aCode P G F nt n y tr m
      | _ => none
    | .block id x => match aCode P G F nt n x tr m with
      | some (.exit id', tr', m') => if id' = id then some (.nrm, tr', m') else some (.exit id', tr', m')
      | r => r
    | .loop x => aLoop n (aCode P G F nt n x) tr m
    | .exit id => some (.exit id, tr, m)
    | .ret => some (.ret, tr, m)
    | _ => none

section
variable {P : Program} {E : Env} {w0 : World} {G : Cfg} {F : CallF} {nt : Nat}
def Behind (E : Env) (w0 : World) (G : Cfg) (nt : Nat) (bl : Bl) (m : List MB) (x : AEx) (tr' : Tr) (m' : List MB) (Q : Exit → Act → World → Prop) : Prop :=
  ∀ bl' a' w', Agree m.length bl bl' → m.length ≤ m'.length → SRel E bl' w0 G nt tr' m' a' w' → Q x.toExit a' w'
theorem aLoop_sound {c : Code} {f : Tr → List MB → ARes} {Q : Exit → Act → World → Prop}
    (hf : ∀ (tr tr' : Tr) (m m' : List MB) (x : AEx) (bl : Bl) (a : Act) (w : World) (Q : Exit → Act → World → Prop), f tr m = some (x, tr', m') → SRel E bl w0 G nt tr m a w → Behind E w0 G nt bl m x tr' m' Q → c.wp P Q a w) :
    ∀ (k : Nat) (tr tr' : Tr) (m m' : List MB) (x : AEx) (bl : Bl) (a : Act) (w : World), aLoop k f tr m = some (x, tr', m') → SRel E bl w0 G nt tr m a w → x ≠ .nrm → Behind E w0 G nt bl m x tr' m' Q → Code.rounds P c Q k a w := by
  intro k
  induction k with
  | zero => intro tr tr' m m' x bl a w h; cases h
  | succ k ih =>
    intro tr tr' m m' x bl a w h hs hx hq
    rw [rounds_succ]
    unfold aLoop at h
    split at h
    · rename_i tr1 m1 h1
      refine hf tr tr1 m m1 .nrm bl a w _ h1 hs fun bl1 a1 w1 ha hl hs1 => ?_
      exact ih tr1 tr' m1 m' x bl1 a1 w1 h hs1 hx fun bl' a' w' ha' hl' hs' => hq bl' a' w' (ha.trans ha' hl) (Nat.le_trans hl hl') hs'
    · refine hf tr tr' m m' x bl a w _ h hs fun bl' a' w' ha hl hs' => ?_
      have := hq bl' a' w' ha hl hs'
      cases x <;> first | exact absurd rfl hx | exact this
theorem aLoop_nrm {f : Tr → List MB → ARes} : ∀ (k : Nat) (tr tr' : Tr) (m m' : List MB), aLoop k f tr m ≠ some (.nrm, tr', m')
  | 0, _, _, _, _ => by intro h; cases h
  | k + 1, tr, tr', m, m' => by
    intro h
    unfold aLoop at h
    split at h
    · exact aLoop_nrm k _ _ _ _ h
    · rename_i h1; exact h1 _ _ h
theorem aCode_sound (hE : CfgOk P E w0 G) (hF : CallOk P E w0 G F) (hmix : P.follows .mixedOrders = true) : ∀ (n : Nat) (c : Code) (tr tr' : Tr) (m m' : List MB) (x : AEx) (bl : Bl) (a : Act) (w : World) (Q : Exit → Act → World → Prop),
    aCode P G F nt n c tr m = some (x, tr', m') → SRel E bl w0 G nt tr m a w → Behind E w0 G nt bl m x tr' m' Q → c.wp P Q a w := by
  intro n
  induction n with
  | zero => intro c tr tr' m m' x bl a w Q h; cases h
  | succ n ih =>
    intro c tr tr' m m' x bl a w Q h hs hq
    unfold aCode at h
    split at h
    · cases h; exact wp_skip (hq bl a w (Agree.refl _ _) (Nat.le_refl _) hs)
    · cases h; exact wp_label (hq bl a w (Agree.refl _ _) (Nat.le_refl _) hs)
    · rename_i id ops
      cases hl : aList P G F nt ops ops.toList tr m with
      | none => rw [hl] at h; cases h
      | some p =>
        obtain ⟨tr1, m1⟩ := p
        rw [hl] at h
        cases h
        exact wp_region_list (aList_sound hE hF ops.toList bl tr m a w hl hs hq)
    · rename_i id ops
      cases hl : aDraw P G F nt ops tr m with
      | none => rw [hl] at h; cases h
      | some p =>
        obtain ⟨tr1, m1⟩ := p
        rw [hl] at h
        cases h
        exact aDraw_sound hE hF hmix hl hs hq
    · rename_i y z
      refine wp_seq ?_
      split at h
      · rename_i tr1 m1 h1
        refine ih y tr tr1 m m1 .nrm bl a w _ h1 hs fun bl1 a1 w1 ha hl hs1 => ?_
        exact ih z tr1 tr' m1 m' x bl1 a1 w1 Q h hs1 fun bl' a' w' ha' hl' hs' => hq bl' a' w' (ha.trans ha' hl) (Nat.le_trans hl hl') hs'
      · rename_i h1
        refine ih y tr tr' m m' x bl a w _ h hs fun bl' a' w' ha hl hs' => ?_
        have := hq bl' a' w' ha hl hs'
        cases x with
        | nrm => exact absurd h (h1 _ _)
        | exit id => exact this
        | ret => exact this
    · rename_i o y z
      split at h
      · rename_i hc
        obtain ⟨e1, _⟩ := evO_den hs.glob (fun t u hu => hs.tmps t u hu) hc
        exact wp_cond_true e1 (ih y tr tr' m m' x bl a w Q h hs hq)
      · rename_i hc
        obtain ⟨e1, _⟩ := evO_den hs.glob (fun t u hu => hs.tmps t u hu) hc
        exact wp_cond_false e1 (ih z tr tr' m m' x bl a w Q h hs hq)
      · cases h
    · rename_i id y
      refine wp_block ?_
      split at h
      · rename_i id' tr1 m1 h1
        refine ih y tr tr1 m m1 (.exit id') bl a w _ h1 hs fun bl' a' w' ha hl hs' => ?_
        split at h
        · rename_i he
          cases h
          simp only [AEx.toExit, Exit.inBlock, he, if_true]
          exact hq bl' a' w' ha hl hs'
        · rename_i he
          cases h
          simp only [AEx.toExit, Exit.inBlock, he, if_false]
          exact hq bl' a' w' ha hl hs'
      · rename_i h1
        refine ih y tr tr' m m' x bl a w _ h hs fun bl' a' w' ha hl hs' => ?_
        have := hq bl' a' w' ha hl hs'
        cases x with
        | exit id => exact absurd h (h1 _ _ _)
        | nrm => exact this
        | ret => exact this
    · rename_i y
      have hx : x ≠ .nrm := fun e => by subst e; exact aLoop_nrm _ _ _ _ _ h
      exact wp_loop_rounds n (aLoop_sound (fun tr tr' m m' x bl a w Q h1 h2 h3 => ih y tr tr' m m' x bl a w Q h1 h2 h3) n tr tr' m m' x bl a w h hs hx hq)
    · rename_i id
      cases h; exact wp_exit (hq bl a w (Agree.refl _ _) (Nat.le_refl _) hs)
    · cases h; exact wp_ret (hq bl a w (Agree.refl _ _) (Nat.le_refl _) hs)
    · cases h

/-! ### functions -/
def initTr : List A1 → Nat → Tr → Tr
  | [], _, tr => tr
  | x :: l, i, tr => initTr l (i + 1) (Tr.set 24 tr i (.one x))
def initK {α : Type} : List A1 → Nat → Tr → (Tr → α) → α
  | [], _, tr, k => k tr
  | x :: l, i, tr, k => fA1 x fun x => Tr.setK 24 tr i (.one x) fun tr => initK l (i + 1) tr k
theorem initK_eq {α : Type} : ∀ (l : List A1) (i : Nat) (tr : Tr) (k : Tr → α), initK l i tr k = k (initTr l i tr)
  | [], _, _, _ => rfl
  | x :: l, i, tr, k => by simp only [initK, fA1_eq, Tr.setK_eq, initK_eq l, initTr]
theorem initTr_get : ∀ (l : List A1) (i : Nat) (tr : Tr) (t : Nat) (u : AV), (initTr l i tr).get t = some u → tr.get t = some u ∨ ∃ j x, l[j]? = some x ∧ t = i + j ∧ u = .one x
  | [], _, _, _, _, h => .inl h
  | x :: l, i, tr, t, u, h => by
    rcases initTr_get l (i + 1) _ t u h with h | ⟨j, y, h1, h2, h3⟩
    · rcases Tr.get_set _ _ _ _ _ _ h with ⟨e1, e2⟩ | ⟨_, e2⟩
      · exact .inr ⟨0, x, rfl, by omega, e2⟩
      · exact .inl e2
    · exact .inr ⟨j + 1, y, by simpa using h1, by omega, h3⟩
def aResult (P : Program) (tr : Tr) (m : List MB) : ResultVar → Option A1
  | .tmp t => match tr.get t with
    | some (.one x) => some x
    | _ => none
  | .cell p ty => match tr.get p with
    | some (.one (.c (.ptr b off))) => aLoad P m ty (.ptr b off)
    | _ => none
def aResults (P : Program) (tr : Tr) (m : List MB) : List ResultVar → Option (List A1)
  | [] => some []
  | r :: l => match aResult P tr m r, aResults P tr m l with
    | some x, some xs => some (x :: xs)
    | _, _ => none
def packR : List A1 → AV
  | [x] => .one x
  | l => .tup l
def resSem (tmps : Array Value) : ResultVar → Sem Value
  | .tmp t => pure (tmps.getD t undef)
  | .cell p t => do loadVar t (← asAddr (tmps.getD p undef))
theorem aResult_run {bl : Bl} {tr : Tr} {m : List MB} {a : Act} {w : World} (hs : SRel E bl w0 G nt tr m a w) {r : ResultVar} {x : A1} (h1 : aResult P tr m r = some x) :
    (resSem a.tmps r).run P w = .ok (x.den E bl) w ∧ x.wf m.length = true := by
  cases r with
  | tmp t =>
    simp only [aResult] at h1
    split at h1
    · rename_i y hy
      cases h1
      obtain ⟨f1, f2⟩ := hs.tmps t _ hy
      exact ⟨by simp only [resSem, Sem.run_pure, f1, AV.den], f2⟩
    · cases h1
  | cell p ty =>
    simp only [aResult] at h1
    split at h1
    · rename_i b off hy
      obtain ⟨f1, _⟩ := hs.tmps p _ hy
      obtain ⟨g1, g2⟩ := aLoad_run h1 hs.mem
      refine ⟨?_, g2⟩
      simp only [Instr.loadAt, Sem.run_bind] at g1
      simp only [resSem, Sem.run_bind, f1]
      exact g1
    · cases h1
theorem aResults_run {bl : Bl} {tr : Tr} {m : List MB} {a : Act} {w : World} (hs : SRel E bl w0 G nt tr m a w) : ∀ {l : List ResultVar} {xs : List A1}, aResults P tr m l = some xs →
    (l.mapM (resSem a.tmps)).run P w = .ok (xs.map (A1.den E bl)) w ∧ ∀ x ∈ xs, x.wf m.length = true
  | [], xs, h => by
    cases h
    exact ⟨by simp, by simp⟩
  | r :: l, xs, h => by
    unfold aResults at h
    split at h
    · rename_i x ys h1 h2
      cases h
      obtain ⟨e1, e2⟩ := aResults_run hs h2
      obtain ⟨f1, f2⟩ := aResult_run hs h1
      refine ⟨?_, fun y hy => ?_⟩
      · rw [List.mapM_cons]
        simp only [Sem.run_bind, f1, Result.andThen_ok, e1, Sem.run_pure, List.map_cons]
      · rcases List.mem_cons.1 hy with rfl | hy
        · exact f2
        · exact e2 y hy
    · cases h
theorem results_eq (fn : Func) (tmps : Array Value) : results fn tmps = (do
    let vs ← fn.results.mapM (resSem tmps)
    pure (if h : vs.size = 1 then vs[0] else .tuple vs)) := by
  unfold results
  congr 2
def runF (P : Program) (G : Cfg) (F : CallF) (fuel : Nat) : CallF := fun f args m =>
  match P.funcs[f]? with
  | some fn => match fn.body with
    | some c =>
      if Nat.ble args.length fn.ntmps then
        initK args 0 .lf fun tr0 => match aCode P G F fn.ntmps fuel c tr0 m with
        | some (.nrm, tr, m') => (match aResults P tr m' fn.results.toList with
          | some l => some (packR l, m')
          | none => none)
        | some (.ret, tr, m') => (match aResults P tr m' fn.results.toList with
          | some l => some (packR l, m')
          | none => none)
        | _ => none
      else none
    | none => none
  | none => none
theorem start_rel {bl : Bl} {m : List MB} {w : World} {args : List A1} (hm : MRel E bl w0 m w) (hG : GOk G.g bl m.length) (hw : ∀ x ∈ args, x.wf m.length = true) (hlen : args.length ≤ nt) :
    SRel E bl w0 G nt (initTr args 0 .lf) m { tmps := (args.map (A1.den E bl)).toArray ++ Array.replicate (nt - (args.map (A1.den E bl)).toArray.size) undef, defers := [] } w := by
  refine ⟨rfl, by simp; omega, fun t u hu => ?_, hm, hG⟩
  rcases initTr_get args 0 .lf t u hu with h | ⟨j, x, h1, h2, h3⟩
  · cases h
  · subst h3
    have hj : t = j := by omega
    subst hj
    refine ⟨?_, hw x (List.mem_of_getElem? h1)⟩
    have hlt : t < args.length := (List.getElem?_eq_some_iff.1 h1).1
    rw [Array.getD_eq_getD_getElem?, Array.getElem?_append_left (by simpa using hlt)]
    simp [h1, AV.den]
theorem ends_run {fn : Func} {bl : Bl} {tr : Tr} {m : List MB} {a : Act} {w : World} (hs : SRel E bl w0 G nt tr m a w) {l : List A1} (h : aResults P tr m fn.results.toList = some l) :
    (results fn a.tmps).run P w = .ok ((packR l).den E bl) w ∧ (packR l).wf m.length = true := by
  obtain ⟨h1, h2⟩ := aResults_run hs h
  have hall : (packR l).wf m.length = true := by
    match l, h2 with
    | [], _ => rfl
    | [x], h2 => exact h2 x (by simp)
    | x :: y :: r, h2 => exact List.all_eq_true.2 h2
  refine ⟨?_, hall⟩
  rw [results_eq, Array.mapM_eq_mapM_toList]
  simp only [Sem.run_bind, Sem.run_map, h1, Result.andThen_ok, Sem.run_pure]
  congr 1
  match l with
  | [] => rfl
  | [x] => rfl
  | x :: y :: r => simp [packR, AV.den]
theorem runF_sound (hE : CfgOk P E w0 G) (hF : CallOk P E w0 G F) (hmix : P.follows .mixedOrders = true) {fuel : Nat} {f : FuncId} {args : List A1} {m m' : List MB} {r : AV} (h : runF P G F fuel f args m = some (r, m'))
    {bl : Bl} {w : World} (hm : MRel E bl w0 m w) (hG : GOk G.g bl m.length) (hw : ∀ x ∈ args, x.wf m.length = true) :
    Calls P f (args.map (A1.den E bl)).toArray w fun e w' => ∃ bl', e = .returned (r.den E bl') ∧ Agree m.length bl bl' ∧ MRel E bl' w0 m' w' ∧ r.wf m'.length = true ∧ m.length ≤ m'.length := by
  unfold runF at h
  split at h
  · rename_i fn hfn
    split at h
    · rename_i c hc
      split at h
      · rename_i hlen
        simp only [Nat.ble_eq] at hlen
        have hst := start_rel (nt := fn.ntmps) hm hG hw hlen
        rw [initK_eq] at h
        refine calls_of_wp hfn hc ?_
        split at h
        · rename_i tr1 m1 hcode
          split at h
          · rename_i l hl
            cases h
            refine aCode_sound hE hF hmix fuel c _ tr1 m m' .nrm bl _ w _ hcode hst fun bl' a' w' ha hl' hs' => ?_
            obtain ⟨g1, g2⟩ := ends_run hs' hl
            exact ⟨hs'.defers, _, g1, bl', rfl, ha, hs'.mem, g2, hl'⟩
          · cases h
        · rename_i tr1 m1 hcode
          split at h
          · rename_i l hl
            cases h
            refine aCode_sound hE hF hmix fuel c _ tr1 m m' .ret bl _ w _ hcode hst fun bl' a' w' ha hl' hs' => ?_
            obtain ⟨g1, g2⟩ := ends_run hs' hl
            exact ⟨hs'.defers, _, g1, bl', rfl, ha, hs'.mem, g2, hl'⟩
          · cases h
        · cases h
      · cases h
    · cases h
  · cases h
def Enters (P : Program) (f : FuncId) : Prop := ∀ (vs : Array Value) (w : World), (callFunc f vs).run P w = .ok (.enter f vs) w
/-- Callees by a contract, or by their own text, so deep. -/
def callN (P : Program) (G : Cfg) (K : CallF) (fs : List FuncId) (fuel : Nat) : Nat → CallF
  | 0 => K
  | n + 1 => fun f args m => match K f args m with
    | some r => some r
    | none => if fs.any (Nat.beq f) then runF P G (callN P G K fs fuel n) fuel f args m else none
theorem callN_sound (hE : CfgOk P E w0 G) {K : CallF} (hK : CallOk P E w0 G K) (hmix : P.follows .mixedOrders = true) {fs : List FuncId} (hfs : ∀ f ∈ fs, Enters P f) {fuel : Nat} : ∀ n, CallOk P E w0 G (callN P G K fs fuel n)
  | 0 => hK
  | n + 1 => by
    intro f args m r m' h
    unfold callN at h
    split at h
    · rename_i p hp
      cases h
      exact hK f args m r m' hp
    · split at h
      · rename_i hin
        obtain ⟨g, hg, he⟩ := List.any_eq_true.1 hin
        have he' := Nat.eq_of_beq_eq_true he
        subst he'
        exact ⟨hfs _ hg, fun bl w hm hG hw => runF_sound hE (callN_sound hE hK hmix hfs n) hmix h hm hG hw⟩
      · cases h
def noK : CallF := fun _ _ _ => none
theorem noK_ok : CallOk P E w0 G noK := fun f args m r m' h => by cases h
end
end Go.Proofs.YtfilandehjmikaaDoor.Sx
