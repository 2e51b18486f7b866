/- The frame of a call as a tree of abstract values; operands; one operation, and its soundness in the walk's terms. No condition. -/
import Derived.Test.YtfilandehjmikaaDoorSxNZ
namespace Go.Proofs.YtfilandehjmikaaDoor.Sx
open Go.RowKit

/-! ### the frame -/
inductive Tr where
  | lf
  | nd (v : Option AV) (l r : Tr)
def Tr.get : Tr → Nat → Option AV
  | .lf, _ => none
  | .nd v l r, k => match k with
    | 0 => v
    | k + 1 => match Nat.beq (k % 2) 0 with
      | true => l.get (k / 2)
      | false => r.get (k / 2)
def Tr.set : Nat → Tr → Nat → AV → Tr
  | 0, _, _, _ => .lf
  | n + 1, .lf, k, x => match k with
    | 0 => .nd (some x) .lf .lf
    | k + 1 => match Nat.beq (k % 2) 0 with
      | true => .nd none (Tr.set n .lf (k / 2) x) .lf
      | false => .nd none .lf (Tr.set n .lf (k / 2) x)
  | n + 1, .nd v l r, k, x => match k with
    | 0 => .nd (some x) l r
    | k + 1 => match Nat.beq (k % 2) 0 with
      | true => .nd v (Tr.set n l (k / 2) x) r
      | false => .nd v l (Tr.set n r (k / 2) x)
theorem Tr.get_lf (k : Nat) : Tr.lf.get k = none := rfl
theorem Tr.get_set : ∀ (n : Nat) (t : Tr) (k : Nat) (x : AV) (j : Nat) (y : AV), (Tr.set n t k x).get j = some y → (j = k ∧ y = x) ∨ (j ≠ k ∧ t.get j = some y) := by
  intro n
  induction n with
  | zero => intro t k x j y h; cases h
  | succ n ih =>
    intro t k x j y h
    cases t with
    | lf =>
      cases k with
      | zero =>
        simp only [Tr.set] at h
        cases j with
        | zero => simp only [Tr.get, Option.some.injEq] at h; exact .inl ⟨rfl, h.symm⟩
        | succ j => simp only [Tr.get] at h; split at h <;> cases h
      | succ k =>
        simp only [Tr.set] at h
        split at h
        · rename_i hk
          simp only [Nat.beq_eq] at hk
          cases j with
          | zero => cases h
          | succ j =>
            simp only [Tr.get] at h
            split at h
            · rename_i hj
              simp only [Nat.beq_eq] at hj
              rcases ih _ _ _ _ _ h with ⟨e1, e2⟩ | ⟨e1, e2⟩
              · exact .inl ⟨by omega, e2⟩
              · cases e2
            · cases h
        · rename_i hk
          have hk' : ¬ k % 2 = 0 := by intro e; rw [← Nat.beq_eq] at e; rw [e] at hk; cases hk
          cases j with
          | zero => cases h
          | succ j =>
            simp only [Tr.get] at h
            split at h
            · cases h
            · rename_i hj
              have hj' : ¬ j % 2 = 0 := by intro e; rw [← Nat.beq_eq] at e; rw [e] at hj; cases hj
              rcases ih _ _ _ _ _ h with ⟨e1, e2⟩ | ⟨e1, e2⟩
              · exact .inl ⟨by omega, e2⟩
              · cases e2
    | nd v l r =>
      cases k with
      | zero =>
        simp only [Tr.set] at h
        cases j with
        | zero => simp only [Tr.get, Option.some.injEq] at h; exact .inl ⟨rfl, h.symm⟩
        | succ j => exact .inr ⟨by omega, h⟩
      | succ k =>
        simp only [Tr.set] at h
        split at h
        · rename_i hk
          simp only [Nat.beq_eq] at hk
          cases j with
          | zero => exact .inr ⟨by omega, h⟩
          | succ j =>
            simp only [Tr.get] at h ⊢
            split at h
            · rename_i hj
              simp only [Nat.beq_eq] at hj
              rcases ih _ _ _ _ _ h with ⟨e1, e2⟩ | ⟨e1, e2⟩
              · exact .inl ⟨by omega, e2⟩
              · exact .inr ⟨by omega, e2⟩
            · rename_i hj
              have hj' : ¬ j % 2 = 0 := by intro e; rw [← Nat.beq_eq] at e; rw [e] at hj; cases hj
              exact .inr ⟨by intro e; have : j = k := by omega
                             rw [this] at hj'; exact hj' hk, h⟩
        · rename_i hk
          have hk' : ¬ k % 2 = 0 := by intro e; rw [← Nat.beq_eq] at e; rw [e] at hk; cases hk
          cases j with
          | zero => exact .inr ⟨by omega, h⟩
          | succ j =>
            simp only [Tr.get] at h ⊢
            split at h
            · rename_i hj
              simp only [Nat.beq_eq] at hj
              exact .inr ⟨by intro e; have : j = k := by omega
                             rw [this] at hj; exact hk' hj, h⟩
            · rename_i hj
              have hj' : ¬ j % 2 = 0 := by intro e; rw [← Nat.beq_eq] at e; rw [e] at hj; cases hj
              rcases ih _ _ _ _ _ h with ⟨e1, e2⟩ | ⟨e1, e2⟩
              · exact .inl ⟨by omega, e2⟩
              · exact .inr ⟨by omega, e2⟩

/-! ### operands -/
def lookG : List (Nat × Nat) → Nat → Option Nat
  | [], _ => none
  | (g, i) :: l, x => if Nat.beq g x then some i else lookG l x
def GOk (G : List (Nat × Nat)) (bl : Bl) (n : Nat) : Prop := ∀ g i, lookG G g = some i → bl i = (g, 0) ∧ i < n
theorem GOk.agree {G : List (Nat × Nat)} {bl bl' : Bl} {n m : Nat} (h : GOk G bl n) (ha : Agree n bl bl') (hm : n ≤ m) : GOk G bl' m := fun g i hg => by
  obtain ⟨h1, h2⟩ := h g i hg
  exact ⟨by rw [ha i h2, h1], Nat.lt_of_lt_of_le h2 hm⟩
def evO (G : List (Nat × Nat)) (ρ : Nat → Option AV) : Operand → Option AV
  | .tmp t => ρ t
  | .const v => match litA v with
    | some x => some (.one x)
    | none => none
  | .global g => match lookG G g with
    | some i => some (.one (.c (.ptr i 0)))
    | none => some (.one (.c (.v (.pointer (some ⟨g, 0, none⟩)))))
  | .func f => some (.one (.c (.v (.func (.func f) #[] #[]))))
def ev1 (G : List (Nat × Nat)) (ρ : Nat → Option AV) (x : Operand) : Option AC :=
  match evO G ρ x with
  | some (.one (.c y)) => some y
  | _ => none
def evA (G : List (Nat × Nat)) (ρ : Nat → Option AV) (x : Operand) : Option A1 :=
  match evO G ρ x with
  | some (.one y) => some y
  | _ => none
def evAll (G : List (Nat × Nat)) (ρ : Nat → Option AV) : List Operand → Option (List A1)
  | [] => some []
  | x :: l => match evA G ρ x, evAll G ρ l with
    | some y, some r => some (y :: r)
    | _, _ => none
def evParts (G : List (Nat × Nat)) (ρ : Nat → Option AV) : List (Nat × Operand) → Option (List (Nat × A1))
  | [] => some []
  | (i, x) :: l => match evA G ρ x, evParts G ρ l with
    | some y, some r => some ((i, y) :: r)
    | _, _ => none
def evOpt (G : List (Nat × Nat)) (ρ : Nat → Option AV) : Option Operand → Option (Option AC)
  | none => some none
  | some x => match ev1 G ρ x with
    | some y => some (some y)
    | none => none

/-- What is known of the temporaries. -/
def TOk (E : Env) (bl : Bl) (n : Nat) (ρ : Nat → Option AV) (a : Act) : Prop := ∀ t u, ρ t = some u → a.tmps.getD t undef = u.den E bl ∧ u.wf n = true

section
variable {E : Env} {bl : Bl} {G : List (Nat × Nat)} {ρ : Nat → Option AV} {a : Act} {n : Nat}
theorem evO_den (hG : GOk G bl n) (hT : TOk E bl n ρ a) {x : Operand} {u : AV} (h : evO G ρ x = some u) : a.eval x = u.den E bl ∧ u.wf n = true := by
  cases x with
  | tmp t => exact hT t u h
  | const v =>
    simp only [evO] at h
    split at h
    · rename_i y hy
      cases h
      obtain ⟨e1, e2, _⟩ := litA_den (E := E) (bl := bl) hy
      exact ⟨e1.symm, e2 n⟩
    · cases h
  | global g =>
    simp only [evO] at h
    split at h
    · rename_i i hi
      cases h
      obtain ⟨e1, e2⟩ := hG g i hi
      refine ⟨?_, by simpa [AV.wf, A1.wf, AC.wf] using e2⟩
      simp only [Act.eval, AV.den, A1.den, AC.den, at_, e1, Nat.zero_add]
    · cases h; exact ⟨rfl, rfl⟩
  | func f => cases h; exact ⟨rfl, rfl⟩
theorem ev1_den (hG : GOk G bl n) (hT : TOk E bl n ρ a) {x : Operand} {u : AC} (h : ev1 G ρ x = some u) : a.eval x = u.den E bl ∧ u.wf n = true := by
  unfold ev1 at h
  split at h
  · rename_i y hy; cases h; exact evO_den hG hT hy
  · cases h
theorem evA_den (hG : GOk G bl n) (hT : TOk E bl n ρ a) {x : Operand} {u : A1} (h : evA G ρ x = some u) : a.eval x = u.den E bl ∧ u.wf n = true := by
  unfold evA at h
  split at h
  · rename_i y hy; cases h; exact evO_den hG hT hy
  · cases h
theorem evAll_den (hG : GOk G bl n) (hT : TOk E bl n ρ a) : ∀ {l : List Operand} {r : List A1}, evAll G ρ l = some r → l.map a.eval = r.map (A1.den E bl) ∧ ∀ x ∈ r, x.wf n = true
  | [], r, h => by cases h; exact ⟨rfl, by simp⟩
  | x :: l, r, h => by
    unfold evAll at h
    split at h
    · rename_i y r' h1 h2
      cases h
      obtain ⟨e1, e2⟩ := evA_den hG hT h1
      obtain ⟨f1, f2⟩ := evAll_den hG hT h2
      refine ⟨by simp only [List.map_cons, e1, f1], fun z hz => ?_⟩
      rcases List.mem_cons.1 hz with rfl | hz
      · exact e2
      · exact f2 z hz
    · cases h
theorem evParts_den (hG : GOk G bl n) (hT : TOk E bl n ρ a) : ∀ {l : List (Nat × Operand)} {r : List (Nat × A1)}, evParts G ρ l = some r → (l.map fun p => (p.1, a.eval p.2)) = (r.map fun p => (p.1, p.2.den E bl)) ∧ ∀ p ∈ r, p.2.wf n = true
  | [], r, h => by cases h; exact ⟨rfl, by simp⟩
  | (i, x) :: l, r, h => by
    unfold evParts at h
    split at h
    · rename_i y r' h1 h2
      cases h
      obtain ⟨e1, e2⟩ := evA_den hG hT h1
      obtain ⟨f1, f2⟩ := evParts_den hG hT h2
      refine ⟨by simp only [List.map_cons, e1, f1], fun z hz => ?_⟩
      rcases List.mem_cons.1 hz with rfl | hz
      · exact e2
      · exact f2 z hz
    · cases h
theorem evOpt_den (hG : GOk G bl n) (hT : TOk E bl n ρ a) {x : Option Operand} {u : Option AC} (h : evOpt G ρ x = some u) : x.map a.eval = u.map (AC.den E bl) := by
  unfold evOpt at h
  split at h
  · cases h; rfl
  · split at h
    · rename_i y hy; cases h; simp only [Option.map_some, (ev1_den hG hT hy).1]
    · cases h
end

/-! ### one operation -/
/-- What a run is told beforehand: the blocks of package-level variables, words that are to be written otherwise, lists of words that differ. -/
structure Cfg where
  g : List (Nat × Nat) := []
  r : List (T × T) := []
  ne : Nes := []
  cm : Cms := []
  so : Sos := []
  ln : Lns := []
  cv : Cvs := []
structure CfgOk (P : Program) (E : Env) (w0 : World) (G : Cfg) : Prop where
  env : EnvOk E
  rules : ∀ p ∈ G.r, p.1.den E = p.2.den E
  ne : NeOk E G.ne
  cm : CmOk P E G.cm
  so : SoOk E w0 G.so
  ln : LnOk E G.ln
  cv : CvOk P E G.cv
abbrev CallF := FuncId → List A1 → List MB → Option (AV × List MB)
def one1 (x : Option AC) (m : List MB) : Option (AV × List MB) :=
  match x with
  | some y => some (.one (.c y), m)
  | none => none
def oneA (x : Option A1) (m : List MB) : Option (AV × List MB) :=
  match x with
  | some y => some (.one y, m)
  | none => none
def oneM (x : Option (AC × List MB)) : Option (AV × List MB) :=
  match x with
  | some (y, m) => some (.one (.c y), m)
  | none => none
def aNil (x : Option AC) : Option AC :=
  match x with
  | some (.ptr b off) => some (.ptr b off)
  | some (.v (.pointer (some p))) => some (.v (.pointer (some p)))
  | _ => none
def aop (P : Program) (G : Cfg) (F : CallF) (m : List MB) (ρ : Nat → Option AV) (o : Oper) : Option (AV × List MB) :=
  match o.op with
  | .move x => match evO G.g ρ x with
    | some u => some (u, m)
    | none => none
  | .assign x => match evO G.g ρ x with
    | some u => some (u, m)
    | none => none
  | .pick c x y => match ev1 G.g ρ c with
    | some (.v (.bool true)) => (match evO G.g ρ x with
      | some u => some (u, m)
      | none => none)
    | some (.v (.bool false)) => (match evO G.g ρ y with
      | some u => some (u, m)
      | none => none)
    | _ => none
  | .alloc t => oneM (aAlloc P m t)
  | .box _ x => match evA G.g ρ x with
    | some y => oneM (aBox m y)
    | none => none
  | .build t ps => match evParts G.g ρ ps.toList with
    | some r => oneA (aBuild P t r) m
    | none => none
  | .load t x => match ev1 G.g ρ x with
    | some p => oneA (aLoad P m t p) m
    | none => none
  | .store t x y => match ev1 G.g ρ x, evA G.g ρ y with
    | some p, some z => (match aStore P m t p z with
      | some m' => some (.one (.c (.v undef)), m')
      | none => none)
    | _, _ => none
  | .nilCheck x => one1 (aNil (ev1 G.g ρ x)) m
  | .binOp op ty x y _ => match evA G.g ρ x, evA G.g ρ y with
    | some (.c p), some (.c q) => (match aNilCmp P G.so op ty p q with
      | some r => some (.one (.c (.v (.bool r))), m)
      | none => one1 (aBin P G.cm op ty x y p q) m)
    | some (.a p), some (.a q) => (match op with
      | .eql => one1 (aEql P G.ne false ty p q) m
      | .neq => one1 (aEql P G.ne true ty p q) m
      | _ => none)
    | _, _ => none
  | .unOp op _ x => match ev1 G.g ρ x with
    | some p => one1 (aUn P op p) m
    | none => none
  | .convert s d x => match ev1 G.g ρ x with
    | some p => one1 (aConvT P G.cv s d p) m
    | none => none
  | .slice t x lo hi none => match ev1 G.g ρ x, evOpt G.g ρ lo, evOpt G.g ρ hi with
    | some p, some l, some h => (match aSliceDy P m t p l h with
      | some r => some (.one (.c r), m)
      | none => one1 (aSlice P t p l h) m)
    | _, _, _ => none
  | .fieldAddr t x i => match ev1 G.g ρ x with
    | some p => one1 (aFieldAddr P t p i) m
    | none => none
  | .indexAddr t x y => match ev1 G.g ρ x, ev1 G.g ρ y with
    | some p, some q => one1 (aIndexAddr P t p q) m
    | _, _ => none
  | .field t x i => match evA G.g ρ x with
    | some p => oneA (aField P t p i) m
    | none => none
  | .index t x y => match evA G.g ρ x, ev1 G.g ρ y with
    | some p, some q => oneA (aIndex P t p q) m
    | _, _ => none
  | .extract x i => match evO G.g ρ x with
    | some (.tup l) => oneA l[i]? m
    | _ => none
  | .call { callee := .value (.func f), args := args, argTypes := _ } => match evAll G.g ρ args.toList with
    | some r => F f r m
    | none => none
  | .call { callee := .builtin .len, args := args, argTypes := ts } => match evAll G.g ρ args.toList with
    | some [.c x] => (match aLenO P G.so G.ln ts x with
      | some r => some (.one (.c r), m)
      | none => one1 (aLen P ts x) m)
    | some [.a _] => one1 (aLen P ts (.v undef)) m
    | _ => none
  | .call { callee := .builtin .cap, args := args, argTypes := ts } => match evAll G.g ρ args.toList with
    | some [.c x] => one1 (aCap P ts x) m
    | _ => none
  | .call { callee := .builtin .append, args := args, argTypes := ts } => match evAll G.g ρ args.toList, ts.toList with
    | some [.c x, .c y], [t, tx] => (match aAppend P G.so m t tx x y with
      | some r => oneM (some r)
      | none => oneM (aAppendZ P m t tx x y))
    | _, _ => none
  | .buildSlice t n ps => match evParts G.g ρ ps.toList with
    | some r => oneM (aBuildS P m t n r)
    | none => none
  | .makeSlice t x y => match ev1 G.g ρ x, ev1 G.g ρ y with
    | some p, some q => oneM (aMakeS P m t p q)
    | _, _ => none
  | _ => none

/-- What a table of callees promises. -/
def CallOk (P : Program) (E : Env) (w0 : World) (G : Cfg) (F : CallF) : Prop :=
  ∀ f args m r m', F f args m = some (r, m') → (∀ (vs : Array Value) (w : World), (callFunc f vs).run P w = .ok (.enter f vs) w) ∧
    ∀ bl w, MRel E bl w0 m w → GOk G.g bl m.length → (∀ x ∈ args, x.wf m.length = true) →
      Calls P f (args.map (A1.den E bl)).toArray w fun e w' => ∃ bl', e = .returned (r.den E bl') ∧ Agree m.length bl bl' ∧ MRel E bl' w0 m' w' ∧ r.wf m'.length = true ∧ m.length ≤ m'.length

theorem wp_value {P : Program} {o : Oper} {a : Act} {w w' : World} {next : Act → World → Prop} {Q : Exit → Act → World → Prop} {v : Value} (h : (execOp a.eval o).run P w = .ok (.value v) w') (hn : next (a.put o.dst v) w') : o.wp P a w next Q := by
  unfold Oper.wp; rw [h]; exact hn
theorem wp_undef {P : Program} {o : Oper} {a : Act} {w w' : World} {next : Act → World → Prop} {Q : Exit → Act → World → Prop} (h : (execOp a.eval o).run P w = .ok .skip w') (hn : next (a.put o.dst undef) w') : o.wp P a w next Q := by
  unfold Oper.wp; rw [h]; exact hn

theorem aop_sound {P : Program} {E : Env} {w0 : World} {G : Cfg} {F : CallF} (hE : CfgOk P E w0 G) (hF : CallOk P E w0 G F) {bl : Bl} {m m' : List MB} {w : World} {ρ : Nat → Option AV} {o : Oper} {a : Act} {u : AV}
    {next : Act → World → Prop} {Q : Exit → Act → World → Prop}
    (h : aop P G F m ρ o = some (u, m')) (hm : MRel E bl w0 m w) (hG : GOk G.g bl m.length) (hT : TOk E bl m.length ρ a)
    (hn : ∀ bl' w', Agree m.length bl bl' → MRel E bl' w0 m' w' → u.wf m'.length = true → m.length ≤ m'.length → next (a.put o.dst (u.den E bl')) w') : o.wp P a w next Q := by
  have same : ∀ {x : AV}, (execOp a.eval o).run P w = .ok (.value (x.den E bl)) w → u = x → m' = m → x.wf m.length = true → o.wp P a w next Q := fun {x} h1 h2 h3 h4 => by
    subst h2; subst h3
    exact wp_value h1 (hn bl w (Agree.refl _ _) hm h4 (Nat.le_refl _))
  have same1 : ∀ {x : Option AC} {s : Sem Value}, one1 x m = some (u, m') → (execOp a.eval o = do pure (.value (← s))) → (∀ y, x = some y → s.run P w = .ok (y.den E bl) w ∧ y.wf m.length = true) → o.wp P a w next Q := fun {x s} h1 h2 h3 => by
    cases x with
    | none => cases h1
    | some y =>
      cases h1
      obtain ⟨e1, e2⟩ := h3 y rfl
      exact same (x := .one (.c y)) (by rw [h2]; simp only [Sem.run_bind, e1, Result.andThen_ok, Sem.run_pure]; rfl) rfl rfl e2
  have sameA : ∀ {x : Option A1} {s : Sem Value}, oneA x m = some (u, m') → (execOp a.eval o = do pure (.value (← s))) → (∀ y, x = some y → s.run P w = .ok (y.den E bl) w ∧ y.wf m.length = true) → o.wp P a w next Q := fun {x s} h1 h2 h3 => by
    cases x with
    | none => cases h1
    | some y =>
      cases h1
      obtain ⟨e1, e2⟩ := h3 y rfl
      exact same (x := .one y) (by rw [h2]; simp only [Sem.run_bind, e1, Result.andThen_ok, Sem.run_pure]; rfl) rfl rfl e2
  obtain ⟨dst, op, type, pos, after, guard⟩ := o
  unfold aop at h
  simp only at h
  split at h
  · -- move
    split at h
    · rename_i v hv
      cases h
      obtain ⟨e1, e2⟩ := evO_den hG hT hv
      exact same (x := u) (by simp only [execOp, Sem.run_pure, e1]) rfl rfl e2
    · cases h
  · split at h
    · rename_i v hv
      cases h
      obtain ⟨e1, e2⟩ := evO_den hG hT hv
      exact same (x := u) (by simp only [execOp, Sem.run_pure, e1]) rfl rfl e2
    · cases h
  · -- pick
    split at h
    · rename_i hc
      obtain ⟨c1, _⟩ := ev1_den hG hT hc
      split at h
      · rename_i v hv
        cases h
        obtain ⟨e1, e2⟩ := evO_den hG hT hv
        exact same (x := u) (by simp only [execOp, c1, AC.den, asBool, Sem.run_bind, Sem.run_pure, Result.andThen_ok, if_true, e1]) rfl rfl e2
      · cases h
    · rename_i hc
      obtain ⟨c1, _⟩ := ev1_den hG hT hc
      split at h
      · rename_i v hv
        cases h
        obtain ⟨e1, e2⟩ := evO_den hG hT hv
        exact same (x := u) (by simp only [execOp, c1, AC.den, asBool, Sem.run_bind, Sem.run_pure, Result.andThen_ok, Bool.false_eq_true, if_false, e1]) rfl rfl e2
      · cases h
    · cases h
  · -- alloc
    rename_i t
    cases hx : aAlloc P m t with
    | none => rw [hx] at h; cases h
    | some p =>
      rw [hx] at h
      obtain ⟨r, m1⟩ := p
      cases h
      obtain ⟨bl', w', h1, h2, h3, h4, h5⟩ := aAlloc_run P hE.env hx hm
      exact wp_value (by simp only [execOp, Sem.run_bind, h1, Result.andThen_ok, Sem.run_pure]; rfl) (hn bl' w' h2 h3 h4 (by omega))
  · -- box
    rename_i t x
    split at h
    · rename_i y hy
      obtain ⟨e1, _⟩ := evA_den hG hT hy
      cases hx : aBox m y with
      | none => rw [hx] at h; cases h
      | some p =>
        rw [hx] at h
        obtain ⟨r, m1⟩ := p
        cases h
        obtain ⟨bl', w', h1, h2, h3, h4, h5, h6⟩ := aBox_run P t hE.env hx hm
        exact wp_value (v := r.den E bl') (by simp only [execOp, Instr.box, e1, Sem.run_bind, h1, Result.andThen_ok, Sem.run_pure, h4]) (hn bl' w' h2 h3 h5 (by omega))
    · cases h
  · -- build
    rename_i t ps
    split at h
    · rename_i r hr
      obtain ⟨e1, e2⟩ := evParts_den hG hT hr
      refine sameA (s := Instr.build t (ps.map fun (i, x) => (i, a.eval x))) h rfl fun y hy => ?_
      obtain ⟨f1, f2⟩ := aBuild_run hE.env hy w (ps.map fun (i, x) => (i, a.eval x)) (by rw [Array.toList_map]; exact e1)
      exact ⟨f1, f2 _ e2⟩
    · cases h
  · -- load
    rename_i t x
    split at h
    · rename_i p hp
      obtain ⟨e1, _⟩ := ev1_den hG hT hp
      refine sameA (s := Instr.loadAt t (a.eval x)) h rfl fun y hy => ?_
      rw [e1]
      exact aLoad_run hy hm
    · cases h
  · -- store
    rename_i t x y
    split at h
    · rename_i p z hp hz
      obtain ⟨e1, _⟩ := ev1_den hG hT hp
      obtain ⟨f1, _⟩ := evA_den hG hT hz
      split at h
      · rename_i m1 hst
        cases h
        obtain ⟨w', g1, g2, g3⟩ := aStore_run hE.env hst hm
        refine wp_undef (w' := w') (by simp only [execOp, e1, f1, Sem.run_bind, g1, Result.andThen_ok, Sem.run_pure]) (hn bl w' (Agree.refl _ _) g2 rfl (by omega))
      · cases h
    · cases h
  · -- nilCheck
    rename_i x
    cases hx : ev1 G.g ρ x with
    | none => rw [hx] at h; cases h
    | some p =>
      rw [hx] at h
      obtain ⟨e1, e2⟩ := ev1_den hG hT hx
      cases p with
      | ptr b off => cases h; exact same (x := .one (.c (.ptr b off))) (by simp only [execOp, e1, AC.den]; rfl) rfl rfl e2
      | v z =>
        cases z with
        | pointer q =>
          cases q with
          | none => cases h
          | some q => cases h; exact same (x := .one (.c (.v (.pointer (some q))))) (by simp only [execOp, e1, AC.den]; rfl) rfl rfl e2
        | _ => cases h
      | _ => cases h
  · -- binOp
    rename_i op ty x y yt
    split at h
    · rename_i p q hp hq
      obtain ⟨e1, _⟩ := evA_den hG hT hp
      obtain ⟨f1, _⟩ := evA_den hG hT hq
      split at h
      · rename_i b hb
        have g1 := aNilCmp_run (bl := bl) hE.so (p := x) (q := y) hb w
        exact same1 (x := some (.v (.bool b))) (s := do eqGuard op ty x y (a.eval x) (a.eval y); binOp op ty (a.eval x) (a.eval y)) h rfl fun r hr => by
          cases hr
          rw [e1, f1]
          exact ⟨g1, rfl⟩
      refine same1 (s := do eqGuard op ty x y (a.eval x) (a.eval y); binOp op ty (a.eval x) (a.eval y)) h rfl fun r hr => ?_
      obtain ⟨g1, g2⟩ := aBin_run (E := E) (bl := bl) hE.env hE.cm hr w
      rw [e1, f1]
      exact ⟨g1, g2 _⟩
    · rename_i p q hp hq
      obtain ⟨e1, _⟩ := evA_den hG hT hp
      obtain ⟨f1, _⟩ := evA_den hG hT hq
      split at h
      · refine same1 (s := do eqGuard .eql ty x y (a.eval x) (a.eval y); binOp .eql ty (a.eval x) (a.eval y)) h rfl fun r hr => ?_
        obtain ⟨g1, g2⟩ := aEql_run (E := E) (bl := bl) hE.ne hr w x y
        rw [e1, f1]
        exact ⟨g1, g2 _⟩
      · refine same1 (s := do eqGuard .neq ty x y (a.eval x) (a.eval y); binOp .neq ty (a.eval x) (a.eval y)) h rfl fun r hr => ?_
        obtain ⟨g1, g2⟩ := aEql_run (E := E) (bl := bl) hE.ne hr w x y
        rw [e1, f1]
        exact ⟨g1, g2 _⟩
      · cases h
    · cases h
  · -- unOp
    rename_i op ty x
    split at h
    · rename_i p hp
      obtain ⟨e1, _⟩ := ev1_den hG hT hp
      refine same1 (s := Op.unary op (a.eval x)) h rfl fun r hr => ?_
      obtain ⟨g1, g2⟩ := aUn_run (E := E) (bl := bl) hr w
      rw [e1]
      exact ⟨g1, g2 _⟩
    · cases h
  · -- convert
    rename_i s d x
    split at h
    · rename_i p hp
      obtain ⟨e1, _⟩ := ev1_den hG hT hp
      refine same1 (s := convert s d (a.eval x)) h rfl fun r hr => ?_
      obtain ⟨g1, g2⟩ := aConvT_run (E := E) (bl := bl) hE.env hE.cv hr w
      rw [e1]
      exact ⟨g1, g2 _⟩
    · cases h
  · -- slice
    rename_i t x lo hi
    split at h
    · rename_i p l hh hp hl hhh
      obtain ⟨e1, e2⟩ := ev1_den hG hT hp
      split at h
      · rename_i r hr
        exact same1 (x := some r) (s := Instr.sliceAt t (a.eval x) (lo.map a.eval) (hi.map a.eval) none) h rfl fun r' hr' => by
          cases hr'
          rw [e1, evOpt_den hG hT hl, evOpt_den hG hT hhh]
          exact aSliceDy_run hE.env hm hr e2
      refine same1 (s := Instr.sliceAt t (a.eval x) (lo.map a.eval) (hi.map a.eval) none) h rfl fun r hr => ?_
      obtain ⟨g1, g2⟩ := aSlice_run (E := E) (bl := bl) hr w
      rw [e1, evOpt_den hG hT hl, evOpt_den hG hT hhh]
      exact ⟨g1, g2 _ e2⟩
    · cases h
  · -- fieldAddr
    rename_i t x i
    split at h
    · rename_i p hp
      obtain ⟨e1, e2⟩ := ev1_den hG hT hp
      refine same1 (s := Instr.fieldAt t (a.eval x) i) h rfl fun r hr => ?_
      obtain ⟨g1, g2⟩ := aFieldAddr_run (E := E) (bl := bl) hr w
      rw [e1]
      exact ⟨g1, g2 _ e2⟩
    · cases h
  · -- indexAddr
    rename_i t x y
    split at h
    · rename_i p q hp hq
      obtain ⟨e1, e2⟩ := ev1_den hG hT hp
      obtain ⟨f1, _⟩ := ev1_den hG hT hq
      refine same1 (s := Instr.indexAt t (a.eval x) (a.eval y)) h rfl fun r hr => ?_
      obtain ⟨g1, g2⟩ := aIndexAddr_run (E := E) (bl := bl) hr w
      rw [e1, f1]
      exact ⟨g1, g2 _ e2⟩
    · cases h
  · -- field
    rename_i t x i
    split at h
    · rename_i p hp
      obtain ⟨e1, e2⟩ := evA_den hG hT hp
      refine sameA (s := Instr.field t (a.eval x) i) h rfl fun r hr => ?_
      obtain ⟨g1, g2⟩ := aField_run (E := E) (bl := bl) hr w
      rw [e1]
      exact ⟨g1, g2 _ e2⟩
    · cases h
  · -- index
    rename_i t x y
    split at h
    · rename_i p q hp hq
      obtain ⟨e1, e2⟩ := evA_den hG hT hp
      obtain ⟨f1, _⟩ := ev1_den hG hT hq
      refine sameA (s := Instr.index t (a.eval x) (a.eval y)) h rfl fun r hr => ?_
      obtain ⟨g1, g2⟩ := aIndex_run (E := E) (bl := bl) hr w
      rw [e1, f1]
      exact ⟨g1, g2 _ e2⟩
    · cases h
  · -- extract
    rename_i x i
    split at h
    · rename_i l hl
      obtain ⟨e1, e2⟩ := evO_den hG hT hl
      refine sameA (s := Instr.extract (a.eval x) i) h rfl fun r hr => ?_
      rw [e1]
      refine ⟨?_, (List.all_eq_true.1 e2) r (List.mem_of_getElem? hr)⟩
      simp only [AV.den, Instr.extract, List.getElem?_toArray, List.getElem?_map, hr, Option.map_some, Sem.run_pure]
    · cases h
  · -- a call
    rename_i f args ts
    split at h
    · rename_i r hr
      obtain ⟨e1, e2⟩ := evAll_den hG hT hr
      obtain ⟨k1, k2⟩ := hF _ _ _ _ _ h
      have hargs : args.map a.eval = (r.map (A1.den E bl)).toArray := by rw [← e1, ← Array.toList_map, Array.toArray_toList]
      have hrun : (execOp a.eval { dst := dst, op := .call { callee := .value (.func f), args := args, argTypes := ts }, type := type, pos := pos, after := after, guard := guard }).run P w = .ok (.enter f (r.map (A1.den E bl)).toArray) w := by
        simp only [execOp, resolve, Act.eval, Deferred.ofValue, Sem.run_bind, Sem.run_pure, Result.andThen_ok, invoke]
        have : (#[] ++ args.map a.eval ++ #[] : Array Value) = (r.map (A1.den E bl)).toArray := by rw [hargs]; simp
        rw [this]
        exact k1 _ w
      unfold Oper.wp
      rw [hrun]
      refine (k2 bl w hm hG e2).mono fun e w' ⟨bl', he, h1, h2, h3, h4⟩ => ?_
      subst he
      exact hn bl' w' h1 h2 h3 h4
    · cases h
  · -- len
    rename_i args ts
    split at h
    · rename_i x hx
      obtain ⟨e1, e2⟩ := evAll_den hG hT hx
      split at h
      · rename_i r hr
        obtain ⟨g1, g2⟩ := aLenO_run (bl := bl) hE.env hE.so hE.ln hr w (args.map a.eval) (ty := type) (by rw [← Array.getElem?_toList, Array.toList_map, e1]; rfl)
        exact same1 (x := some r) (s := Builtin.len_ ts type (args.map a.eval)) h rfl fun r' hr' => by
          cases hr'
          exact ⟨g1, g2 _⟩
      refine same1 (s := Builtin.len_ ts type (args.map a.eval)) h rfl fun r hr => ?_
      obtain ⟨g1, g2⟩ := aLen_run (E := E) (bl := bl) hr w (args.map a.eval) (ty := type) (by rw [← Array.getElem?_toList, Array.toList_map, e1]; rfl)
      exact ⟨g1, g2 _⟩
    · rename_i l hx
      obtain ⟨e1, e2⟩ := evAll_den hG hT hx
      refine same1 (s := Builtin.len_ ts type (args.map a.eval)) h rfl fun r hr => ?_
      have h0 : (args.map a.eval)[0]? = some ((A1.a l).den E bl) := by rw [← Array.getElem?_toList, Array.toList_map, e1]; rfl
      unfold aLen at hr
      split at hr
      · rename_i t ht
        split at hr
        · cases hr
        · rename_i k e hu
          cases hr
          refine ⟨?_, rfl⟩
          simp only [Builtin.len_, ht, h0, Sem.run_bind, run_under hu, Result.andThen_ok, goInt, Sem.run_pure, AC.den]
        · cases hr
      · cases hr
    · cases h
  · -- cap
    rename_i args ts
    split at h
    · rename_i x hx
      obtain ⟨e1, e2⟩ := evAll_den hG hT hx
      refine same1 (s := Builtin.cap_ ts type (args.map a.eval)) h rfl fun r hr => ?_
      obtain ⟨g1, g2⟩ := aCap_run (E := E) (bl := bl) hr w (args.map a.eval) (ty := type) (by rw [← Array.getElem?_toList, Array.toList_map, e1]; rfl)
      exact ⟨g1, g2 _⟩
    · cases h
  · -- append
    rename_i args ts
    split at h
    · rename_i x y t tx hx hts
      obtain ⟨e1, e2⟩ := evAll_den hG hT hx
      have hargs : args.map a.eval = #[x.den E bl, y.den E bl] := by
        apply Array.ext'
        rw [Array.toList_map, e1]; rfl
      have hts' : ts = #[t, tx] := by apply Array.ext'; rw [hts]
      subst hts'
      have fin : ∀ {r : AC} {m1 : List MB}, (∃ bl' w', (Builtin.append_ #[t, tx] type #[x.den E bl, y.den E bl]).run P w = .ok (r.den E bl') w' ∧ Agree m.length bl bl' ∧ MRel E bl' w0 m1 w' ∧ r.wf m1.length = true ∧ m.length ≤ m1.length) → u = .one (.c r) → m' = m1 →
          Oper.wp P { dst := dst, op := .call { callee := .builtin .append, args := args, argTypes := #[t, tx] }, type := type, pos := pos, after := after, guard := guard } a w next Q := fun {r m1} ⟨bl', w', h1, h2, h3, h4, h5⟩ hu hm1 => by
        subst hu; subst hm1
        have hrun : (execOp a.eval { dst := dst, op := .call { callee := .builtin .append, args := args, argTypes := #[t, tx] }, type := type, pos := pos, after := after, guard := guard }).run P w = .ok (.value (r.den E bl')) w' := by
          simp [execOp, resolve, invoke, builtin, hargs, h1, Result.andThen]
        exact wp_value (by rw [hrun]; rfl) (hn bl' w' h2 h3 h4 h5)
      split at h
      · rename_i q ha
        obtain ⟨r, m1⟩ := q
        cases h
        exact fin (aAppend_run (ty := type) hE.env hE.so hm ha) rfl rfl
      · cases ha : aAppendZ P m t tx x y with
        | none => rw [ha] at h; cases h
        | some q =>
          rw [ha] at h
          obtain ⟨r, m1⟩ := q
          cases h
          exact fin (aAppendZ_run (ty := type) hE.env hm ha (show (A1.c x).wf m.length = true from e2 (.c x) (by simp))) rfl rfl
    · cases h
  · -- buildSlice
    rename_i t n ps
    split at h
    · rename_i r hr
      obtain ⟨e1, e2⟩ := evParts_den hG hT hr
      cases ha : aBuildS P m t n r with
      | none => rw [ha] at h; cases h
      | some q =>
        rw [ha] at h
        obtain ⟨r, m1⟩ := q
        cases h
        obtain ⟨bl', w', h1, h2, h3, h4, h5⟩ := aBuildS_run hE.env hm ha (ps.map fun (i, x) => (i, a.eval x)) (by rw [Array.toList_map]; exact e1)
        exact wp_value (by simp only [execOp, Sem.run_bind, h1, Result.andThen_ok, Sem.run_pure]; rfl) (hn bl' w' h2 h3 h4 h5)
    · cases h
  · -- makeSlice
    rename_i t x y
    split at h
    · rename_i p q hp hq
      obtain ⟨e1, _⟩ := ev1_den hG hT hp
      obtain ⟨f1, _⟩ := ev1_den hG hT hq
      cases ha : aMakeS P m t p q with
      | none => rw [ha] at h; cases h
      | some q =>
        rw [ha] at h
        obtain ⟨r, m1⟩ := q
        cases h
        obtain ⟨bl', w', h1, h2, h3, h4, h5⟩ := aMakeS_run hE.env hm ha
        exact wp_value (by simp only [execOp, Sem.run_bind, e1, f1, h1, Result.andThen_ok, Sem.run_pure]; rfl) (hn bl' w' h2 h3 h4 h5)
    · cases h
  · cases h
end Go.Proofs.YtfilandehjmikaaDoor.Sx
