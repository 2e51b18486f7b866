/- Regions of operations, in the text's order or in whatever order is drawn: the abstract run in the text's order serves for each. No condition. -/
import Derived.Test.YtfilandehjmikaaDoorSxS
namespace Go.Proofs.YtfilandehjmikaaDoor.Sx
open Go.RowKit

def undefV : AV := .one (.c (.v undef))
def restr (l : List Nat) (ρ : Nat → Option AV) : Nat → Option AV := fun t => if l.any (Nat.beq t) then ρ t else none
theorem restr_some {l : List Nat} {ρ : Nat → Option AV} {t : Nat} {u : AV} (h : restr l ρ t = some u) : t ∈ l ∧ ρ t = some u := by
  unfold restr at h
  split at h
  · rename_i hc
    obtain ⟨x, hx, he⟩ := List.any_eq_true.1 hc
    rw [Nat.beq_eq] at he
    exact ⟨he ▸ hx, h⟩
  · cases h
def wantedA (ops : Array Oper) (ρ : Nat → Option AV) (o : Oper) : Option Bool :=
  match o.guard with
  | none => some true
  | some (j, want) => match (ops[j]?).bind (·.dst) with
    | none => some false
    | some d => match ρ d with
      | some (.one (.c (.v (.bool b)))) => some (b == want)
      | some (.one (.c (.v (.tuple _)))) => some false
      | _ => none
theorem wantedA_den {E : Env} {bl : Bl} {n : Nat} {ops : Array Oper} {ρ : Nat → Option AV} {o : Oper} {a : Act} {b : Bool} (hT : TOk E bl n ρ a) (h : wantedA ops ρ o = some b) : Region.wanted o (yielded ops a.tmps) = b := by
  unfold wantedA at h
  unfold Region.wanted
  cases hg : o.guard with
  | none => rw [hg] at h; cases h; rfl
  | some p =>
    obtain ⟨j, want⟩ := p
    rw [hg] at h
    simp only at h ⊢
    unfold yielded
    cases hd : (ops[j]?).bind (·.dst) with
    | none => rw [hd] at h; cases h; rfl
    | some d =>
      rw [hd] at h
      simp only at h
      have get : ∀ v : Value, a.tmps.getD d undef = v → v ≠ undef → a.tmps[d]? = some v := fun v h1 h2 => by
        rw [Array.getD_eq_getD_getElem?] at h1
        cases hx : a.tmps[d]? with
        | none => rw [hx] at h1; exact absurd h1.symm h2
        | some y => rw [hx] at h1; exact congrArg some h1
      split at h
      · rename_i c hc
        cases h
        obtain ⟨e1, _⟩ := hT _ _ hc
        have := get (.bool c) e1 (by intro e; cases e)
        simp only [Option.bind_some, this]
        cases c <;> cases want <;> rfl
      · rename_i vs hc
        cases h
        obtain ⟨e1, _⟩ := hT _ _ hc
        simp only [Option.bind_some]
        rw [Array.getD_eq_getD_getElem?] at e1
        cases hx : a.tmps[d]? with
        | none => rfl
        | some y =>
          rw [hx] at e1
          have : y = .tuple vs := e1
          subst this
          rfl
      · cases h

def dstOk (nt : Nat) : Option Tmp → Bool
  | none => true
  | some d => Nat.blt d nt
def putT (tr : Tr) (d : Option Tmp) (u : AV) : Tr :=
  match d with
  | none => tr
  | some d => Tr.set 24 tr d u
/-! ### forcing: the kernel hands on what is written out, not what is still to be reckoned -/
def fNat {α : Type} (n : Nat) (k : Nat → α) : α :=
  match n with
  | 0 => k 0
  | m + 1 => k (Nat.succ m)
theorem fNat_eq {α : Type} (n : Nat) (k : Nat → α) : fNat n k = k n := by cases n <;> rfl
def fInt {α : Type} (n : Int) (k : Int → α) : α :=
  match n with
  | .ofNat m => fNat m fun m => k (.ofNat m)
  | .negSucc m => fNat m fun m => k (.negSucc m)
theorem fInt_eq {α : Type} (n : Int) (k : Int → α) : fInt n k = k n := by cases n <;> simp only [fInt, fNat_eq]
def fT {α : Type} : T → (T → α) → α
  | .s i, k => fNat i fun i => k (.s i)
  | .k n, k => fNat n fun n => k (.k n)
  | .xor a b, k => fT a fun a => fT b fun b => k (.xor a b)
  | .and a b, k => fT a fun a => fT b fun b => k (.and a b)
  | .or a b, k => fT a fun a => fT b fun b => k (.or a b)
  | .not a, k => fT a fun a => k (.not a)
  | .shl a n, k => fT a fun a => fNat n fun n => k (.shl a n)
  | .shr a n, k => fT a fun a => fNat n fun n => k (.shr a n)
  | .byte i a, k => fNat i fun i => fT a fun a => k (.byte i a)
  | .cat a b c d e f g h, k => fT a fun a => fT b fun b => fT c fun c => fT d fun d => fT e fun e => fT f fun f => fT g fun g => fT h fun h => k (.cat a b c d e f g h)
  | .ap f i a b c d e, k => fNat f fun f => fNat i fun i => fT a fun a => fT b fun b => fT c fun c => fT d fun d => fT e fun e => k (.ap f i a b c d e)
theorem fT_eq {α : Type} : ∀ (t : T) (k : T → α), fT t k = k t := by
  intro t
  induction t with
  | s i => intro k; simp only [fT, fNat_eq]
  | k n => intro k; simp only [fT, fNat_eq]
  | xor a b iha ihb => intro k; simp only [fT, iha, ihb]
  | and a b iha ihb => intro k; simp only [fT, iha, ihb]
  | or a b iha ihb => intro k; simp only [fT, iha, ihb]
  | not a iha => intro k; simp only [fT, iha]
  | shl a n iha => intro k; simp only [fT, iha, fNat_eq]
  | shr a n iha => intro k; simp only [fT, iha, fNat_eq]
  | byte i a iha => intro k; simp only [fT, iha, fNat_eq]
  | cat a b c d e f g h i1 i2 i3 i4 i5 i6 i7 i8 => intro k; simp only [fT, i1, i2, i3, i4, i5, i6, i7, i8]
  | ap f i a b c d e i1 i2 i3 i4 i5 => intro k; simp only [fT, i1, i2, i3, i4, i5, fNat_eq]
def fBool {α : Type} (b : Bool) (k : Bool → α) : α :=
  match b with
  | true => k true
  | false => k false
theorem fBool_eq {α : Type} (b : Bool) (k : Bool → α) : fBool b k = k b := by cases b <;> rfl
def fVal {α : Type} (v : Value) (k : Value → α) : α :=
  match v with
  | .int i n => fInt n fun n => k (.int i n)
  | .bool b => fBool b fun b => k (.bool b)
  | v => k v
theorem fVal_eq {α : Type} (v : Value) (k : Value → α) : fVal v k = k v := by cases v <;> simp only [fVal, fInt_eq, fBool_eq]
def fAN {α : Type} (a : AN) (k : AN → α) : α :=
  match a with
  | ⟨s, c⟩ => fNat s fun s => fNat c fun c => k ⟨s, c⟩
theorem fAN_eq {α : Type} (a : AN) (k : AN → α) : fAN a k = k a := by cases a; simp only [fAN, fNat_eq]
def fAC {α : Type} (x : AC) (k : AC → α) : α :=
  match x with
  | .v x => fVal x fun x => k (.v x)
  | .w i t => fT t fun t => k (.w i t)
  | .n a => fAN a fun a => k (.n a)
  | .o i => fNat i fun i => k (.o i)
  | .ptr b o => fNat b fun b => fNat o fun o => k (.ptr b o)
  | .slc b p q l c => fNat b fun b => fNat p fun p => fNat q fun q => fAN l fun l => fAN c fun c => k (.slc b p q l c)
  | .dy b r o l => fNat b fun b => fNat r fun r => fNat o fun o => fAN l fun l => k (.dy b r o l)
theorem fAC_eq {α : Type} (x : AC) (k : AC → α) : fAC x k = k x := by cases x <;> simp only [fAC, fVal_eq, fT_eq, fAN_eq, fNat_eq]
def fACs {α : Type} : List AC → (List AC → α) → α
  | [], k => k []
  | x :: l, k => fAC x fun x => fACs l fun l => k (x :: l)
theorem fACs_eq {α : Type} : ∀ (l : List AC) (k : List AC → α), fACs l k = k l
  | [], _ => rfl
  | x :: l, k => by simp only [fACs, fAC_eq, fACs_eq l]
def fA1 {α : Type} (x : A1) (k : A1 → α) : α :=
  match x with
  | .c x => fAC x fun x => k (.c x)
  | .a l => fACs l fun l => k (.a l)
theorem fA1_eq {α : Type} (x : A1) (k : A1 → α) : fA1 x k = k x := by cases x <;> simp only [fA1, fAC_eq, fACs_eq]
def fA1s {α : Type} : List A1 → (List A1 → α) → α
  | [], k => k []
  | x :: l, k => fA1 x fun x => fA1s l fun l => k (x :: l)
theorem fA1s_eq {α : Type} : ∀ (l : List A1) (k : List A1 → α), fA1s l k = k l
  | [], _ => rfl
  | x :: l, k => by simp only [fA1s, fA1_eq, fA1s_eq l]
def fAV {α : Type} (u : AV) (k : AV → α) : α :=
  match u with
  | .one x => fA1 x fun x => k (.one x)
  | .tup l => fA1s l fun l => k (.tup l)
theorem fAV_eq {α : Type} (u : AV) (k : AV → α) : fAV u k = k u := by cases u <;> simp only [fAV, fA1_eq, fA1s_eq]
/-- The spine alone: the cells are written out already. -/
def fSp {α : Type} : List AC → (List AC → α) → α
  | [], k => k []
  | x :: l, k => fSp l fun l => k (x :: l)
theorem fSp_eq {α : Type} : ∀ (l : List AC) (k : List AC → α), fSp l k = k l
  | [], _ => rfl
  | x :: l, k => by simp only [fSp, fSp_eq l]
/-- A value that came out of the frame or the memory is written out but for its head. -/
def fTop {α : Type} (u : AV) (k : AV → α) : α :=
  match u with
  | .one (.c x) => k (.one (.c x))
  | .one (.a l) => fSp l fun l => k (.one (.a l))
  | .tup l => k (.tup l)
theorem fTop_eq {α : Type} (u : AV) (k : AV → α) : fTop u k = k u := by
  unfold fTop
  split <;> simp only [fSp_eq]
def fOp {α : Type} (o : Oper) (u : AV) (k : AV → α) : α :=
  match o.op with
  | .move _ => fTop u k
  | .assign _ => fTop u k
  | .pick _ _ _ => fTop u k
  | .load _ _ => fTop u k
  | .nilCheck _ => fTop u k
  | .store _ _ _ => fTop u k
  | _ => fAV u k
theorem fOp_eq {α : Type} (o : Oper) (u : AV) (k : AV → α) : fOp o u k = k u := by
  unfold fOp
  split <;> first | exact fTop_eq u k | exact fAV_eq u k
def fMem {α : Type} : List MB → (List MB → α) → α
  | [], k => k []
  | ⟨cs, p, q, r, s, t⟩ :: l, k => fSp cs fun cs => fBool p fun p => fBool q fun q => fBool r fun r => fNat s fun s => fBool t fun t => fMem l fun l => k (⟨cs, p, q, r, s, t⟩ :: l)
theorem fMem_eq {α : Type} : ∀ (l : List MB) (k : List MB → α), fMem l k = k l
  | [], _ => rfl
  | ⟨cs, p, q, r, s, t⟩ :: l, k => by simp only [fMem, fSp_eq, fBool_eq, fNat_eq, fMem_eq l]
def Tr.setK {α : Type} : Nat → Tr → Nat → AV → (Tr → α) → α
  | 0, _, _, _, c => c .lf
  | n + 1, .lf, k, x, c => match k with
    | 0 => c (.nd (some x) .lf .lf)
    | k + 1 => match Nat.beq (k % 2) 0 with
      | true => Tr.setK n .lf (k / 2) x fun t => c (.nd none t .lf)
      | false => Tr.setK n .lf (k / 2) x fun t => c (.nd none .lf t)
  | n + 1, .nd v l r, k, x, c => match k with
    | 0 => c (.nd (some x) l r)
    | k + 1 => match Nat.beq (k % 2) 0 with
      | true => Tr.setK n l (k / 2) x fun t => c (.nd v t r)
      | false => Tr.setK n r (k / 2) x fun t => c (.nd v l t)
theorem Tr.setK_eq {α : Type} : ∀ (n : Nat) (t : Tr) (k : Nat) (x : AV) (c : Tr → α), Tr.setK n t k x c = c (Tr.set n t k x) := by
  intro n
  induction n with
  | zero => intro t k x c; rfl
  | succ n ih =>
    intro t k x c
    cases t with
    | lf =>
      cases k with
      | zero => rfl
      | succ k => simp only [Tr.setK, Tr.set]; cases Nat.beq (k % 2) 0 <;> exact ih _ _ _ _
    | nd v l r =>
      cases k with
      | zero => rfl
      | succ k => simp only [Tr.setK, Tr.set]; cases Nat.beq (k % 2) 0 <;> exact ih _ _ _ _
def putK {α : Type} (tr : Tr) (d : Option Tmp) (u : AV) (k : Tr → α) : α :=
  match d with
  | none => k tr
  | some d => Tr.setK 24 tr d u k

def rwT : List (T × T) → T → T
  | [], t => t
  | (l, r) :: R, t => if l.beq t then r else rwT R t
theorem rwT_den {E : Env} : ∀ {R : List (T × T)}, (∀ p ∈ R, p.1.den E = p.2.den E) → ∀ t, (rwT R t).den E = t.den E
  | [], _, _ => rfl
  | (l, r) :: R, h, t => by
    unfold rwT
    split
    · rename_i hc; rw [← T.beq_eq hc]; exact (h (l, r) (by simp)).symm
    · exact rwT_den (fun p hp => h p (by simp [hp])) t
def nrmV (R : List (T × T)) : AV → AV
  | .one (.c (.w k t)) => .one (.c (.w k (rwT R t)))
  | u => u
theorem nrmV_den {E : Env} {R : List (T × T)} (h : ∀ p ∈ R, p.1.den E = p.2.den E) (bl : Bl) (u : AV) : (nrmV R u).den E bl = u.den E bl ∧ ∀ n, (nrmV R u).wf n = u.wf n := by
  unfold nrmV
  split
  · exact ⟨by simp only [AV.den, A1.den, AC.den, rwT_den h], fun _ => rfl⟩
  · exact ⟨rfl, fun _ => rfl⟩
def nrmP (R : List (T × T)) : Option (AV × List MB) → Option (AV × List MB)
  | some (u, m) => some (nrmV R u, m)
  | none => none
theorem putK_eq {α : Type} (tr : Tr) (d : Option Tmp) (u : AV) (k : Tr → α) : putK tr d u k = k (putT tr d u) := by
  cases d with
  | none => rfl
  | some d => exact Tr.setK_eq _ _ _ _ _
def stepO (P : Program) (G : Cfg) (F : CallF) (nt : Nat) (ops : Array Oper) (ρ : Nat → Option AV) (m : List MB) (o : Oper) : Option (AV × List MB) :=
  if dstOk nt o.dst then
    match wantedA ops ρ o with
    | some true => nrmP G.r (aop P G F m ρ o)
    | some false => some (undefV, m)
    | none => none
  else none

section
variable {P : Program} {E : Env} {w0 : World} {G : Cfg} {F : CallF} {nt : Nat}
theorem stepO_wp (hE : CfgOk P E w0 G) (hF : CallOk P E w0 G F) {bl : Bl} {m m' : List MB} {w : World} {ρ : Nat → Option AV} {ops : Array Oper} {o : Oper} {a : Act} {u : AV} {K : Act → World → Prop} {Q : Exit → Act → World → Prop}
    (h : stepO P G F nt ops ρ m o = some (u, m')) (hm : MRel E bl w0 m w) (hG : GOk G.g bl m.length) (hT' : TOk E bl m.length ρ a)
    (hn : ∀ bl' w', Agree m.length bl bl' → MRel E bl' w0 m' w' → u.wf m'.length = true → m.length ≤ m'.length → K (a.put o.dst (u.den E bl')) w') :
    (if Region.wanted o (yielded ops a.tmps) = true then o.wp P a w K Q ∨ (o.asks P a w ∧ LetsOut Q) else K (a.put o.dst undef) w) := by
  unfold stepO at h
  split at h
  · split at h
    · rename_i hw
      rw [wantedA_den hT' hw, if_pos rfl]
      cases ho : aop P G F m ρ o with
      | none => rw [ho] at h; cases h
      | some p =>
        obtain ⟨u', m1⟩ := p
        rw [ho] at h
        cases h
        refine .inl (aop_sound hE hF ho hm hG hT' fun bl' w' h1 h2 h3 h4 => ?_)
        obtain ⟨g1, g2⟩ := nrmV_den hE.rules bl' u'
        have := hn bl' w' h1 h2 (by rw [g2]; exact h3) h4
        rwa [g1] at this
    · rename_i hw
      cases h
      rw [wantedA_den hT' hw, if_neg (by simp)]
      exact hn bl w (Agree.refl _ _) hm rfl (Nat.le_refl _)
    · cases h
  · cases h
theorem stepO_dst {m m' : List MB} {ρ : Nat → Option AV} {ops : Array Oper} {o : Oper} {u : AV} (h : stepO P G F nt ops ρ m o = some (u, m')) : dstOk nt o.dst = true := by
  unfold stepO at h
  split at h
  · assumption
  · cases h

/-- What is known of a frame and the world. -/
structure SRel (E : Env) (bl : Bl) (w0 : World) (G : Cfg) (nt : Nat) (tr : Tr) (m : List MB) (a : Act) (w : World) : Prop where
  defers : a.defers = []
  size : a.tmps.size = nt
  tmps : ∀ t u, tr.get t = some u → a.tmps.getD t undef = u.den E bl ∧ u.wf m.length = true
  mem : MRel E bl w0 m w
  glob : GOk G.g bl m.length

theorem put_defers (a : Act) (d : Option Tmp) (v : Value) : (a.put d v).defers = a.defers := by cases d <;> rfl
theorem put_size (a : Act) (d : Option Tmp) (v : Value) : (a.put d v).tmps.size = a.tmps.size := by cases d <;> simp [Act.put]
theorem put_get {a : Act} {d : Tmp} {v : Value} (h : d < a.tmps.size) (t : Tmp) : (a.put (some d) v).tmps.getD t undef = if t = d then v else a.tmps.getD t undef := by
  simp only [Act.put, Array.getD_eq_getD_getElem?, Array.getElem?_setIfInBounds]
  by_cases hd : d = t
  · subst hd; simp [h]
  · simp [hd, Ne.symm hd]
theorem SRel.put {bl bl' : Bl} {tr : Tr} {m m' : List MB} {a : Act} {w w' : World} (h : SRel E bl w0 G nt tr m a w) {d : Option Tmp} {u : AV} (hd : dstOk nt d = true) (ha : Agree m.length bl bl') (hm : MRel E bl' w0 m' w') (hu : u.wf m'.length = true) (hl : m.length ≤ m'.length) :
    SRel E bl' w0 G nt (putT tr d u) m' (a.put d (u.den E bl')) w' := by
  have old : ∀ t v, tr.get t = some v → a.tmps.getD t undef = v.den E bl' ∧ v.wf m'.length = true := fun t v hv => by
    obtain ⟨e1, e2⟩ := h.tmps t v hv
    exact ⟨by rw [e1, AV.den_agree ha e2], AV.wf_mono hl e2⟩
  refine ⟨by rw [put_defers]; exact h.defers, by rw [put_size]; exact h.size, ?_, hm, h.glob.agree ha hl⟩
  intro t v hv
  cases d with
  | none => exact old t v hv
  | some d =>
    have hlt : d < a.tmps.size := by rw [h.size]; simpa [dstOk] using hd
    rw [put_get hlt]
    rcases Tr.get_set _ _ _ _ _ _ hv with ⟨e1, e2⟩ | ⟨e1, e2⟩
    · subst e1; subst e2; rw [if_pos rfl]; exact ⟨rfl, hu⟩
    · rw [if_neg e1]; exact old t v e2

/-! ### a region in the text's order -/
def aList (P : Program) (G : Cfg) (F : CallF) (nt : Nat) (ops : Array Oper) : List Oper → Tr → List MB → Option (Tr × List MB)
  | [], tr, m => some (tr, m)
  | o :: l, tr, m => match stepO P G F nt ops tr.get m o with
    | some (u, m') => fOp o u fun u => fMem m' fun m' => putK tr o.dst u fun tr' => aList P G F nt ops l tr' m'
    | none => none
theorem aList_sound (hE : CfgOk P E w0 G) (hF : CallOk P E w0 G F) {ops : Array Oper} {Q : Exit → Act → World → Prop} {tr' : Tr} {m' : List MB} : ∀ (l : List Oper) (bl : Bl) (tr : Tr) (m : List MB) (a : Act) (w : World),
    aList P G F nt ops l tr m = some (tr', m') → SRel E bl w0 G nt tr m a w →
    (∀ bl' a' w', Agree m.length bl bl' → m.length ≤ m'.length → SRel E bl' w0 G nt tr' m' a' w' → Q .normal a' w') → wpList P ops Q l a w
  | [], bl, tr, m, a, w, h, hs, hq => by
    cases h
    exact hq bl a w (Agree.refl _ _) (Nat.le_refl _) hs
  | o :: l, bl, tr, m, a, w, h, hs, hq => by
    unfold aList at h
    split at h
    · rename_i u m1 hst
      rw [fOp_eq, fMem_eq, putK_eq] at h
      unfold wpList
      refine stepO_wp hE hF hst hs.mem hs.glob (fun t v hv => hs.tmps t v hv) fun bl1 w1 ha hm1 hu hl => ?_
      have hs1 := hs.put (stepO_dst hst) ha hm1 hu hl
      exact aList_sound hE hF l bl1 _ m1 _ w1 h hs1 fun bl' a' w' ha' hl' hs' => hq bl' a' w' (ha.trans ha' hl) (Nat.le_trans hl hl') hs'
    · cases h

/-! ### a region in whatever order -/
/-- Operations that leave the memory as it is. -/
def quietOp (o : Oper) : Bool :=
  match o.op with
  | .alloc _ => false
  | .box _ _ => false
  | .store _ _ _ => false
  | .buildSlice _ _ _ => false
  | .makeSlice _ _ _ => false
  | .call { callee := .builtin .len, .. } => true
  | .call { callee := .builtin .cap, .. } => true
  | .call _ => false
  | _ => true
theorem one1_mem {x : Option AC} {m m' : List MB} {u : AV} (h : one1 x m = some (u, m')) : m' = m := by cases x <;> cases h; rfl
theorem oneA_mem {x : Option A1} {m m' : List MB} {u : AV} (h : oneA x m = some (u, m')) : m' = m := by cases x <;> cases h; rfl
theorem aop_quiet {m m' : List MB} {ρ : Nat → Option AV} {o : Oper} {u : AV} (hq : quietOp o = true) (h : aop P G F m ρ o = some (u, m')) : m' = m := by
  unfold aop at h
  split at h
  all_goals first
    | (rename_i he; simp only [quietOp, he] at hq; cases hq; done)
    | (split at h <;> first | (cases h; done) | (cases h; rfl) | exact one1_mem h | exact oneA_mem h | (split at h <;> first | (cases h; done) | (cases h; rfl) | exact one1_mem h | (split at h <;> first | (cases h; done) | (cases h; rfl) | exact one1_mem h)))
    | exact one1_mem h
    | (cases h; done)
theorem stepO_quiet {m m' : List MB} {ρ : Nat → Option AV} {ops : Array Oper} {o : Oper} {u : AV} (hq : quietOp o = true) (h : stepO P G F nt ops ρ m o = some (u, m')) : m' = m := by
  unfold stepO at h
  split at h
  · split at h
    · cases ho : aop P G F m ρ o with
      | none => rw [ho] at h; cases h
      | some p =>
        obtain ⟨u', m1⟩ := p
        rw [ho] at h
        cases h
        exact aop_quiet hq ho
    · cases h; rfl
    · cases h
  · cases h

def lBeq : List AC → List AC → Bool
  | [], [] => true
  | a :: l, b :: r => a.beq b && lBeq l r
  | _, _ => false
theorem lBeq_eq : ∀ {a b : List AC}, lBeq a b = true → a = b
  | [], [], _ => rfl
  | a :: l, b :: r, h => by
    simp only [lBeq, Bool.and_eq_true] at h
    rw [AC.beq_eq h.1, lBeq_eq h.2]
  | [], _ :: _, h => by cases h
  | _ :: _, [], h => by cases h
def AV.beq : AV → AV → Bool
  | .one (.c a), .one (.c b) => a.beq b
  | .one (.a a), .one (.a b) => lBeq a b
  | _, _ => false
theorem AV.beq_eq {a b : AV} (h : a.beq b = true) : a = b := by
  unfold AV.beq at h
  split at h
  · rw [AC.beq_eq h]
  · rw [lBeq_eq h]
  · cases h
end
end Go.Proofs.YtfilandehjmikaaDoor.Sx
