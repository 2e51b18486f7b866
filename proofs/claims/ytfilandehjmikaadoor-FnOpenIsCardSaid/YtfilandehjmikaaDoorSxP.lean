/- Numbers, loads, stores, addresses, slices, aggregates: each abstract operation, and that the model's does just that. No condition. -/
import Derived.Test.YtfilandehjmikaaDoorSxO
namespace Go.Proofs.YtfilandehjmikaaDoor.Sx
open Go.RowKit

/-! ### numbers -/
def mkN (a : AN) : AC := if a.isLit then .v (.int .i64 (a.c : Int)) else .n a
theorem mkN_den (E : Env) (bl : Bl) (a : AN) : (mkN a).den E bl = .int .i64 (a.val E : Int) := by
  unfold mkN
  split
  · rename_i h; rw [AN.val_lit E h]; rfl
  · rfl
theorem mkN_wf (a : AN) (n : Nat) : (mkN a).wf n = true := by unfold mkN; split <;> rfl
theorem mkN_one (a : AN) : (mkN a).one = true := by unfold mkN; split <;> rfl
def toAN : AC → Option AN
  | .v (.int .i64 n) => if 0 ≤ n then some ⟨0, n.toNat⟩ else none
  | .n a => some a
  | _ => none
theorem toAN_den {E : Env} {bl : Bl} {x : AC} {a : AN} (h : toAN x = some a) : x.den E bl = .int .i64 (a.val E : Int) := by
  unfold toAN at h
  split at h
  · split at h
    · rename_i h0
      cases h
      simp only [AC.den, AN.val]
      congr 1; omega
    · cases h
  · cases h; rfl
  · cases h
def AN.le (a b : AN) : Bool := (Nat.beq a.s b.s || Nat.beq a.s 0) && Nat.ble a.c b.c
def AN.lt (a b : AN) : Bool := (Nat.beq a.s b.s || Nat.beq a.s 0) && Nat.blt a.c b.c
theorem AN.val_c (E : Env) (a : AN) : a.c ≤ a.val E := by obtain ⟨s, c⟩ := a; cases s <;> simp [AN.val]
theorem AN.le_val (E : Env) {a b : AN} (h : a.le b = true) : a.val E ≤ b.val E := by
  obtain ⟨s, c⟩ := a
  obtain ⟨s', c'⟩ := b
  simp only [AN.le, Bool.and_eq_true, Bool.or_eq_true, Nat.beq_eq, Nat.ble_eq] at h
  obtain ⟨h1 | h1, h2⟩ := h
  · subst h1; cases s <;> simp only [AN.val] <;> omega
  · subst h1; have := AN.val_c E ⟨s', c'⟩; simp only [AN.val] at this ⊢; omega
theorem AN.lt_val (E : Env) {a b : AN} (h : a.lt b = true) : a.val E < b.val E := by
  obtain ⟨s, c⟩ := a
  obtain ⟨s', c'⟩ := b
  simp only [AN.lt, Bool.and_eq_true, Bool.or_eq_true, Nat.beq_eq, Nat.blt_eq] at h
  obtain ⟨h1 | h1, h2⟩ := h
  · subst h1; cases s <;> simp only [AN.val] <;> omega
  · subst h1; have := AN.val_c E ⟨s', c'⟩; simp only [AN.val] at this ⊢; omega
def AN.sub (a b : AN) : Option AN :=
  if Nat.ble b.c a.c then (if Nat.beq b.s 0 then some ⟨a.s, a.c - b.c⟩ else if Nat.beq b.s a.s then some ⟨0, a.c - b.c⟩ else none) else none
theorem AN.sub_val (E : Env) {a b r : AN} (h : a.sub b = some r) : a.val E = b.val E + r.val E := by
  obtain ⟨s, c⟩ := a
  obtain ⟨s', c'⟩ := b
  unfold AN.sub at h
  split at h
  · rename_i hc
    simp only [Nat.ble_eq] at hc
    split at h
    · rename_i hs
      simp only [Nat.beq_eq] at hs
      subst hs; cases h
      cases s <;> simp only [AN.val] <;> omega
    · split at h
      · rename_i hs
        simp only [Nat.beq_eq] at hs
        subst hs; cases h
        cases s' <;> simp only [AN.val] <;> omega
      · cases h
  · cases h
def AN.add (a b : AN) : Option AN :=
  if Nat.ble (a.c + b.c) 2199023255552 && Nat.ble a.s 100 && Nat.ble b.s 100 then (if Nat.beq b.s 0 then some ⟨a.s, a.c + b.c⟩ else if Nat.beq a.s 0 then some ⟨b.s, a.c + b.c⟩ else none) else none
theorem AN.add_val {E : Env} (hE : EnvOk E) {a b r : AN} (h : a.add b = some r) : r.val E = a.val E + b.val E ∧ r.val E ≤ 4398046511104 := by
  obtain ⟨s, c⟩ := a
  obtain ⟨s', c'⟩ := b
  unfold AN.add at h
  split at h
  · rename_i hc
    simp only [Bool.and_eq_true, Nat.ble_eq] at hc
    obtain ⟨⟨hc, hs1⟩, hs2⟩ := hc
    split at h
    · rename_i hs
      simp only [Nat.beq_eq] at hs
      subst hs; cases h
      cases s with
      | zero => exact ⟨show c + c' = c + c' from rfl, show c + c' ≤ _ by omega⟩
      | succ i => have := hE.nm i (by omega); exact ⟨show E.nm i + (c + c') = E.nm i + c + c' by omega, show E.nm i + (c + c') ≤ _ by omega⟩
    · split at h
      · rename_i hs
        simp only [Nat.beq_eq] at hs
        subst hs; cases h
        cases s' with
        | zero => exact ⟨show c + c' = c + c' from rfl, show c + c' ≤ _ by omega⟩
        | succ i => have := hE.nm i (by omega); exact ⟨show E.nm i + (c + c') = c + (E.nm i + c') by omega, show E.nm i + (c + c') ≤ _ by omega⟩
      · cases h
  · cases h
def AN.cmp (op : BinOp) (a b : AN) : Option Bool :=
  match op with
  | .lss => if a.lt b then some true else if b.le a then some false else none
  | .geq => if a.lt b then some false else if b.le a then some true else none
  | .gtr => if b.lt a then some true else if a.le b then some false else none
  | .leq => if b.lt a then some false else if a.le b then some true else none
  | .eql => if a.lt b || b.lt a then some false else if a.le b && b.le a then some true else none
  | .neq => if a.lt b || b.lt a then some true else if a.le b && b.le a then some false else none
  | _ => none
theorem AN.cmp_run {E : Env} {op : BinOp} {a b : AN} {r : Bool} (P : Program) (w : World) (h : AN.cmp op a b = some r) :
    (Op.intCmp op (a.val E : Int) (b.val E : Int)).run P w = .ok (.bool r) w := by
  cases op <;> simp only [AN.cmp] at h <;> first | (cases h; done) | skip
  all_goals
    split at h
    · rename_i hc
      cases h
      first
        | (have := AN.lt_val E hc; simp only [Op.intCmp, Sem.run_pure]; congr 2; simp; omega)
        | (simp only [Bool.or_eq_true] at hc
           rcases hc with hc | hc <;> have := AN.lt_val E hc <;> simp only [Op.intCmp, Sem.run_pure] <;> congr 2 <;> simp <;> omega)
    · split at h
      · rename_i hc
        cases h
        first
          | (have := AN.le_val E hc; simp only [Op.intCmp, Sem.run_pure]; congr 2; simp; omega)
          | (simp only [Bool.and_eq_true] at hc
             have h1 := AN.le_val E hc.1
             have h2 := AN.le_val E hc.2
             simp only [Op.intCmp, Sem.run_pure]; congr 2; simp; omega)
      · cases h
def aNum (op : BinOp) (x y : AC) : Option AC :=
  match toAN x, toAN y with
  | some a, some b =>
    match op with
    | .add => (a.add b).map mkN
    | .sub => if Nat.ble a.s 100 then (a.sub b).map mkN else none
    | op => (AN.cmp op a b).map fun r => .v (.bool r)
  | _, _ => none
theorem AN.val_le {E : Env} (hE : EnvOk E) (a : AN) (ha : a.s ≤ 100) : a.val E ≤ 1099511627776 + a.c := by
  obtain ⟨s, c⟩ := a
  cases s with
  | zero => simp only [AN.val]; omega
  | succ i => have := hE.nm i (by simp only at ha; omega); simp only [AN.val]; omega
theorem wrap_small (n : Nat) (h : n < 9223372036854775808) : IntKind.i64.wrap (n : Int) = n := by rw [IntKind.wrap_i64]; omega
theorem aNum_run {E : Env} (hE : EnvOk E) {bl : Bl} {op : BinOp} {x y r : AC} {ty : TypeId} (P : Program) (w : World) (h : aNum op x y = some r) (hs : ∀ a, toAN x = some a → a.c ≤ 4611686018427387904) :
    (binOp op ty (x.den E bl) (y.den E bl)).run P w = .ok (r.den E bl) w ∧ (∀ p q, (eqGuard op ty p q (x.den E bl) (y.den E bl)).run P w = .ok () w) ∧ ∀ n, r.wf n = true := by
  unfold aNum at h
  split at h
  · rename_i a b h1 h2
    rw [toAN_den h1, toAN_den h2]
    have hbase : ∀ (op : BinOp) (r' : Bool), AN.cmp op a b = some r' → (binOp op ty (.int .i64 (a.val E : Int)) (.int .i64 (b.val E : Int))).run P w = .ok (.bool r') w := fun op r' hc => by
      have := AN.cmp_run (E := E) P w hc
      rw [← this]
      cases op <;> simp only [AN.cmp] at hc <;> first | (cases hc; done) | simp [binOp]
    refine ⟨?_, fun p q => run_eqGuard_int _ _ _ _ _ _ _ _ _ _, ?_⟩
    · split at h
      · cases hr : a.add b with
        | none => rw [hr] at h; cases h
        | some u =>
          rw [hr] at h; cases h
          obtain ⟨e1, e2⟩ := AN.add_val hE hr
          rw [mkN_den]
          simp only [binOp, ne_eq, not_true, if_false, Op.intArith, Sem.run_pure]
          congr 2
          rw [← Int.natCast_add, ← e1]
          exact wrap_small _ (by omega)
      · split at h
        case isFalse => cases h
        rename_i ha
        simp only [Nat.ble_eq] at ha
        cases hr : a.sub b with
        | none => rw [hr] at h; cases h
        | some u =>
          rw [hr] at h; cases h
          have e1 := AN.sub_val E hr
          have e2 := AN.val_le hE a ha
          have e3 := hs a h1
          rw [mkN_den]
          simp only [binOp, ne_eq, not_true, if_false, Op.intArith, Sem.run_pure]
          congr 2
          rw [show (a.val E : Int) - (b.val E : Int) = (u.val E : Int) by omega]
          exact wrap_small _ (by omega)
      · cases hr : AN.cmp op a b with
        | none => rw [hr] at h; cases h
        | some u => rw [hr] at h; cases h; exact hbase op u hr
    · split at h
      · cases hr : a.add b with
        | none => rw [hr] at h; cases h
        | some u => rw [hr] at h; cases h; exact mkN_wf u
      · split at h
        case isFalse => cases h
        cases hr : a.sub b with
        | none => rw [hr] at h; cases h
        | some u => rw [hr] at h; cases h; exact mkN_wf u
      · cases hr : AN.cmp op a b with
        | none => rw [hr] at h; cases h
        | some u => rw [hr] at h; cases h; exact fun _ => rfl
  · cases h
def smallN (x : AC) : Bool :=
  match toAN x with
  | some a => Nat.ble a.c 4611686018427387904
  | none => true
theorem smallN_spec {x : AC} (h : smallN x = true) : ∀ a, toAN x = some a → a.c ≤ 4611686018427387904 := fun a ha => by
  unfold smallN at h; rw [ha] at h; simpa using h

/-! ### literal values -/
def litA : Value → Option A1
  | .agg cs => if cs.toList.all Value.oneCell' then some (.a (cs.toList.map .v)) else none
  | .tuple _ => none
  | z => some (.c (.v z))
def A1.one1 : A1 → Bool
  | .c x => x.one
  | .a l => l.all AC.one
theorem litA_den {E : Env} {bl : Bl} {z : Value} {x : A1} (h : litA z = some x) : x.den E bl = z ∧ (∀ n, x.wf n = true) ∧ x.one1 = true := by
  cases z <;> simp only [litA] at h
  case agg cs =>
    split at h
    · rename_i hc
      cases h
      refine ⟨?_, fun n => ?_, ?_⟩
      · simp only [A1.den, List.map_map]
        congr 1
        apply Array.ext'
        simp [AC.den, Function.comp_def]
      · simp [A1.wf, AC.wf]
      · simp only [A1.one1, List.all_map]
        exact hc
    · cases h
  case tuple vs => cases h
  all_goals (cases h; exact ⟨rfl, fun _ => rfl, rfl⟩)
theorem A1.cells_den (E : Env) (bl : Bl) (x : A1) (h : x.one1 = true) (hE : EnvOk E) : (x.den E bl).cells = (x.cells.map (AC.den E bl)).toArray := by
  cases x with
  | c x =>
    have := AC.den_one hE bl (x := x) h
    simp only [A1.den, A1.cells, List.map_cons, List.map_nil]
    generalize x.den E bl = v at *
    cases v <;> first | rfl | (cases this; done)
  | a l => rfl
theorem A1.cells_wf {n : Nat} {x : A1} (h : x.wf n = true) : x.cells.all (AC.wf n) = true := by
  cases x with
  | c x => simpa [A1.cells, A1.wf] using h
  | a l => exact h
theorem A1.cells_one {x : A1} (h : x.one1 = true) : x.cells.all AC.one = true := by
  cases x with
  | c x => simpa [A1.cells, A1.one1] using h
  | a l => exact h
end Go.Proofs.YtfilandehjmikaaDoor.Sx
