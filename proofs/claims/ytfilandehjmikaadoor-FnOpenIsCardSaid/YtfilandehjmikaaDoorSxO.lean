/- What an operation does to abstract values and memory, and that the model's operation does just that. No condition. -/
import Derived.Test.YtfilandehjmikaaDoorSxM
import Derived.Orders
namespace Go.Proofs.YtfilandehjmikaaDoor.Sx
open Go.RowKit

/-! ### words of a kind -/
def T.fits32 : T → Bool
  | .cat a b c d _ _ _ _ => a.isZ && b.isZ && c.isZ && d.isZ
  | .k n => Nat.blt n 4294967296
  | t => t.isB
def T.fits (k : IntKind) (t : T) : Bool :=
  match k with
  | .u64 => true
  | .u8 => t.isB
  | .u32 => t.fits32
  | _ => false
theorem lt_of_bits {x : BitVec 64} {n : Nat} (h : ∀ j, n ≤ j → x.getLsbD j = false) : x.toNat < 2 ^ n :=
  Nat.lt_pow_two_of_testBit _ fun j hj => h j hj
theorem T.fits_lt (E : Env) {k : IntKind} {t : T} (h : t.fits k = true) : (t.den E).toNat < 2 ^ k.bits := by
  have hb : t.isB = true → (t.den E).toNat < 2 ^ 8 := fun hb => lt_of_bits (T.isB_bit E hb)
  cases k <;> simp only [T.fits] at h <;> first | (cases h; done) | skip
  case u64 => exact (t.den E).isLt
  case u8 => exact hb h
  case u32 =>
    unfold T.fits32 at h
    split at h
    · simp only [Bool.and_eq_true] at h
      obtain ⟨⟨⟨h1, h2⟩, h3⟩, h4⟩ := h
      refine lt_of_bits fun j hj => ?_
      have hj : 32 ≤ j := hj
      rcases Nat.lt_or_ge j 64 with hlt | hge
      · simp only [T.den]
        rw [catOf_bit _ _ _ _ _ _ _ _ _ hlt, T.isZ_den E h1, T.isZ_den E h2, T.isZ_den E h3, T.isZ_den E h4]
        have : 7 - j / 8 = 0 ∨ 7 - j / 8 = 1 ∨ 7 - j / 8 = 2 ∨ 7 - j / 8 = 3 := by omega
        rcases this with e | e | e | e <;> rw [e] <;> simp [sel8]
      · exact BitVec.getLsbD_of_ge _ _ hge
    · rename_i n
      have hn : n < 4294967296 := by simpa using h
      simp only [T.den, BitVec.toNat_ofNat, IntKind.bits]
      omega
    · exact Nat.lt_of_lt_of_le (hb h) (by decide)
theorem T.fits_bits {k : IntKind} {t : T} (h : t.fits k = true) : k.bits ≤ 64 ∧ ∀ n : Nat, n < 2 ^ k.bits → k.wrap (n : Int) = n := by
  cases k <;> simp only [T.fits] at h <;> first | (cases h; done) | skip
  · exact ⟨by decide, fun n hn => by rw [IntKind.wrap_u8]; simp only [IntKind.bits] at hn; omega⟩
  · exact ⟨by decide, fun n hn => by rw [IntKind.wrap_u32]; simp only [IntKind.bits] at hn; omega⟩
  · exact ⟨by decide, fun n hn => by rw [IntKind.wrap_u64]; simp only [IntKind.bits] at hn; omega⟩
theorem ofInt_nat (B : Nat) (x : BitVec 64) : BitVec.ofInt B (x.toNat : Int) = x.setWidth B := by
  rw [BitVec.ofInt_natCast, BitVec.ofNat_toNat]

def toW : AC → Option (IntKind × T)
  | .w k t => some (k, t)
  | .v (.int k n) => if 0 ≤ n ∧ n < 18446744073709551616 then some (k, .k n.toNat) else none
  | _ => none
theorem toW_den {E : Env} {bl : Bl} {x : AC} {k : IntKind} {t : T} (h : toW x = some (k, t)) : x.den E bl = .int k ((t.den E).toNat : Int) := by
  unfold toW at h
  split at h
  · cases h; rfl
  · rename_i k' n
    split at h
    · rename_i hn
      cases h
      obtain ⟨h0, h1⟩ := hn
      simp only [AC.den, T.den, BitVec.toNat_ofNat]
      congr 1
      omega
    · cases h
  · cases h

def wordOp (op : BinOp) (k : IntKind) (s t : T) : Option T :=
  match op with
  | .xor => some (match k with | .u64 => mkXor s t | _ => mkXor1 s t)
  | .and => some (mkAnd s t)
  | .or => some (mkOr s t)
  | .andNot => some (mkAnd s (mkNot t))
  | _ => none
def wordBv (op : BinOp) (x y : BitVec 64) : BitVec 64 :=
  match op with
  | .xor => x ^^^ y
  | .and => x &&& y
  | .or => x ||| y
  | _ => x &&& ~~~ y
theorem wordOp_den (E : Env) {op : BinOp} {k : IntKind} {s t r : T} (h : wordOp op k s t = some r) : r.den E = wordBv op (s.den E) (t.den E) := by
  cases op <;> simp only [wordOp, Option.some.injEq] at h <;> first | (cases h; done) | skip
  all_goals subst h
  · exact mkAnd_den E s t
  · exact mkOr_den E s t
  · cases k <;> first | exact mkXor_den E s t | exact mkXor1_den E s t
  · simp only [wordBv, mkAnd_den, mkNot_den]
theorem wordBv_lt {op : BinOp} {x y : BitVec 64} {n : Nat} (hx : x.toNat < 2 ^ n) (hy : y.toNat < 2 ^ n) : (wordBv op x y).toNat < 2 ^ n := by
  cases op <;> simp only [wordBv]
  case xor => rw [BitVec.toNat_xor]; exact Nat.xor_lt_two_pow hx hy
  case or => rw [BitVec.toNat_or]; exact Nat.or_lt_two_pow hx hy
  case and => rw [BitVec.toNat_and]; exact Nat.and_lt_two_pow _ hy
  all_goals
    rw [BitVec.toNat_and, Nat.and_comm]
    exact Nat.and_lt_two_pow _ hx
theorem wordBv_width {op : BinOp} (B : Nat) (hB : B ≤ 64) (x y : BitVec 64) (P : Program) (w : World) (k : IntKind) (hk : k.bits = B) (hop : op = .xor ∨ op = .and ∨ op = .or ∨ op = .andNot)
    (hx : x.toNat < 2 ^ B) (hy : y.toNat < 2 ^ B) (hw : ∀ n : Nat, n < 2 ^ B → k.wrap (n : Int) = n) :
    (Op.intBits op k (x.toNat : Int) (y.toNat : Int)).run P w = .ok (.int k ((wordBv op x y).toNat : Int)) w := by
  subst hk
  have key : ∀ z : BitVec k.bits, z = (wordBv op x y).setWidth k.bits → k.wrap (z.toNat : Int) = ((wordBv op x y).toNat : Int) := fun z hz => by
    rw [hz, BitVec.toNat_setWidth, Nat.mod_eq_of_lt (wordBv_lt hx hy)]
    exact hw _ (wordBv_lt hx hy)
  have keyN : ∀ z : BitVec k.bits, z = (x &&& ~~~ y).setWidth k.bits → k.wrap (z.toNat : Int) = ((x &&& ~~~ y).toNat : Int) := fun z hz => by
    have hlt : (x &&& ~~~ y).toNat < 2 ^ k.bits := by rw [BitVec.toNat_and, Nat.and_comm]; exact Nat.and_lt_two_pow _ hx
    rw [hz, BitVec.toNat_setWidth, Nat.mod_eq_of_lt hlt]
    exact hw _ hlt
  unfold Op.intBits
  rcases hop with rfl | rfl | rfl | rfl <;> simp only [ofInt_nat, Sem.run_pure] <;> congr 2
  · exact key _ (by simp only [wordBv, BitVec.setWidth_xor])
  · exact key _ (by simp only [wordBv, BitVec.setWidth_and])
  · exact key _ (by simp only [wordBv, BitVec.setWidth_or])
  · refine keyN _ (BitVec.eq_of_getLsbD_eq fun j hj => ?_)
    simp [hj, show j < 64 by omega]

theorem run_eqGuard_int (op : BinOp) (t : TypeId) (x y : Operand) (k k' : IntKind) (a b : Int) (P : Program) (w : World) : (eqGuard op t x y (.int k a) (.int k' b)).run P w = .ok () w := by
  unfold eqGuard
  cases op <;> rfl

def isBit : BinOp → Bool
  | .xor => true | .and => true | .or => true | .andNot => true | _ => false
def aWord (op : BinOp) (x y : AC) : Option AC :=
  match toW x, toW y with
  | some (k, s), some (k', t) =>
    if k = k' ∧ isBit op = true ∧ s.fits k = true ∧ t.fits k = true then (wordOp op k s t).map (.w k) else none
  | _, _ => none
theorem aWord_run {E : Env} {bl : Bl} {op : BinOp} {x y r : AC} {ty : TypeId} (P : Program) (w : World) (h : aWord op x y = some r) :
    (binOp op ty (x.den E bl) (y.den E bl)).run P w = .ok (r.den E bl) w ∧ (∀ p q, (eqGuard op ty p q (x.den E bl) (y.den E bl)).run P w = .ok () w) ∧ ∀ n, r.wf n = true := by
  unfold aWord at h
  split at h
  · rename_i k s k' t h1 h2
    split at h
    · rename_i hc
      obtain ⟨rfl, hb, hs, ht⟩ := hc
      rw [toW_den h1, toW_den h2]
      cases hr : wordOp op k s t with
      | none => rw [hr] at h; cases h
      | some u =>
        rw [hr] at h
        cases h
        have hop : op = .xor ∨ op = .and ∨ op = .or ∨ op = .andNot := by cases op <;> simp [isBit] at hb ⊢
        obtain ⟨hB, hw⟩ := T.fits_bits hs
        have := wordBv_width (op := op) k.bits hB (s.den E) (t.den E) P w k rfl hop (T.fits_lt E hs) (T.fits_lt E ht) hw
        refine ⟨?_, fun p q => run_eqGuard_int _ _ _ _ _ _ _ _ _ _, fun _ => rfl⟩
        simp only [AC.den, wordOp_den E hr]
        rw [← this]
        rcases hop with rfl | rfl | rfl | rfl <;> simp [binOp]
    · cases h
  · cases h

def aShift (op : BinOp) (x y : AC) : Option AC :=
  match toW x, y with
  | some (k, s), .v (.int _ n) =>
    if 0 ≤ n ∧ n ≤ 64 ∧ s.fits k = true then
      match op with
      | .shl => if n.toNat ≤ k.bits ∧ (mkShl s n.toNat).fits k = true then some (.w k (mkShl s n.toNat)) else none
      | .shr => if n.toNat ≤ k.bits then some (.w k (mkShr s n.toNat)) else none
      | _ => none
    else none
  | _, _ => none
theorem aShift_run {E : Env} {bl : Bl} {op : BinOp} {x y r : AC} {ty : TypeId} (P : Program) (w : World) (h : aShift op x y = some r) :
    (binOp op ty (x.den E bl) (y.den E bl)).run P w = .ok (r.den E bl) w ∧ (∀ p q, (eqGuard op ty p q (x.den E bl) (y.den E bl)).run P w = .ok () w) ∧ ∀ n, r.wf n = true := by
  unfold aShift at h
  split at h
  · rename_i k s yk n h1
    split at h
    · rename_i hc
      obtain ⟨h0, h64, hs⟩ := hc
      obtain ⟨hB, hw⟩ := T.fits_bits hs
      have hlt := T.fits_lt E hs
      rw [toW_den h1]
      refine ⟨?_, fun p q => run_eqGuard_int _ _ _ _ _ _ _ _ _ _, ?_⟩
      · split at h
        · split at h
          · rename_i hf
            obtain ⟨hnk, hf⟩ := hf
            cases h
            have hf' := T.fits_lt E hf
            simp only [AC.den, binOp, Op.shift, show ¬ n < 0 by omega, if_false, Sem.run_pure, Nat.min_eq_left hnk]
            congr 2
            rw [mkShl_den] at hf' ⊢
            rw [BitVec.toNat_shiftLeft, Nat.shiftLeft_eq] at hf' ⊢
            generalize (s.den E).toNat = X at *
            generalize n.toNat = m at *
            have h2 : X * 2 ^ m < 2 ^ (64 + 64) := by
              rw [Nat.pow_add]
              have h3 : 2 ^ m ≤ 2 ^ 64 := Nat.pow_le_pow_right (by decide) (by omega)
              have h4 : X < 2 ^ 64 := Nat.lt_of_lt_of_le hlt (Nat.pow_le_pow_right (by decide) hB)
              exact Nat.lt_of_le_of_lt (Nat.mul_le_mul_left _ h3) (Nat.mul_lt_mul_of_pos_right h4 (by decide))
            have e : ((X : Int) * 2 ^ m) = ((X * 2 ^ m : Nat) : Int) := by simp
            rw [e]
            have wr : ∀ Z : Nat, k.wrap (Z : Int) = ((Z % 2 ^ k.bits : Nat) : Int) := fun Z => by
              cases k <;> simp only [T.fits] at hs <;> first | (cases hs; done) | skip
              · rw [IntKind.wrap_u8]; simp [IntKind.bits]
              · rw [IntKind.wrap_u32]; simp [IntKind.bits]
              · rw [IntKind.wrap_u64]; simp [IntKind.bits]
            rw [wr]
            congr 1
            by_cases hk : k = .u64
            · subst hk; rfl
            · have hk32 : k.bits ≤ 32 := by
                cases k <;> simp only [T.fits] at hs <;> first | (cases hs; done) | decide | exact absurd rfl hk
              have h5 : X * 2 ^ m < 2 ^ 64 := by
                have h3 : 2 ^ m ≤ 2 ^ 32 := Nat.pow_le_pow_right (by decide) (by omega)
                have h4 : X < 2 ^ 32 := Nat.lt_of_lt_of_le hlt (Nat.pow_le_pow_right (by decide) hk32)
                exact Nat.lt_of_le_of_lt (Nat.mul_le_mul_left _ h3) (Nat.lt_of_lt_of_le (Nat.mul_lt_mul_of_pos_right h4 (by decide)) (by decide))
              rw [Nat.mod_eq_of_lt h5] at hf' ⊢
              rw [Nat.mod_eq_of_lt hf']
          · cases h
        · split at h
          · rename_i hnk
            cases h
            simp only [AC.den, binOp, Op.shift, show ¬ n < 0 by omega, if_false, Sem.run_pure, Nat.min_eq_left hnk]
            congr 2
            rw [mkShr_den, BitVec.toNat_ushiftRight, Nat.shiftRight_eq_div_pow, Int.fdiv_eq_ediv_of_nonneg _ (Int.le_of_lt (Int.pow_pos (by decide)))]
            simp
          · cases h
        · cases h
      · split at h
        · split at h
          · cases h; exact fun _ => rfl
          · cases h
        · split at h
          · cases h; exact fun _ => rfl
          · cases h
        · cases h
    · cases h
  · cases h
end Go.Proofs.YtfilandehjmikaaDoor.Sx
