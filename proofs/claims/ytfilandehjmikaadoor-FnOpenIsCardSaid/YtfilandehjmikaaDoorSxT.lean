/- Words of 64 bits as terms, and smart constructors that keep a normal form of bytes; each is proved to keep the value. No condition. -/
import Derived.WalkKit
namespace Go.Proofs.YtfilandehjmikaaDoor.Sx

inductive T where
  | s (i : Nat)
  | k (n : Nat)
  | xor (a b : T)
  | and (a b : T)
  | or (a b : T)
  | not (a : T)
  | shl (a : T) (n : Nat)
  | shr (a : T) (n : Nat)
  | byte (i : Nat) (a : T)
  | cat (a b c d e f g h : T)
  | ap (f i : Nat) (a b c d e : T)

structure Env where
  wd : Nat → BitVec 64
  ap : Nat → Nat → BitVec 64 → BitVec 64 → BitVec 64 → BitVec 64 → BitVec 64 → BitVec 64
  nm : Nat → Nat
  vl : Nat → Value
  row : Nat → List Value

def byteOf (i : Nat) (x : BitVec 64) : BitVec 64 := (x >>> (8 * (7 - i))) &&& 255#64
def catOf (a b c d e f g h : BitVec 64) : BitVec 64 :=
  (a &&& 255#64) <<< 56 ||| (b &&& 255#64) <<< 48 ||| (c &&& 255#64) <<< 40 ||| (d &&& 255#64) <<< 32 |||
  (e &&& 255#64) <<< 24 ||| (f &&& 255#64) <<< 16 ||| (g &&& 255#64) <<< 8 ||| (h &&& 255#64)

def T.den (E : Env) : T → BitVec 64
  | .s i => E.wd i
  | .k n => BitVec.ofNat 64 n
  | .xor a b => a.den E ^^^ b.den E
  | .and a b => a.den E &&& b.den E
  | .or a b => a.den E ||| b.den E
  | .not a => ~~~ a.den E
  | .shl a n => a.den E <<< n
  | .shr a n => a.den E >>> n
  | .byte i a => byteOf i (a.den E)
  | .cat a b c d e f g h => catOf (a.den E) (b.den E) (c.den E) (d.den E) (e.den E) (f.den E) (g.den E) (h.den E)
  | .ap f i a b c d e => E.ap f i (a.den E) (b.den E) (c.den E) (d.den E) (e.den E)

theorem bit255 (j : Nat) : (255#64).getLsbD j = decide (j < 8) := by
  rcases Nat.lt_or_ge j 8 with h | h
  · match j, h with
    | 0, _ | 1, _ | 2, _ | 3, _ | 4, _ | 5, _ | 6, _ | 7, _ => rfl
  · rw [decide_eq_false (by omega)]
    exact BitVec.getLsbD_of_ge' _ h
where
  BitVec.getLsbD_of_ge' (j : Nat) (h : 8 ≤ j) : (255#64).getLsbD j = false := by
    rw [BitVec.getLsbD_ofNat]
    have : Nat.testBit 255 j = false := Nat.testBit_lt_two_pow (Nat.lt_of_lt_of_le (by decide : 255 < 2 ^ 8) (Nat.pow_le_pow_right (by decide) h))
    simp [this]

theorem byteOf_bit (i : Nat) (x : BitVec 64) (j : Nat) : (byteOf i x).getLsbD j = (decide (j < 8) && x.getLsbD (8 * (7 - i) + j)) := by
  unfold byteOf
  rw [BitVec.getLsbD_and, bit255, BitVec.getLsbD_ushiftRight, Bool.and_comm]

def sel8 {α : Type} (a b c d e f g h : α) : Nat → α
  | 0 => a | 1 => b | 2 => c | 3 => d | 4 => e | 5 => f | 6 => g | _ => h

theorem shl_bit (x : BitVec 64) (n j : Nat) (hj : j < 64) : ((x &&& 255#64) <<< n).getLsbD j = (decide (n ≤ j) && decide (j < n + 8) && x.getLsbD (j - n)) := by
  rw [BitVec.getLsbD_shiftLeft, BitVec.getLsbD_and, bit255]
  by_cases h1 : j < n
  · simp [h1, hj]; omega
  · have h2 : n ≤ j := by omega
    simp only [hj, h1, h2, decide_true, decide_false, Bool.not_false, Bool.true_and, Bool.and_comm]
    congr 2
    simp; omega

theorem catOf_bit (a b c d e f g h : BitVec 64) (j : Nat) (hj : j < 64) : (catOf a b c d e f g h).getLsbD j = (sel8 a b c d e f g h (7 - j / 8)).getLsbD (j % 8) := by
  unfold catOf
  simp only [BitVec.getLsbD_or, shl_bit _ _ _ hj, BitVec.getLsbD_and, bit255]
  have hq : j / 8 = 0 ∨ j / 8 = 1 ∨ j / 8 = 2 ∨ j / 8 = 3 ∨ j / 8 = 4 ∨ j / 8 = 5 ∨ j / 8 = 6 ∨ j / 8 = 7 := by omega
  rcases hq with hq | hq | hq | hq | hq | hq | hq | hq <;> rw [hq] <;> simp only [sel8]
  · have : j % 8 = j := by omega
    rw [this]
    simp [show j < 8 by omega, show ¬ 8 ≤ j by omega, show ¬ 16 ≤ j by omega, show ¬ 24 ≤ j by omega, show ¬ 32 ≤ j by omega, show ¬ 40 ≤ j by omega, show ¬ 48 ≤ j by omega, show ¬ 56 ≤ j by omega]
  · have : j - 8 = j % 8 := by omega
    simp [this, show ¬ j < 8 by omega, show 8 ≤ j by omega, show j < 16 by omega, show ¬ 16 ≤ j by omega, show ¬ 24 ≤ j by omega, show ¬ 32 ≤ j by omega, show ¬ 40 ≤ j by omega, show ¬ 48 ≤ j by omega, show ¬ 56 ≤ j by omega]
  · have : j - 16 = j % 8 := by omega
    simp [this, show ¬ j < 8 by omega, show ¬ j < 16 by omega, show 16 ≤ j by omega, show j < 24 by omega, show ¬ 24 ≤ j by omega, show ¬ 32 ≤ j by omega, show ¬ 40 ≤ j by omega, show ¬ 48 ≤ j by omega, show ¬ 56 ≤ j by omega]
  · have : j - 24 = j % 8 := by omega
    simp [this, show ¬ j < 8 by omega, show ¬ j < 16 by omega, show ¬ j < 24 by omega, show 24 ≤ j by omega, show j < 32 by omega, show ¬ 32 ≤ j by omega, show ¬ 40 ≤ j by omega, show ¬ 48 ≤ j by omega, show ¬ 56 ≤ j by omega]
  · have : j - 32 = j % 8 := by omega
    simp [this, show ¬ j < 8 by omega, show ¬ j < 16 by omega, show ¬ j < 24 by omega, show ¬ j < 32 by omega, show 32 ≤ j by omega, show j < 40 by omega, show ¬ 40 ≤ j by omega, show ¬ 48 ≤ j by omega, show ¬ 56 ≤ j by omega]
  · have : j - 40 = j % 8 := by omega
    simp [this, show ¬ j < 8 by omega, show ¬ j < 16 by omega, show ¬ j < 24 by omega, show ¬ j < 32 by omega, show ¬ j < 40 by omega, show 40 ≤ j by omega, show j < 48 by omega, show ¬ 48 ≤ j by omega, show ¬ 56 ≤ j by omega]
  · have : j - 48 = j % 8 := by omega
    simp [this, show ¬ j < 8 by omega, show ¬ j < 16 by omega, show ¬ j < 24 by omega, show ¬ j < 32 by omega, show ¬ j < 40 by omega, show ¬ j < 48 by omega, show 48 ≤ j by omega, show j < 56 by omega, show ¬ 56 ≤ j by omega]
  · have : j - 56 = j % 8 := by omega
    simp [this, show ¬ j < 8 by omega, show ¬ j < 16 by omega, show ¬ j < 24 by omega, show ¬ j < 32 by omega, show ¬ j < 40 by omega, show ¬ j < 48 by omega, show ¬ j < 56 by omega, show 56 ≤ j by omega, hj]

/-! ### equality, bytes -/
def T.beq : T → T → Bool
  | .s i, .s j => Nat.beq i j
  | .k i, .k j => Nat.beq i j
  | .xor a b, .xor c d => a.beq c && b.beq d
  | .and a b, .and c d => a.beq c && b.beq d
  | .or a b, .or c d => a.beq c && b.beq d
  | .not a, .not c => a.beq c
  | .shl a n, .shl c m => Nat.beq n m && a.beq c
  | .shr a n, .shr c m => Nat.beq n m && a.beq c
  | .byte i a, .byte j c => Nat.beq i j && a.beq c
  | .cat a b c d e f g h, .cat a' b' c' d' e' f' g' h' => a.beq a' && b.beq b' && c.beq c' && d.beq d' && e.beq e' && f.beq f' && g.beq g' && h.beq h'
  | .ap f i a b c d e, .ap f' i' a' b' c' d' e' => Nat.beq f f' && Nat.beq i i' && a.beq a' && b.beq b' && c.beq c' && d.beq d' && e.beq e'
  | _, _ => false

theorem T.beq_eq : ∀ {a b : T}, a.beq b = true → a = b := by
  intro a
  induction a with
  | s i => intro b h; cases b <;> simp [T.beq] at h; rw [h]
  | k i => intro b h; cases b <;> simp [T.beq] at h; rw [h]
  | xor a b iha ihb => intro x h; cases x <;> simp [T.beq] at h; rw [iha h.1, ihb h.2]
  | and a b iha ihb => intro x h; cases x <;> simp [T.beq] at h; rw [iha h.1, ihb h.2]
  | or a b iha ihb => intro x h; cases x <;> simp [T.beq] at h; rw [iha h.1, ihb h.2]
  | not a iha => intro x h; cases x <;> simp [T.beq] at h; rw [iha h]
  | shl a n iha => intro x h; cases x <;> simp [T.beq] at h; rw [h.1, iha h.2]
  | shr a n iha => intro x h; cases x <;> simp [T.beq] at h; rw [h.1, iha h.2]
  | byte i a iha => intro x h; cases x <;> simp [T.beq] at h; rw [h.1, iha h.2]
  | cat a b c d e f g h i1 i2 i3 i4 i5 i6 i7 i8 =>
    intro x hh
    cases x <;> simp [T.beq] at hh
    obtain ⟨⟨⟨⟨⟨⟨⟨h1, h2⟩, h3⟩, h4⟩, h5⟩, h6⟩, h7⟩, h8⟩ := hh
    rw [i1 h1, i2 h2, i3 h3, i4 h4, i5 h5, i6 h6, i7 h7, i8 h8]
  | ap f i a b c d e i1 i2 i3 i4 i5 =>
    intro x hh
    cases x <;> simp [T.beq] at hh
    obtain ⟨⟨⟨⟨⟨⟨h1, h2⟩, h3⟩, h4⟩, h5⟩, h6⟩, h7⟩ := hh
    rw [h1, h2, i1 h3, i2 h4, i3 h5, i4 h6, i5 h7]

def T.isB : T → Bool
  | .k n => Nat.blt n 256
  | .byte _ _ => true
  | .xor a b => a.isB && b.isB
  | .or a b => a.isB && b.isB
  | .and a b => a.isB || b.isB
  | _ => false

theorem T.isB_bit (E : Env) : ∀ {t : T}, t.isB = true → ∀ j, 8 ≤ j → (t.den E).getLsbD j = false := by
  intro t
  induction t with
  | k n =>
    intro h j hj
    have hn : n < 256 := by simpa [T.isB] using h
    simp only [T.den, BitVec.getLsbD_ofNat]
    have : Nat.testBit n j = false := Nat.testBit_lt_two_pow (Nat.lt_of_lt_of_le (by omega : n < 2 ^ 8) (Nat.pow_le_pow_right (by decide) hj))
    simp [this]
  | byte i a _ =>
    intro _ j hj
    simp only [T.den, byteOf_bit, decide_eq_false (show ¬ j < 8 by omega), Bool.false_and]
  | xor a b iha ihb =>
    intro h j hj
    simp only [T.isB, Bool.and_eq_true] at h
    simp only [T.den, BitVec.getLsbD_xor, iha h.1 j hj, ihb h.2 j hj, Bool.xor_false]
  | or a b iha ihb =>
    intro h j hj
    simp only [T.isB, Bool.and_eq_true] at h
    simp only [T.den, BitVec.getLsbD_or, iha h.1 j hj, ihb h.2 j hj, Bool.or_false]
  | and a b iha ihb =>
    intro h j hj
    simp only [T.isB, Bool.or_eq_true] at h
    simp only [T.den, BitVec.getLsbD_and]
    rcases h with h | h
    · rw [iha h j hj, Bool.false_and]
    · rw [ihb h j hj, Bool.and_false]
  | s => intro h; cases h
  | not => intro h; cases h
  | shl => intro h; cases h
  | shr => intro h; cases h
  | cat => intro h; cases h
  | ap => intro h; cases h

theorem bv_ext {x y : BitVec 64} (h : ∀ j, j < 64 → x.getLsbD j = y.getLsbD j) : x = y := BitVec.eq_of_getLsbD_eq h
theorem byteOf_isB (E : Env) {t : T} (h : t.isB = true) : byteOf 7 (t.den E) = t.den E := bv_ext fun j hj => by
  rw [byteOf_bit]
  by_cases h8 : j < 8
  · simp [h8]
  · rw [T.isB_bit E h j (by omega)]; simp [h8]
theorem byteOf_isB0 (E : Env) {t : T} (h : t.isB = true) (i : Nat) (hi : i < 7) : byteOf i (t.den E) = 0#64 := bv_ext fun j hj => by
  rw [byteOf_bit, T.isB_bit E h _ (by omega)]; simp
theorem byteOf_xor (i : Nat) (x y : BitVec 64) : byteOf i (x ^^^ y) = byteOf i x ^^^ byteOf i y := bv_ext fun j _ => by
  simp only [byteOf_bit, BitVec.getLsbD_xor]
  cases decide (j < 8) <;> simp
theorem byteOf_byteOf (i k : Nat) (hi : i ≤ 7) (x : BitVec 64) : byteOf i (byteOf k x) = if i = 7 then byteOf k x else 0#64 := bv_ext fun j hj => by
  rw [byteOf_bit, byteOf_bit]
  split
  · subst i; rw [byteOf_bit]; by_cases h : j < 8 <;> simp [h]
  · simp; omega
theorem byteOf_shr (i m : Nat) (hi : i ≤ 7) (x : BitVec 64) (hm : m % 8 = 0) : byteOf i (x >>> m) = if m / 8 ≤ i then byteOf (i - m / 8) x else 0#64 := bv_ext fun j hj => by
  rw [byteOf_bit, BitVec.getLsbD_ushiftRight]
  split
  · rw [byteOf_bit]; congr 2; omega
  · rw [BitVec.getLsbD_of_ge _ _ (by omega)]; simp
theorem byteOf_cat (i : Nat) (hi : i ≤ 7) (a b c d e f g h : BitVec 64) : byteOf i (catOf a b c d e f g h) = byteOf 7 (sel8 a b c d e f g h i) := bv_ext fun j hj => by
  rw [byteOf_bit, byteOf_bit]
  by_cases h8 : j < 8
  · rw [catOf_bit _ _ _ _ _ _ _ _ _ (by omega), show 7 - (8 * (7 - i) + j) / 8 = i by omega, show (8 * (7 - i) + j) % 8 = j by omega]
    simp
  · simp [h8]
theorem sel8_low (a b c d e f g h : BitVec 64) (i : Nat) : sel8 (byteOf 7 a) (byteOf 7 b) (byteOf 7 c) (byteOf 7 d) (byteOf 7 e) (byteOf 7 f) (byteOf 7 g) (byteOf 7 h) i = byteOf 7 (sel8 a b c d e f g h i) := by
  unfold sel8; split <;> rfl
theorem sel8_self (x : BitVec 64) (i : Nat) (hi : i ≤ 7) : sel8 (byteOf 0 x) (byteOf 1 x) (byteOf 2 x) (byteOf 3 x) (byteOf 4 x) (byteOf 5 x) (byteOf 6 x) (byteOf 7 x) i = byteOf i x := by
  match i, hi with
  | 0, _ | 1, _ | 2, _ | 3, _ | 4, _ | 5, _ | 6, _ | 7, _ => rfl
theorem catOf_byte (a b c d e f g h : BitVec 64) : catOf (byteOf 7 a) (byteOf 7 b) (byteOf 7 c) (byteOf 7 d) (byteOf 7 e) (byteOf 7 f) (byteOf 7 g) (byteOf 7 h) = catOf a b c d e f g h := bv_ext fun j hj => by
  have h8 : j % 8 < 8 := Nat.mod_lt _ (by decide)
  rw [catOf_bit _ _ _ _ _ _ _ _ _ hj, catOf_bit _ _ _ _ _ _ _ _ _ hj, sel8_low, byteOf_bit]
  simp [h8]
theorem catOf_self (x : BitVec 64) : catOf (byteOf 0 x) (byteOf 1 x) (byteOf 2 x) (byteOf 3 x) (byteOf 4 x) (byteOf 5 x) (byteOf 6 x) (byteOf 7 x) = x := bv_ext fun j hj => by
  have h8 : j % 8 < 8 := Nat.mod_lt _ (by decide)
  rw [catOf_bit _ _ _ _ _ _ _ _ _ hj, sel8_self _ _ (by omega), byteOf_bit]
  simp only [h8, decide_true, Bool.true_and]
  congr 1; omega
theorem catOf_xor (a b c d e f g h a' b' c' d' e' f' g' h' : BitVec 64) :
    catOf (a ^^^ a') (b ^^^ b') (c ^^^ c') (d ^^^ d') (e ^^^ e') (f ^^^ f') (g ^^^ g') (h ^^^ h') = catOf a b c d e f g h ^^^ catOf a' b' c' d' e' f' g' h' := bv_ext fun j hj => by
  rw [BitVec.getLsbD_xor, catOf_bit _ _ _ _ _ _ _ _ _ hj, catOf_bit _ _ _ _ _ _ _ _ _ hj, catOf_bit _ _ _ _ _ _ _ _ _ hj, ← BitVec.getLsbD_xor]
  congr 1
  have hq : j / 8 = 0 ∨ j / 8 = 1 ∨ j / 8 = 2 ∨ j / 8 = 3 ∨ j / 8 = 4 ∨ j / 8 = 5 ∨ j / 8 = 6 ∨ j / 8 = 7 := by omega
  rcases hq with hq | hq | hq | hq | hq | hq | hq | hq <;> rw [hq] <;> rfl
theorem catOf_or (a b c d e f g h a' b' c' d' e' f' g' h' : BitVec 64) :
    catOf (a ||| a') (b ||| b') (c ||| c') (d ||| d') (e ||| e') (f ||| f') (g ||| g') (h ||| h') = catOf a b c d e f g h ||| catOf a' b' c' d' e' f' g' h' := bv_ext fun j hj => by
  rw [BitVec.getLsbD_or, catOf_bit _ _ _ _ _ _ _ _ _ hj, catOf_bit _ _ _ _ _ _ _ _ _ hj, catOf_bit _ _ _ _ _ _ _ _ _ hj, ← BitVec.getLsbD_or]
  congr 1
  have hq : j / 8 = 0 ∨ j / 8 = 1 ∨ j / 8 = 2 ∨ j / 8 = 3 ∨ j / 8 = 4 ∨ j / 8 = 5 ∨ j / 8 = 6 ∨ j / 8 = 7 := by omega
  rcases hq with hq | hq | hq | hq | hq | hq | hq | hq <;> rw [hq] <;> rfl

/-! ### smart constructors -/
theorem ofNat_toNat' (x : BitVec 64) : BitVec.ofNat 64 x.toNat = x := by simp

def mkXorL (a b : T) : T :=
  match a with
  | .xor c d => if b.beq c then d else if b.beq d then c else .xor a b
  | _ => .xor a b
theorem xor_l (x y : BitVec 64) : x ^^^ y ^^^ x = y := bv_ext fun j _ => by simp only [BitVec.getLsbD_xor]; cases x.getLsbD j <;> cases y.getLsbD j <;> rfl
theorem xor_r (x y : BitVec 64) : x ^^^ y ^^^ y = x := bv_ext fun j _ => by simp only [BitVec.getLsbD_xor]; cases x.getLsbD j <;> cases y.getLsbD j <;> rfl
theorem xor_l' (x y : BitVec 64) : x ^^^ (x ^^^ y) = y := bv_ext fun j _ => by simp only [BitVec.getLsbD_xor]; cases x.getLsbD j <;> cases y.getLsbD j <;> rfl
theorem xor_r' (x y : BitVec 64) : x ^^^ (y ^^^ x) = y := bv_ext fun j _ => by simp only [BitVec.getLsbD_xor]; cases x.getLsbD j <;> cases y.getLsbD j <;> rfl
theorem mkXorL_den (E : Env) (a b : T) : (mkXorL a b).den E = a.den E ^^^ b.den E := by
  unfold mkXorL
  split
  · split
    · rename_i h; rw [T.beq_eq h]; simp only [T.den, xor_l]
    · split
      · rename_i h; rw [T.beq_eq h]; simp only [T.den, xor_r]
      · rfl
  · rfl
def T.isZ : T → Bool
  | .k n => Nat.beq n 0
  | _ => false
theorem T.isZ_den (E : Env) {t : T} (h : t.isZ = true) : t.den E = 0#64 := by
  cases t <;> simp [T.isZ] at h
  subst h; rfl
def mkXorR (a b : T) : T :=
  match b with
  | .xor c d => if a.beq c then d else if a.beq d then c else mkXorL a b
  | _ => mkXorL a b
theorem mkXorR_den (E : Env) (a b : T) : (mkXorR a b).den E = a.den E ^^^ b.den E := by
  unfold mkXorR
  split
  · split
    · rename_i h; rw [T.beq_eq h]; simp only [T.den, xor_l']
    · split
      · rename_i h; rw [T.beq_eq h]; simp only [T.den, xor_r']
      · rw [mkXorL_den]
  · rw [mkXorL_den]
def mkXor1 (a b : T) : T :=
  if a.isZ then b else if b.isZ then a else
  match a, b with
  | .k m, .k n => .k (BitVec.ofNat 64 m ^^^ BitVec.ofNat 64 n).toNat
  | a, b => if a.beq b then .k 0 else mkXorR a b
theorem mkXor1_den (E : Env) (a b : T) : (mkXor1 a b).den E = a.den E ^^^ b.den E := by
  unfold mkXor1
  split
  · rename_i h; rw [T.isZ_den E h]; simp
  · split
    · rename_i h; rw [T.isZ_den E h]; simp
    · split
      · simp only [T.den, ofNat_toNat']
      · split
        · rename_i h; rw [T.beq_eq h]; simp [T.den]
        · rw [mkXorR_den]

def lowB (t : T) : T := if t.isB then t else .byte 7 t
theorem lowB_den (E : Env) (t : T) : (lowB t).den E = byteOf 7 (t.den E) := by
  unfold lowB
  split
  · rename_i h; rw [byteOf_isB E h]
  · rfl
def mkByteD (t : T) (i : Nat) : T := if t.isB then (if i = 7 then t else .k 0) else .byte i t
theorem mkByteD_den (E : Env) (t : T) (i : Nat) (hi : i ≤ 7) : (mkByteD t i).den E = byteOf i (t.den E) := by
  unfold mkByteD
  split
  · rename_i h
    split
    · rename_i h7; subst h7; rw [byteOf_isB E h]
    · rw [byteOf_isB0 E h i (by omega)]; rfl
  · rfl
def mkByte : T → Nat → T
  | .cat a b c d e f g h, i => lowB (sel8 a b c d e f g h i)
  | .xor a b, i => mkXor1 (mkByte a i) (mkByte b i)
  | .k n, i => .k (byteOf i (BitVec.ofNat 64 n)).toNat
  | .shr a m, i => if m % 8 = 0 then (if m / 8 ≤ i then mkByte a (i - m / 8) else .k 0) else .byte i (.shr a m)
  | t, i => mkByteD t i
theorem sel8_den (E : Env) (a b c d e f g h : T) (i : Nat) : (sel8 a b c d e f g h i).den E = sel8 (a.den E) (b.den E) (c.den E) (d.den E) (e.den E) (f.den E) (g.den E) (h.den E) i := by
  unfold sel8; split <;> rfl
theorem mkByte_den (E : Env) : ∀ (t : T) (i : Nat), i ≤ 7 → (mkByte t i).den E = byteOf i (t.den E) := by
  intro t
  induction t with
  | cat a b c d e f g h => intro i hi; simp only [mkByte, lowB_den, sel8_den, T.den]; rw [byteOf_cat _ hi]
  | xor a b iha ihb => intro i hi; simp only [mkByte, mkXor1_den, iha i hi, ihb i hi, T.den, byteOf_xor]
  | k n => intro i hi; simp only [mkByte, T.den, ofNat_toNat']
  | shr a m iha =>
    intro i hi
    simp only [mkByte]
    split
    · rename_i hm
      simp only [T.den]
      rw [byteOf_shr i m hi _ hm]
      split
      · exact iha _ (by omega)
      · rfl
    · rfl
  | s => intro i hi; exact mkByteD_den E _ i hi
  | and => intro i hi; exact mkByteD_den E _ i hi
  | or => intro i hi; exact mkByteD_den E _ i hi
  | not => intro i hi; exact mkByteD_den E _ i hi
  | shl => intro i hi; exact mkByteD_den E _ i hi
  | byte => intro i hi; exact mkByteD_den E _ i hi
  | ap => intro i hi; exact mkByteD_den E _ i hi

structure C8 where
  a : T
  b : T
  c : T
  d : T
  e : T
  f : T
  g : T
  h : T
def C8.den (E : Env) (x : C8) : BitVec 64 := catOf (x.a.den E) (x.b.den E) (x.c.den E) (x.d.den E) (x.e.den E) (x.f.den E) (x.g.den E) (x.h.den E)
def T.isK : T → Bool
  | .k _ => true
  | _ => false
def T.num : T → Nat
  | .k n => n
  | _ => 0
theorem T.isK_den (E : Env) {t : T} (h : t.isK = true) : t.den E = BitVec.ofNat 64 t.num := by cases t <;> simp [T.isK] at h; rfl
def C8.plain (x : C8) : T :=
  if x.a.isK && x.b.isK && x.c.isK && x.d.isK && x.e.isK && x.f.isK && x.g.isK && x.h.isK then
    .k (catOf (BitVec.ofNat 64 x.a.num) (BitVec.ofNat 64 x.b.num) (BitVec.ofNat 64 x.c.num) (BitVec.ofNat 64 x.d.num) (BitVec.ofNat 64 x.e.num) (BitVec.ofNat 64 x.f.num) (BitVec.ofNat 64 x.g.num) (BitVec.ofNat 64 x.h.num)).toNat
  else .cat x.a x.b x.c x.d x.e x.f x.g x.h
theorem C8.plain_den (E : Env) (x : C8) : x.plain.den E = x.den E := by
  unfold C8.plain
  split
  · rename_i h
    simp only [Bool.and_eq_true] at h
    obtain ⟨⟨⟨⟨⟨⟨⟨h1, h2⟩, h3⟩, h4⟩, h5⟩, h6⟩, h7⟩, h8⟩ := h
    simp only [T.den, ofNat_toNat', C8.den, T.isK_den E h1, T.isK_den E h2, T.isK_den E h3, T.isK_den E h4, T.isK_den E h5, T.isK_den E h6, T.isK_den E h7, T.isK_den E h8]
  · rfl
/-- 't' is byte number 'i' of 'w', with something added: what is added. -/
def splitW (w : T) (i : Nat) (t : T) : Option T :=
  match t with
  | .byte j v => if Nat.beq i j && w.beq v then some (.k 0) else none
  | .xor p q => if (T.byte i w).beq p then some q else if (T.byte i w).beq q then some p else none
  | _ => none
theorem splitW_den (E : Env) {w t b : T} {i : Nat} (h : splitW w i t = some b) : t.den E = byteOf i (w.den E) ^^^ b.den E := by
  unfold splitW at h
  split at h
  · split at h
    · rename_i hc
      simp only [Bool.and_eq_true] at hc
      obtain ⟨h1, h2⟩ := hc
      have h1' := Nat.eq_of_beq_eq_true h1
      have h2' := T.beq_eq h2
      cases h; subst h1'; subst h2'
      simp [T.den]
    · cases h
  · split at h
    · rename_i hc; have := T.beq_eq hc; cases h; subst this; rfl
    · split at h
      · rename_i hc; have := T.beq_eq hc; cases h; subst this; simp only [T.den]; rw [BitVec.xor_comm]
      · cases h
  · cases h
/-- The words of which 't' may be the first byte. -/
def heads (t : T) : List T :=
  match t with
  | .byte 0 w => [w]
  | .xor (.byte 0 w) (.byte 0 v) => [w, v]
  | .xor (.byte 0 w) _ => [w]
  | .xor _ (.byte 0 w) => [w]
  | _ => []
def C8.over (x : C8) (w : T) : Option C8 :=
  match splitW w 0 x.a, splitW w 1 x.b, splitW w 2 x.c, splitW w 3 x.d, splitW w 4 x.e, splitW w 5 x.f, splitW w 6 x.g, splitW w 7 x.h with
  | some a, some b, some c, some d, some e, some f, some g, some h => some ⟨a, b, c, d, e, f, g, h⟩
  | _, _, _, _, _, _, _, _ => none
theorem C8.over_den (E : Env) {x y : C8} {w : T} (h : x.over w = some y) : x.den E = w.den E ^^^ y.den E := by
  unfold C8.over at h
  split at h
  · rename_i h1 h2 h3 h4 h5 h6 h7 h8
    cases h
    simp only [C8.den, splitW_den E h1, splitW_den E h2, splitW_den E h3, splitW_den E h4, splitW_den E h5, splitW_den E h6, splitW_den E h7, splitW_den E h8, catOf_xor, catOf_self]
  · cases h
def C8.tryAll (x : C8) : List T → T
  | [] => x.plain
  | w :: l => match x.over w with
    | some y => mkXor1 w y.plain
    | none => x.tryAll l
theorem C8.tryAll_den (E : Env) (x : C8) : ∀ l, (x.tryAll l).den E = x.den E
  | [] => x.plain_den E
  | w :: l => by
    unfold C8.tryAll
    split
    · rename_i y h; rw [mkXor1_den, C8.plain_den, C8.over_den E h]
    · exact C8.tryAll_den E x l
def mkCat (x : C8) : T := x.tryAll (heads x.a)
theorem mkCat_den (E : Env) (x : C8) : (mkCat x).den E = x.den E := x.tryAll_den E _

def T.asCat : T → Option C8
  | .cat a b c d e f g h => some ⟨a, b, c, d, e, f, g, h⟩
  | .k n => some ⟨.k (byteOf 0 (BitVec.ofNat 64 n)).toNat, .k (byteOf 1 (BitVec.ofNat 64 n)).toNat, .k (byteOf 2 (BitVec.ofNat 64 n)).toNat, .k (byteOf 3 (BitVec.ofNat 64 n)).toNat,
      .k (byteOf 4 (BitVec.ofNat 64 n)).toNat, .k (byteOf 5 (BitVec.ofNat 64 n)).toNat, .k (byteOf 6 (BitVec.ofNat 64 n)).toNat, .k (byteOf 7 (BitVec.ofNat 64 n)).toNat⟩
  | t => if t.isB then some ⟨.k 0, .k 0, .k 0, .k 0, .k 0, .k 0, .k 0, t⟩ else none
theorem catOf_low (x : BitVec 64) (h : byteOf 7 x = x) : catOf 0#64 0#64 0#64 0#64 0#64 0#64 0#64 x = x := by
  conv => rhs; rw [← h]
  unfold catOf byteOf
  simp
theorem T.asCat_isB (E : Env) {t : T} {x : C8} (h : (if t.isB then some (⟨.k 0, .k 0, .k 0, .k 0, .k 0, .k 0, .k 0, t⟩ : C8) else none) = some x) : x.den E = t.den E := by
  split at h
  · rename_i hb; cases h; exact catOf_low _ (byteOf_isB E hb)
  · cases h
theorem T.asCat_den (E : Env) {t : T} {x : C8} (h : t.asCat = some x) : x.den E = t.den E := by
  unfold T.asCat at h
  split at h
  · cases h; rfl
  · cases h; simp only [C8.den, T.den, ofNat_toNat', catOf_self]
  · exact T.asCat_isB E h
def orAt (p q : T) : Option T := if p.isZ then some q else if q.isZ then some p else none
theorem orAt_den (E : Env) {p q r : T} (h : orAt p q = some r) : r.den E = p.den E ||| q.den E := by
  unfold orAt at h
  split at h
  · rename_i hz; cases h; rw [T.isZ_den E hz]; simp
  · split at h
    · rename_i hz; cases h; rw [T.isZ_den E hz]; simp
    · cases h
def C8.or (x y : C8) : Option C8 :=
  match orAt x.a y.a, orAt x.b y.b, orAt x.c y.c, orAt x.d y.d, orAt x.e y.e, orAt x.f y.f, orAt x.g y.g, orAt x.h y.h with
  | some a, some b, some c, some d, some e, some f, some g, some h => some ⟨a, b, c, d, e, f, g, h⟩
  | _, _, _, _, _, _, _, _ => none
theorem C8.or_den (E : Env) {x y z : C8} (h : x.or y = some z) : z.den E = x.den E ||| y.den E := by
  unfold C8.or at h
  split at h
  · rename_i h1 h2 h3 h4 h5 h6 h7 h8
    cases h
    simp only [C8.den, orAt_den E h1, orAt_den E h2, orAt_den E h3, orAt_den E h4, orAt_den E h5, orAt_den E h6, orAt_den E h7, orAt_den E h8, catOf_or]
  · cases h
/-- A word turned reads 'to the left, or to the right', in this order. -/
def mkOrD (a b : T) : T :=
  match a, b with
  | .shr x n, .shl y k => .or (.shl y k) (.shr x n)
  | a, b => .or a b
theorem mkOrD_den (E : Env) (a b : T) : (mkOrD a b).den E = a.den E ||| b.den E := by
  unfold mkOrD
  split
  · simp only [T.den]; rw [BitVec.or_comm]
  · rfl
def mkOr (a b : T) : T :=
  if a.isZ then b else if b.isZ then a else
  match a.asCat, b.asCat with
  | some x, some y => match x.or y with
    | some z => mkCat z
    | none => mkOrD a b
  | _, _ => mkOrD a b
theorem mkOr_den (E : Env) (a b : T) : (mkOr a b).den E = a.den E ||| b.den E := by
  unfold mkOr
  split
  · rename_i h; rw [T.isZ_den E h]; simp
  · split
    · rename_i h; rw [T.isZ_den E h]; simp
    · split
      · rename_i h1 h2
        split
        · rename_i h3
          rw [mkCat_den, C8.or_den E h3, T.asCat_den E h1, T.asCat_den E h2]
        · exact mkOrD_den E a b
      · exact mkOrD_den E a b
def C8.xor (x y : C8) : C8 := ⟨mkXor1 x.a y.a, mkXor1 x.b y.b, mkXor1 x.c y.c, mkXor1 x.d y.d, mkXor1 x.e y.e, mkXor1 x.f y.f, mkXor1 x.g y.g, mkXor1 x.h y.h⟩
theorem C8.xor_den (E : Env) (x y : C8) : (x.xor y).den E = x.den E ^^^ y.den E := by
  simp only [C8.den, C8.xor, mkXor1_den, catOf_xor]
def T.isC : T → Bool
  | .cat .. => true
  | .k _ => true
  | _ => false
/-- A word's part that is opaque, and its part that is made of bytes. -/
def T.parts (t : T) : T × T :=
  match t with
  | .cat .. => (.k 0, t)
  | .k _ => (.k 0, t)
  | .xor w c => if c.isC then (w, c) else (t, .k 0)
  | _ => (t, .k 0)
theorem T.parts_den (E : Env) (t : T) : t.parts.1.den E ^^^ t.parts.2.den E = t.den E := by
  unfold T.parts
  split
  · simp [T.den]
  · simp [T.den]
  · split
    · rfl
    · simp [T.den]
  · simp [T.den]
def xorC (a b : T) : T :=
  if a.isZ then b else if b.isZ then a else
  match a.asCat, b.asCat with
  | some x, some y => mkCat (x.xor y)
  | _, _ => mkXor1 a b
theorem xorC_den (E : Env) (a b : T) : (xorC a b).den E = a.den E ^^^ b.den E := by
  unfold xorC
  split
  · rename_i h; rw [T.isZ_den E h]; simp
  · split
    · rename_i h; rw [T.isZ_den E h]; simp
    · split
      · rename_i h1 h2
        rw [mkCat_den, C8.xor_den, T.asCat_den E h1, T.asCat_den E h2]
      · rw [mkXor1_den]
def mkXor (a b : T) : T := mkXor1 (mkXor1 a.parts.1 b.parts.1) (xorC a.parts.2 b.parts.2)
theorem mkXor_den (E : Env) (a b : T) : (mkXor a b).den E = a.den E ^^^ b.den E := by
  unfold mkXor
  rw [mkXor1_den, mkXor1_den, xorC_den]
  conv => rhs; rw [← T.parts_den E a, ← T.parts_den E b]
  generalize a.parts.1.den E = p
  generalize a.parts.2.den E = q
  generalize b.parts.1.den E = r
  generalize b.parts.2.den E = s
  exact bv_ext fun j _ => by simp only [BitVec.getLsbD_xor]; cases p.getLsbD j <;> cases q.getLsbD j <;> cases r.getLsbD j <;> cases s.getLsbD j <;> rfl

def mkNot (a : T) : T :=
  match a with
  | .k n => .k (~~~ BitVec.ofNat 64 n).toNat
  | a => .not a
theorem mkNot_den (E : Env) (a : T) : (mkNot a).den E = ~~~ a.den E := by
  unfold mkNot
  split
  · simp only [T.den, ofNat_toNat']
  · rfl
def at8 (i : Nat) (t : T) : C8 :=
  match i with
  | 0 => ⟨t, .k 0, .k 0, .k 0, .k 0, .k 0, .k 0, .k 0⟩
  | 1 => ⟨.k 0, t, .k 0, .k 0, .k 0, .k 0, .k 0, .k 0⟩
  | 2 => ⟨.k 0, .k 0, t, .k 0, .k 0, .k 0, .k 0, .k 0⟩
  | 3 => ⟨.k 0, .k 0, .k 0, t, .k 0, .k 0, .k 0, .k 0⟩
  | 4 => ⟨.k 0, .k 0, .k 0, .k 0, t, .k 0, .k 0, .k 0⟩
  | 5 => ⟨.k 0, .k 0, .k 0, .k 0, .k 0, t, .k 0, .k 0⟩
  | 6 => ⟨.k 0, .k 0, .k 0, .k 0, .k 0, .k 0, t, .k 0⟩
  | _ => ⟨.k 0, .k 0, .k 0, .k 0, .k 0, .k 0, .k 0, t⟩
theorem at8_den (E : Env) (i : Nat) (hi : i ≤ 7) (t : T) (hb : byteOf 7 (t.den E) = t.den E) : (at8 i t).den E = t.den E <<< (8 * (7 - i)) := by
  have h255 : t.den E &&& 255#64 = t.den E := by
    have := hb; unfold byteOf at this; simpa using this
  have hq : i = 0 ∨ i = 1 ∨ i = 2 ∨ i = 3 ∨ i = 4 ∨ i = 5 ∨ i = 6 ∨ i = 7 := by omega
  rcases hq with rfl | rfl | rfl | rfl | rfl | rfl | rfl | rfl <;> simp [at8, C8.den, T.den, catOf, h255]
def mkShl (a : T) (n : Nat) : T :=
  match a with
  | .k m => .k (BitVec.ofNat 64 m <<< n).toNat
  | a => if a.isB && Nat.beq (n % 8) 0 && Nat.ble n 56 then mkCat (at8 (7 - n / 8) a) else .shl a n
theorem mkShl_den (E : Env) (a : T) (n : Nat) : (mkShl a n).den E = a.den E <<< n := by
  unfold mkShl
  split
  · simp only [T.den, ofNat_toNat']
  · split
    · rename_i h
      simp only [Bool.and_eq_true] at h
      obtain ⟨⟨h1, h2⟩, h3⟩ := h
      have h2' := Nat.eq_of_beq_eq_true h2
      have h3' := Nat.le_of_ble_eq_true h3
      rw [mkCat_den, at8_den E _ (by omega) _ (byteOf_isB E h1)]
      congr 1; omega
    · rfl
def mkShr (a : T) (n : Nat) : T :=
  match a with
  | .k m => .k (BitVec.ofNat 64 m >>> n).toNat
  | a => .shr a n
theorem mkShr_den (E : Env) (a : T) (n : Nat) : (mkShr a n).den E = a.den E >>> n := by
  unfold mkShr
  split
  · simp only [T.den, ofNat_toNat']
  · rfl
/-- The bytes of a mask: all or nothing. -/
def maskAt (a : T) (n i : Nat) : Option T :=
  if Nat.beq (byteOf i (BitVec.ofNat 64 n)).toNat 0 then some (.k 0)
  else if Nat.beq (byteOf i (BitVec.ofNat 64 n)).toNat 255 then some (mkByte a i) else none
theorem byteOf_and (i : Nat) (x y : BitVec 64) : byteOf i (x &&& y) = byteOf i x &&& byteOf i y := bv_ext fun j _ => by
  simp only [byteOf_bit, BitVec.getLsbD_and]
  cases decide (j < 8) <;> simp
theorem byteOf_255 (i : Nat) (x : BitVec 64) : byteOf i x &&& 255#64 = byteOf i x := bv_ext fun j _ => by
  simp only [byteOf_bit, BitVec.getLsbD_and, bit255]
  cases decide (j < 8) <;> simp
theorem maskAt_den (E : Env) {a r : T} {n i : Nat} (hi : i ≤ 7) (h : maskAt a n i = some r) : r.den E = byteOf i (a.den E &&& BitVec.ofNat 64 n) := by
  unfold maskAt at h
  rw [byteOf_and]
  split at h
  · rename_i hz
    have : byteOf i (BitVec.ofNat 64 n) = 0#64 := BitVec.eq_of_toNat_eq (by simpa using Nat.eq_of_beq_eq_true hz)
    cases h; rw [this]; simp [T.den]
  · split at h
    · rename_i hz
      have : byteOf i (BitVec.ofNat 64 n) = 255#64 := BitVec.eq_of_toNat_eq (by simpa using Nat.eq_of_beq_eq_true hz)
      cases h; rw [this, mkByte_den E _ _ hi, byteOf_255]
    · cases h
def mkMask (a : T) (n : Nat) : T :=
  match maskAt a n 0, maskAt a n 1, maskAt a n 2, maskAt a n 3, maskAt a n 4, maskAt a n 5, maskAt a n 6, maskAt a n 7 with
  | some p, some q, some r, some s, some t, some u, some v, some w => mkCat ⟨p, q, r, s, t, u, v, w⟩
  | _, _, _, _, _, _, _, _ => .and a (.k n)
theorem mkMask_den (E : Env) (a : T) (n : Nat) : (mkMask a n).den E = a.den E &&& BitVec.ofNat 64 n := by
  unfold mkMask
  split
  · rename_i h1 h2 h3 h4 h5 h6 h7 h8
    rw [mkCat_den]
    simp only [C8.den, maskAt_den E (by decide) h1, maskAt_den E (by decide) h2, maskAt_den E (by decide) h3, maskAt_den E (by decide) h4, maskAt_den E (by decide) h5,
      maskAt_den E (by decide) h6, maskAt_den E (by decide) h7, maskAt_den E (by decide) h8, catOf_self]
  · rfl
def mkAndK (a : T) (n : Nat) : T :=
  if Nat.beq n 0 then .k 0 else if Nat.beq n 255 then mkByte a 7 else if Nat.beq n 18446744073709551615 then a else mkMask a n
theorem mkAndK_den (E : Env) (a : T) (n : Nat) : (mkAndK a n).den E = a.den E &&& BitVec.ofNat 64 n := by
  unfold mkAndK
  split
  · rename_i h; rw [Nat.eq_of_beq_eq_true h]; simp [T.den]
  · split
    · rename_i h; rw [Nat.eq_of_beq_eq_true h, mkByte_den E _ _ (by decide)]; simp [byteOf]
    · split
      · rename_i h
        rw [Nat.eq_of_beq_eq_true h]
        have : BitVec.ofNat 64 18446744073709551615 = BitVec.allOnes 64 := by decide
        rw [this, BitVec.and_allOnes]
      · exact mkMask_den E a n
def mkAnd (a b : T) : T :=
  match a, b with
  | .k m, .k n => .k (BitVec.ofNat 64 m &&& BitVec.ofNat 64 n).toNat
  | a, .k n => mkAndK a n
  | .k m, b => mkAndK b m
  | a, b => .and a b
theorem mkAnd_den (E : Env) (a b : T) : (mkAnd a b).den E = a.den E &&& b.den E := by
  unfold mkAnd
  split
  · simp only [T.den, ofNat_toNat']
  · rw [mkAndK_den]; rfl
  · rw [mkAndK_den, BitVec.and_comm]; rfl
  · rfl
end Go.Proofs.YtfilandehjmikaaDoor.Sx
