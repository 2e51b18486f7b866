/- The abstract machine's terms for Ascon's blocks, and what they stand for. No condition. -/
import Derived.Test.YtfilandehjmikaaDoorAscB
import Derived.Test.YtfilandehjmikaaDoorAscK
import Derived.Test.YtfilandehjmikaaDoorSxY
namespace Go.Proofs.YtfilandehjmikaaDoor.Asc
open Go.RowKit Go.Proofs.YtfilandehjmikaaDoor.Sx

def byT (i : Nat) : T := .byte 7 (.s i)
def bA (i : Nat) : AC := .w .u8 (byT i)
def win (o n : Nat) : List AC := (List.range n).map fun i => bA (o + i)
def roB (cs : List AC) : MB := ⟨cs, false, true, false, 0, false⟩
def rwB (cs : List AC) : MB := ⟨cs, true, true, false, 0, false⟩
def owB (cs : List AC) : MB := ⟨cs, true, true, true, 0, false⟩
def slV (b : Nat) (len cap : AN) : AV := .one (.c (.slc b 0 0 len cap))
def ptV (b : Nat) : AV := .one (.c (.ptr b 0))
def opV (i : Nat) : AV := .one (.c (.o i))
def bval (b : B8) : Value := .int .u8 (b.toNat : Int)
def vals (l : List B8) : List Value := l.map bval
/-- The state's words, as symbols from 100 on; a block's bytes, as symbols from 0 on. -/
def sT (j : Nat) : T := .s (100 + j)
def cat8T (f : Nat → T) (o : Nat) : T := mkCat ⟨f o, f (o + 1), f (o + 2), f (o + 3), f (o + 4), f (o + 5), f (o + 6), f (o + 7)⟩
def absT (two : Bool) : List T := match two with
  | true => [mkXor (sT 0) (cat8T byT 0), mkXor (sT 1) (cat8T byT 8), sT 2, sT 3, sT 4]
  | false => [mkXor (sT 0) (cat8T byT 0), sT 1, sT 2, sT 3, sT 4]
def padT (k i : Nat) : T := match Nat.blt i k, Nat.beq i k with
  | true, _ => byT i
  | false, true => .k 128
  | false, false => .k 0
/-- A last block that is added. -/
def tailT (two : Bool) (k : Nat) : List T := match two with
  | true => [mkXor (sT 0) (cat8T (padT k) 0), mkXor (sT 1) (cat8T (padT k) 8), sT 2, sT 3, sT 4]
  | false => [mkXor (sT 0) (cat8T (padT k) 0), sT 1, sT 2, sT 3, sT 4]
def sbT (i : Nat) : T := .byte (i % 8) (sT (i / 8))
def decT (k i : Nat) : T := match Nat.blt i k, Nat.beq i k with
  | true, _ => byT i
  | false, true => mkXor1 (sbT i) (.k 128)
  | false, false => sbT i
/-- A last block that was decrypted and is added. -/
def backT (two : Bool) (k : Nat) : List T := match two with
  | true => [cat8T (decT k) 0, cat8T (decT k) 8, sT 2, sT 3, sT 4]
  | false => [cat8T (decT k) 0, sT 1, sT 2, sT 3, sT 4]
def outT (i : Nat) : T := mkXor1 (sbT i) (byT i)
def outs (n : Nat) : List AC := (List.range n).map fun i => .w .u8 (outT i)
def wsA (l : List T) : List AC := l.map (.w .u64)
def permA (r : Nat) : List T → List AC
  | [a, b, c, d, e] => apL r a b c d e
  | _ => []

/-- The terms stand for a state. -/
def Is5 (E : Env) (l : List T) (s : St) : Prop := l.map (T.den E) = [s.a, s.b, s.c, s.d, s.e]
theorem Is5.vals {E : Env} {l : List T} {s : St} (h : Is5 E l s) (bl : Bl) : (wsA l).map (AC.den E bl) = s.vals := by
  unfold wsA
  rw [List.map_map]
  have : l.map (AC.den E bl ∘ AC.w .u64) = (l.map (T.den E)).map fun x => Value.int .u64 (x.toNat : Int) := by rw [List.map_map]; rfl
  rw [this, h]; rfl
theorem Is5.perm {E : Env} (hap : ApOk E) {l : List T} {s : St} (h : Is5 E l s) (r : Nat) (bl : Bl) : (permA r l).map (AC.den E bl) = (perm r s).vals := by
  unfold Is5 at h
  have h5 : l.length = 5 := by have := congrArg List.length h; simpa using this
  match l, h5, h with
  | [a, b, c, d, e], _, h =>
    simp only [List.map_cons, List.map_nil, List.cons.injEq, and_true] at h
    obtain ⟨h1, h2, h3, h4, h5⟩ := h
    show (apL r a b c d e).map (AC.den E bl) = _
    rw [apL_den hap, h1, h2, h3, h4, h5]
section
variable {E : Env} {s : St} {l : List B8}
/-- The symbols' meaning. -/
structure SymOk (E : Env) (s : St) (l : List B8) : Prop where
  st : ∀ j, j < 5 → E.wd (100 + j) = s.get j
  bys : ∀ i, i < 100 → E.wd i = up (l.getD i 0)
theorem byT_den (h : SymOk E s l) {i : Nat} (hi : i < 100) : (byT i).den E = up (l.getD i 0) := by simp only [byT, T.den, h.bys i hi, byteOf_up]
theorem up_nat (b : B8) : (up b).toNat = b.toNat := by
  unfold up
  rw [BitVec.toNat_setWidth]
  have := b.isLt
  omega
theorem byte_val (bl : Bl) {t : T} {b : B8} (h : t.den E = up b) : (AC.w .u8 t).den E bl = bval b := by simp only [AC.den, h, up_nat, bval]
theorem win_den (h : SymOk E s l) (bl : Bl) {o n : Nat} (hn : o + n ≤ 100) (hl : n ≤ (l.drop o).length) : (win o n).map (AC.den E bl) = vals ((l.drop o).take n) := by
  apply List.ext_getElem?
  intro j
  simp only [win, vals, List.map_map, List.getElem?_map, List.length_drop] at *
  by_cases hj : j < n
  · rw [List.getElem?_range hj, List.getElem?_take_of_lt hj, List.getElem?_drop, List.getElem?_eq_getElem (by omega)]
    simp only [Option.map_some, Function.comp]
    congr 1
    refine byte_val bl ((byT_den h (by omega)).trans ?_)
    rw [List.getD, List.getElem?_eq_getElem (by omega)]; rfl
  · rw [List.getElem?_eq_none (by simpa using hj), List.getElem?_eq_none (by simp; omega)]; rfl
theorem cat8T_den {f : Nat → T} {o : Nat} {p : List B8} (h : ∀ i, i < 8 → (f (o + i)).den E = up (p.getD i 0)) : (cat8T f o).den E = cat8 p := by
  unfold cat8T cat8
  rw [mkCat_den]
  simp only [C8.den]
  rw [h 1 (by decide), h 2 (by decide), h 3 (by decide), h 4 (by decide), h 5 (by decide), h 6 (by decide), h 7 (by decide), ← h 0 (by decide)]
  rfl
theorem getD_take {α : Type} (l : List α) (n i : Nat) (d : α) (h : i < n) : (l.take n).getD i d = l.getD i d := by simp only [List.getD, List.getElem?_take_of_lt h]
theorem getD_drop {α : Type} (l : List α) (n i : Nat) (d : α) : (l.drop n).getD i d = l.getD (n + i) d := by simp only [List.getD, List.getElem?_drop]
theorem sT_den (h : SymOk E s l) {j : Nat} (hj : j < 5) : (sT j).den E = s.get j := h.st j hj
theorem absT_den (h : SymOk E s l) (two : Bool) : Is5 E (absT two) (absorb two s l) := by
  have c : ∀ o, o ≤ 8 → ∀ p : List B8, (∀ i, i < 8 → p.getD i 0 = l.getD (o + i) 0) → (cat8T byT o).den E = cat8 p := fun o ho p hp => cat8T_den fun i hi => by rw [byT_den h (by omega), hp i hi]
  cases two with
  | false =>
    simp only [Is5, absT, List.map, mkXor_den, c 0 (by decide) l fun i _ => by rw [Nat.zero_add], sT_den h (show 0 < 5 by decide), sT_den h (show 1 < 5 by decide), sT_den h (show 2 < 5 by decide), sT_den h (show 3 < 5 by decide), sT_den h (show 4 < 5 by decide)]
    rfl
  | true =>
    simp only [Is5, absT, List.map, mkXor_den, c 0 (by decide) (l.take 8) fun i hi => by rw [Nat.zero_add, getD_take _ _ _ _ hi], c 8 (by decide) (l.drop 8) fun i _ => getD_drop _ _ _ _,
      sT_den h (show 0 < 5 by decide), sT_den h (show 1 < 5 by decide), sT_den h (show 2 < 5 by decide), sT_den h (show 3 < 5 by decide), sT_den h (show 4 < 5 by decide)]
    rfl
theorem padl_get {n i : Nat} : (padl n l).getD i 0 = if i < l.length then l.getD i 0 else if i = l.length then 128 else 0 := by
  unfold padl
  simp only [List.getD]
  split
  · rename_i h; rw [List.getElem?_append_left h]
  · rename_i h
    rw [List.getElem?_append_right (by omega)]
    split
    · rename_i h'; subst h'; rw [Nat.sub_self]; rfl
    · rw [show i - l.length = (i - l.length - 1) + 1 by omega, List.getElem?_cons_succ, List.getElem?_replicate]
      split <;> rfl
theorem padT_den (h : SymOk E s l) {n i : Nat} (hi : i < 100) : (padT l.length i).den E = up ((padl n l).getD i 0) := by
  rw [padl_get]
  unfold padT
  split
  · rename_i h1; rw [if_pos (by simpa using h1)]; exact byT_den h hi
  · rename_i h1 h2
    have h1' : ¬ i < l.length := fun e => by rw [← Nat.blt_eq, h1] at e; cases e
    rw [if_neg h1', if_pos (by simpa using h2)]; rfl
  · rename_i h1 h2
    have h1' : ¬ i < l.length := fun e => by rw [← Nat.blt_eq, h1] at e; cases e
    have h2' : ¬ i = l.length := fun e => by rw [← Nat.beq_eq, h2] at e; cases e
    rw [if_neg h1', if_neg h2']; rfl
theorem tailT_den (h : SymOk E s l) (two : Bool) (n : Nat) : Is5 E (tailT two l.length) (absorb two s (padl n l)) := by
  have c : ∀ o, o ≤ 8 → ∀ p : List B8, (∀ i, i < 8 → p.getD i 0 = (padl n l).getD (o + i) 0) → (cat8T (padT l.length) o).den E = cat8 p := fun o ho p hp => cat8T_den fun i hi => by rw [padT_den h (n := n) (by omega), hp i hi]
  cases two with
  | false =>
    simp only [Is5, tailT, List.map, mkXor_den, c 0 (by decide) (padl n l) fun i _ => by rw [Nat.zero_add], sT_den h (show 0 < 5 by decide), sT_den h (show 1 < 5 by decide), sT_den h (show 2 < 5 by decide), sT_den h (show 3 < 5 by decide), sT_den h (show 4 < 5 by decide)]
    rfl
  | true =>
    simp only [Is5, tailT, List.map, mkXor_den, c 0 (by decide) ((padl n l).take 8) fun i hi => by rw [Nat.zero_add, getD_take _ _ _ _ hi], c 8 (by decide) ((padl n l).drop 8) fun i _ => getD_drop _ _ _ _,
      sT_den h (show 0 < 5 by decide), sT_den h (show 1 < 5 by decide), sT_den h (show 2 < 5 by decide), sT_den h (show 3 < 5 by decide), sT_den h (show 4 < 5 by decide)]
    rfl
theorem sbT_den (h : SymOk E s l) {i : Nat} (hi : i < 16) : (sbT i).den E = up (wb (s.get (i / 8)) (i % 8)) := by
  simp only [sbT, T.den, sT_den h (show i / 8 < 5 by omega), up_wb]
theorem sbytes_get (two : Bool) (s : St) {i : Nat} (hi : i < rate two) : (sbytes two s)[i]? = some (wb (s.get (i / 8)) (i % 8)) := by
  cases two with
  | false =>
    have hi : i < 8 := hi
    match i, hi with
    | 0, _ | 1, _ | 2, _ | 3, _ | 4, _ | 5, _ | 6, _ | 7, _ => rfl
  | true =>
    have hi : i < 16 := hi
    have hq : i = 0 ∨ i = 1 ∨ i = 2 ∨ i = 3 ∨ i = 4 ∨ i = 5 ∨ i = 6 ∨ i = 7 ∨ i = 8 ∨ i = 9 ∨ i = 10 ∨ i = 11 ∨ i = 12 ∨ i = 13 ∨ i = 14 ∨ i = 15 := by omega
    rcases hq with rfl | rfl | rfl | rfl | rfl | rfl | rfl | rfl | rfl | rfl | rfl | rfl | rfl | rfl | rfl | rfl <;> rfl
theorem xorl_get (two : Bool) {i : Nat} (hi : i < rate two) (hl : i < l.length) : (xorl (sbytes two s) l).getD i 0 = wb (s.get (i / 8)) (i % 8) ^^^ l.getD i 0 := by
  unfold xorl
  simp only [List.getD, List.getElem?_zipWith, sbytes_get two s hi, List.getElem?_eq_getElem hl]
  rfl
theorem rate_le (two : Bool) : rate two ≤ 16 := by cases two <;> decide
theorem outs_den (h : SymOk E s l) (bl : Bl) (two : Bool) (hl : l.length ≤ rate two) : (outs l.length).map (AC.den E bl) = vals (xorl (sbytes two s) l) := by
  have h16 := rate_le two
  have hlen : (xorl (sbytes two s) l).length = l.length := by rw [xorl_length, sbytes_length]; omega
  apply List.ext_getElem?
  intro j
  simp only [outs, vals, List.map_map, List.getElem?_map]
  by_cases hj : j < l.length
  · rw [List.getElem?_range hj, List.getElem?_eq_getElem (by omega)]
    simp only [Option.map_some, Function.comp]
    congr 1
    refine byte_val bl ?_
    rw [outT, mkXor1_den, sbT_den h (by omega), byT_den h (by omega), ← up_xor, ← xorl_get two (by omega) hj]
    rw [List.getD, List.getElem?_eq_getElem (by omega)]; rfl
  · rw [List.getElem?_eq_none (by simpa using hj), List.getElem?_eq_none (by omega)]; rfl
theorem xor_self8 (x y : B8) : x ^^^ (x ^^^ y) = y := b8_ext fun j _ => by simp only [BitVec.getLsbD_xor]; cases x.getLsbD j <;> cases y.getLsbD j <;> rfl
theorem decT_den (h : SymOk E s l) (two : Bool) (n : Nat) (hl : l.length ≤ rate two) {i : Nat} (hi : i < rate two) : (decT l.length i).den E = up (wb (s.get (i / 8)) (i % 8) ^^^ (padl n (xorl (sbytes two s) l)).getD i 0) := by
  have h16 := rate_le two
  have hlen : (xorl (sbytes two s) l).length = l.length := by rw [xorl_length, sbytes_length]; omega
  rw [padl_get, hlen]
  unfold decT
  split
  · rename_i h1
    have h1' : i < l.length := by simpa using h1
    rw [if_pos h1', xorl_get two hi h1', xor_self8]
    exact byT_den h (by omega)
  · rename_i h1 h2
    have h1' : ¬ i < l.length := fun e => by rw [← Nat.blt_eq, h1] at e; cases e
    rw [if_neg h1', if_pos (by simpa using h2), up_xor, mkXor1_den, sbT_den h (by omega)]; rfl
  · rename_i h1 h2
    have h1' : ¬ i < l.length := fun e => by rw [← Nat.blt_eq, h1] at e; cases e
    have h2' : ¬ i = l.length := fun e => by rw [← Nat.beq_eq, h2] at e; cases e
    rw [if_neg h1', if_neg h2', sbT_den h (by omega)]
    congr 1
    exact b8_ext fun j _ => by simp
theorem word_xor (w : BitVec 64) (p : List B8) : w ^^^ cat8 p = cat8 [wb w 0 ^^^ p.getD 0 0, wb w 1 ^^^ p.getD 1 0, wb w 2 ^^^ p.getD 2 0, wb w 3 ^^^ p.getD 3 0, wb w 4 ^^^ p.getD 4 0, wb w 5 ^^^ p.getD 5 0, wb w 6 ^^^ p.getD 6 0, wb w 7 ^^^ p.getD 7 0] := by
  conv => lhs; rw [← cat8_wbs w]
  refine (cat8_xor fun i hi => ?_).symm
  match i, hi with
  | 0, _ | 1, _ | 2, _ | 3, _ | 4, _ | 5, _ | 6, _ | 7, _ => rfl
theorem back8 (h : SymOk E s l) (two : Bool) (n : Nat) (hl : l.length ≤ rate two) {j : Nat} (hj : 8 * j + 8 ≤ rate two) (p : List B8) (hp : ∀ i, i < 8 → p.getD i 0 = (padl n (xorl (sbytes two s) l)).getD (8 * j + i) 0) :
    (cat8T (decT l.length) (8 * j)).den E = s.get j ^^^ cat8 p := by
  rw [word_xor]
  refine cat8T_den fun i hi => ?_
  rw [decT_den h two n hl (by omega), ← hp i hi, show (8 * j + i) / 8 = j by omega, show (8 * j + i) % 8 = i by omega]
  match i, hi with
  | 0, _ | 1, _ | 2, _ | 3, _ | 4, _ | 5, _ | 6, _ | 7, _ => rfl
theorem backT_den (h : SymOk E s l) (two : Bool) (n : Nat) (hl : l.length ≤ rate two) : Is5 E (backT two l.length) (absorb two s (padl n (xorl (sbytes two s) l))) := by
  cases two with
  | false =>
    simp only [Is5, backT, List.map, back8 h false n hl (j := 0) (by decide) (padl n (xorl (sbytes false s) l)) fun i _ => by rw [Nat.mul_zero, Nat.zero_add],
      sT_den h (show 1 < 5 by decide), sT_den h (show 2 < 5 by decide), sT_den h (show 3 < 5 by decide), sT_den h (show 4 < 5 by decide)]
    rfl
  | true =>
    simp only [Is5, backT, List.map, back8 h true n hl (j := 0) (by decide) ((padl n (xorl (sbytes true s) l)).take 8) fun i hi => by rw [Nat.mul_zero, Nat.zero_add, getD_take _ _ _ _ hi],
      back8 h true n hl (j := 1) (by decide) ((padl n (xorl (sbytes true s) l)).drop 8) fun i _ => getD_drop _ _ _ _,
      sT_den h (show 2 < 5 by decide), sT_den h (show 3 < 5 by decide), sT_den h (show 4 < 5 by decide)]
    rfl
/-- A whole block that was decrypted and is added. -/
def wholeT (two : Bool) : List T := match two with
  | true => [cat8T byT 0, cat8T byT 8, sT 2, sT 3, sT 4]
  | false => [cat8T byT 0, sT 1, sT 2, sT 3, sT 4]
theorem whole8 (h : SymOk E s l) (two : Bool) (hl : l.length = rate two) {j : Nat} (hj : 8 * j + 8 ≤ rate two) (p : List B8) (hp : ∀ i, i < 8 → p.getD i 0 = (xorl (sbytes two s) l).getD (8 * j + i) 0) :
    (cat8T byT (8 * j)).den E = s.get j ^^^ cat8 p := by
  have h16 := rate_le two
  rw [word_xor]
  refine cat8T_den fun i hi => ?_
  have : up (l.getD (8 * j + i) 0) = up (wb (s.get j) i ^^^ p.getD i 0) := by
    rw [hp i hi, xorl_get two (by omega) (by omega), show (8 * j + i) / 8 = j by omega, show (8 * j + i) % 8 = i by omega, xor_self8]
  rw [byT_den h (by omega), this]
  match i, hi with
  | 0, _ | 1, _ | 2, _ | 3, _ | 4, _ | 5, _ | 6, _ | 7, _ => rfl
theorem wholeT_den (h : SymOk E s l) (two : Bool) (hl : l.length = rate two) : Is5 E (wholeT two) (absorb two s (xorl (sbytes two s) l)) := by
  cases two with
  | false =>
    simp only [Is5, wholeT, List.map, whole8 h false hl (j := 0) (by decide) (xorl (sbytes false s) l) fun i _ => by rw [Nat.mul_zero, Nat.zero_add],
      sT_den h (show 1 < 5 by decide), sT_den h (show 2 < 5 by decide), sT_den h (show 3 < 5 by decide), sT_den h (show 4 < 5 by decide)]
    rfl
  | true =>
    simp only [Is5, wholeT, List.map, whole8 h true hl (j := 0) (by decide) ((xorl (sbytes true s) l).take 8) fun i hi => by rw [Nat.mul_zero, Nat.zero_add, getD_take _ _ _ _ hi],
      whole8 h true hl (j := 1) (by decide) ((xorl (sbytes true s) l).drop 8) fun i _ => getD_drop _ _ _ _,
      sT_den h (show 2 < 5 by decide), sT_den h (show 3 < 5 by decide), sT_den h (show 4 < 5 by decide)]
    rfl
end
end Go.Proofs.YtfilandehjmikaaDoor.Asc
