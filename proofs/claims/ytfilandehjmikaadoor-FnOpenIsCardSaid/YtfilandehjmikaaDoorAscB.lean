/- Ascon over bytes, in plain Lean: blocks that are added to a state, data, encryption and decryption; that the one undoes the other; prefixes. No condition. -/
import Derived.Test.YtfilandehjmikaaDoorAscP
import Derived.Test.YtfilandehjmikaaDoorSxT
namespace Go.Proofs.YtfilandehjmikaaDoor.Asc
open Go.Proofs.YtfilandehjmikaaDoor.Sx

abbrev B8 := BitVec 8
def up (b : B8) : BitVec 64 := b.setWidth 64
def wb (w : BitVec 64) (i : Nat) : B8 := (w >>> (8 * (7 - i))).setWidth 8
theorem up_bit (b : B8) (j : Nat) : (up b).getLsbD j = b.getLsbD j := by
  unfold up
  rw [BitVec.getLsbD_setWidth]
  by_cases h : j < 64
  · simp [h]
  · simp [h]; exact BitVec.getLsbD_of_ge _ _ (by omega)
theorem wb_bit (w : BitVec 64) (i j : Nat) : (wb w i).getLsbD j = (decide (j < 8) && w.getLsbD (8 * (7 - i) + j)) := by
  unfold wb
  rw [BitVec.getLsbD_setWidth, BitVec.getLsbD_ushiftRight]
theorem up_wb (w : BitVec 64) (i : Nat) : up (wb w i) = Sx.byteOf i w := bv_ext fun j _ => by rw [up_bit, wb_bit, byteOf_bit]
theorem b8_ext {x y : B8} (h : ∀ j, j < 8 → x.getLsbD j = y.getLsbD j) : x = y := BitVec.eq_of_getLsbD_eq h
theorem up_inj {x y : B8} (h : up x = up y) : x = y := b8_ext fun j _ => by rw [← up_bit, ← up_bit, h]
theorem byteOf_up (b : B8) : Sx.byteOf 7 (up b) = up b := bv_ext fun j _ => by
  rw [byteOf_bit, up_bit]
  by_cases h : j < 8
  · simp [h]
    exact up_bit b j
  · have := BitVec.getLsbD_of_ge b j (by omega)
    rw [← up_bit] at this
    simp [h, this]
theorem up_xor (x y : B8) : up (x ^^^ y) = up x ^^^ up y := bv_ext fun j _ => by simp only [up_bit, BitVec.getLsbD_xor]
/-- Eight bytes as a word, the first the highest; what is missing is 0. -/
def cat8 (l : List B8) : BitVec 64 := catOf (up (l.getD 0 0)) (up (l.getD 1 0)) (up (l.getD 2 0)) (up (l.getD 3 0)) (up (l.getD 4 0)) (up (l.getD 5 0)) (up (l.getD 6 0)) (up (l.getD 7 0))
def wbs (w : BitVec 64) : List B8 := [wb w 0, wb w 1, wb w 2, wb w 3, wb w 4, wb w 5, wb w 6, wb w 7]
theorem cat8_wbs (w : BitVec 64) : cat8 (wbs w) = w := by
  unfold cat8 wbs
  simp only [List.getD_cons_zero, List.getD_cons_succ, up_wb]
  exact catOf_self w
theorem cat8_xor {x y z : List B8} (h : ∀ i, i < 8 → z.getD i 0 = x.getD i 0 ^^^ y.getD i 0) : cat8 z = cat8 x ^^^ cat8 y := by
  unfold cat8
  rw [h 0 (by decide), h 1 (by decide), h 2 (by decide), h 3 (by decide), h 4 (by decide), h 5 (by decide), h 6 (by decide), h 7 (by decide)]
  simp only [up_xor, catOf_xor]
/-- How many bytes a block has. -/
def rate : Bool → Nat
  | true => 16
  | false => 8
theorem rate_pos (two : Bool) : 0 < rate two := by cases two <;> decide
def absorb (two : Bool) (s : St) (l : List B8) : St :=
  match two with
  | true => { s with a := s.a ^^^ cat8 (l.take 8), b := s.b ^^^ cat8 (l.drop 8) }
  | false => { s with a := s.a ^^^ cat8 l }
def sbytes (two : Bool) (s : St) : List B8 :=
  match two with
  | true => wbs s.a ++ wbs s.b
  | false => wbs s.a
def xorl (a b : List B8) : List B8 := List.zipWith (· ^^^ ·) a b
def padl (n : Nat) (l : List B8) : List B8 := l ++ 128 :: List.replicate (n - 1 - l.length) 0
/-- A way: whether a block has two words, and how many rounds there are between blocks. -/
structure Md where
  two : Bool
  r : Nat
def crypt (md : Md) (back : Bool) (s : St) (l : List B8) : List B8 × St :=
  if rate md.two ≤ l.length then
    let out := xorl (sbytes md.two s) (l.take (rate md.two))
    let q := crypt md back (perm md.r (absorb md.two s (if back then out else l.take (rate md.two)))) (l.drop (rate md.two))
    (out ++ q.1, q.2)
  else
    let out := xorl (sbytes md.two s) l
    (out, absorb md.two s (padl (rate md.two) (if back then out else l)))
termination_by l.length
decreasing_by simp only [List.length_drop]; have := rate_pos md.two; omega
def absorbAll (md : Md) (s : St) (l : List B8) : St :=
  if rate md.two ≤ l.length then absorbAll md (perm md.r (absorb md.two s (l.take (rate md.two)))) (l.drop (rate md.two)) else s
termination_by l.length
decreasing_by simp only [List.length_drop]; have := rate_pos md.two; omega
/-- Bytes with a bit 1 and zeros behind them, up to whole blocks. -/
def padAll (n : Nat) (l : List B8) : List B8 := l ++ 128 :: List.replicate (n - 1 - l.length % n) 0
def dataGo (md : Md) (s : St) (l : List B8) : St :=
  if rate md.two ≤ l.length then dataGo md (perm md.r (absorb md.two s (l.take (rate md.two)))) (l.drop (rate md.two)) else perm md.r (absorb md.two s (padl (rate md.two) l))
termination_by l.length
decreasing_by simp only [List.length_drop]; have := rate_pos md.two; omega
def fin1 (s : St) : St := { s with e := s.e ^^^ 1 }
def dataSt (md : Md) (s : St) (l : List B8) : St := if l = [] then fin1 s else fin1 (dataGo md s l)

theorem padAll_cons {n : Nat} {l : List B8} (h : n ≤ l.length) : padAll n l = l.take n ++ padAll n (l.drop n) := by
  unfold padAll
  rw [← List.append_assoc, List.take_append_drop, List.length_drop]
  congr 4
  rw [Nat.mod_eq_sub_mod h]
theorem padAll_short {n : Nat} {l : List B8} (h : l.length < n) : padAll n l = padl n l := by unfold padAll padl; rw [Nat.mod_eq_of_lt h]
theorem padl_length {n : Nat} {l : List B8} (h : l.length < n) : (padl n l).length = n := by unfold padl; simp; omega
/-- The data's blocks, padded first, then added. -/
theorem dataGo_pad (md : Md) : ∀ (l : List B8) (s : St), dataGo md s l = absorbAll md s (padAll (rate md.two) l) := by
  intro l
  induction hn : l.length using Nat.strongRecOn generalizing l with
  | _ n ih =>
    intro s
    subst hn
    have hp := rate_pos md.two
    by_cases h : rate md.two ≤ l.length
    · rw [dataGo, if_pos h, ih _ (by simp only [List.length_drop]; omega) _ rfl, padAll_cons h]
      conv => rhs; rw [absorbAll]
      rw [if_pos (by simp; omega), List.take_left' (by simp; omega), List.drop_left' (by simp; omega)]
    · rw [dataGo, if_neg h, padAll_short (by omega)]
      have hl := padl_length (n := rate md.two) (l := l) (by omega)
      conv => rhs; rw [absorbAll]
      rw [if_pos (by omega), List.take_of_length_le (by omega), List.drop_eq_nil_of_le (by omega)]
      conv => rhs; rw [absorbAll]
      rw [if_neg (by simp; omega)]
theorem sbytes_length (two : Bool) (s : St) : (sbytes two s).length = rate two := by cases two <;> rfl
theorem xorl_length (a b : List B8) : (xorl a b).length = min a.length b.length := by simp [xorl]
theorem xorl_xorl {a b : List B8} (h : b.length ≤ a.length) : xorl a (xorl a b) = b := by
  unfold xorl
  induction a generalizing b with
  | nil => cases b with
    | nil => rfl
    | cons => simp at h
  | cons x a ih => cases b with
    | nil => rfl
    | cons y b =>
      simp only [List.zipWith_cons_cons, ih (by simpa using h)]
      congr 1
      exact b8_ext fun j _ => by simp only [BitVec.getLsbD_xor]; cases x.getLsbD j <;> cases y.getLsbD j <;> rfl
theorem crypt_length (md : Md) (back : Bool) : ∀ (l : List B8) (s : St), (crypt md back s l).1.length = l.length := by
  intro l
  induction hn : l.length using Nat.strongRecOn generalizing l with
  | _ n ih =>
    intro s
    subst hn
    have hp := rate_pos md.two
    rw [crypt]
    split
    · rename_i h
      simp only [List.length_append, ih _ (show (l.drop (rate md.two)).length < l.length by simp only [List.length_drop]; omega) _ rfl, xorl_length, sbytes_length, List.length_take, List.length_drop]
      omega
    · simp only [xorl_length, sbytes_length]; omega
/-- What was encrypted is decrypted to the text, and the state behind it is the same. -/
theorem crypt_back (md : Md) : ∀ (l : List B8) (s : St), crypt md true s (crypt md false s l).1 = (l, (crypt md false s l).2) := by
  intro l
  induction hn : l.length using Nat.strongRecOn generalizing l with
  | _ n ih =>
    intro s
    subst hn
    have hp := rate_pos md.two
    by_cases h : rate md.two ≤ l.length
    · have ho : (xorl (sbytes md.two s) (l.take (rate md.two))).length = rate md.two := by simp only [xorl_length, sbytes_length, List.length_take]; omega
      have hx : xorl (sbytes md.two s) (xorl (sbytes md.two s) (l.take (rate md.two))) = l.take (rate md.two) := xorl_xorl (by rw [sbytes_length, List.length_take]; omega)
      rw [show crypt md false s l = (xorl (sbytes md.two s) (l.take (rate md.two)) ++ (crypt md false (perm md.r (absorb md.two s (l.take (rate md.two)))) (l.drop (rate md.two))).1, (crypt md false (perm md.r (absorb md.two s (l.take (rate md.two)))) (l.drop (rate md.two))).2) by
        rw [crypt, if_pos h]; rfl]
      rw [crypt, if_pos (by simp only [List.length_append]; omega)]
      simp only [List.take_left' ho, List.drop_left' ho, hx, if_true]
      rw [ih _ (by simp only [List.length_drop]; omega) _ rfl]
      simp only [List.take_append_drop]
    · have ho : (xorl (sbytes md.two s) l).length = l.length := by simp only [xorl_length, sbytes_length]; omega
      have hx : xorl (sbytes md.two s) (xorl (sbytes md.two s) l) = l := xorl_xorl (by rw [sbytes_length]; omega)
      rw [show crypt md false s l = (xorl (sbytes md.two s) l, absorb md.two s (padl (rate md.two) l)) by rw [crypt, if_neg h]; rfl]
      rw [crypt, if_neg (by simp only [ho]; omega)]
      simp only [hx, if_true]
/-- The other way round. -/
theorem crypt_forth (md : Md) : ∀ (l : List B8) (s : St), crypt md false s (crypt md true s l).1 = (l, (crypt md true s l).2) := by
  intro l
  induction hn : l.length using Nat.strongRecOn generalizing l with
  | _ n ih =>
    intro s
    subst hn
    have hp := rate_pos md.two
    by_cases h : rate md.two ≤ l.length
    · have ho : (xorl (sbytes md.two s) (l.take (rate md.two))).length = rate md.two := by simp only [xorl_length, sbytes_length, List.length_take]; omega
      have hx : xorl (sbytes md.two s) (xorl (sbytes md.two s) (l.take (rate md.two))) = l.take (rate md.two) := xorl_xorl (by rw [sbytes_length, List.length_take]; omega)
      rw [show crypt md true s l = (xorl (sbytes md.two s) (l.take (rate md.two)) ++ (crypt md true (perm md.r (absorb md.two s (xorl (sbytes md.two s) (l.take (rate md.two))))) (l.drop (rate md.two))).1, (crypt md true (perm md.r (absorb md.two s (xorl (sbytes md.two s) (l.take (rate md.two))))) (l.drop (rate md.two))).2) by
        rw [crypt, if_pos h]; rfl]
      rw [crypt, if_pos (by simp only [List.length_append]; omega)]
      simp only [List.take_left' ho, List.drop_left' ho, hx, Bool.false_eq_true, if_false]
      rw [ih _ (by simp only [List.length_drop]; omega) _ rfl]
      simp only [List.take_append_drop]
    · have ho : (xorl (sbytes md.two s) l).length = l.length := by simp only [xorl_length, sbytes_length]; omega
      have hx : xorl (sbytes md.two s) (xorl (sbytes md.two s) l) = l := xorl_xorl (by rw [sbytes_length]; omega)
      rw [show crypt md true s l = (xorl (sbytes md.two s) l, absorb md.two s (padl (rate md.two) (xorl (sbytes md.two s) l))) by rw [crypt, if_neg h]; rfl]
      rw [crypt, if_neg (by simp only [ho]; omega)]
      simp only [hx, Bool.false_eq_true, if_false]
/-- A shorter text is encrypted to the beginning. -/
theorem crypt_prefix (md : Md) (more : List B8) : ∀ (l : List B8) (s : St), (crypt md false s (l ++ more)).1.take l.length = (crypt md false s l).1 := by
  intro l
  induction hn : l.length using Nat.strongRecOn generalizing l with
  | _ n ih =>
    intro s
    subst hn
    have hp := rate_pos md.two
    by_cases h : rate md.two ≤ l.length
    · have ho : (xorl (sbytes md.two s) (l.take (rate md.two))).length = rate md.two := by simp only [xorl_length, sbytes_length, List.length_take]; omega
      rw [crypt, if_pos (by simp; omega), crypt, if_pos h]
      simp only [Bool.false_eq_true, if_false, List.take_append_of_le_length h, List.drop_append_of_le_length h]
      rw [List.take_append, ho, List.take_of_length_le (by omega)]
      congr 1
      have := ih _ (show (l.drop (rate md.two)).length < l.length by simp only [List.length_drop]; omega) _ rfl (perm md.r (absorb md.two s (l.take (rate md.two))))
      rwa [List.length_drop] at this
    · have key : ∀ m : List B8, l.length ≤ m.length → m.take l.length = l → (crypt md false s m).1.take l.length = xorl (sbytes md.two s) l := fun m hm hml => by
        have hz : ∀ (a b : List B8) (n : Nat), (xorl a b).take n = xorl (a.take n) (b.take n) := fun a b n => by unfold xorl; rw [List.take_zipWith]
        have hs : ∀ (a b : List B8), xorl (a.take b.length) b = xorl a b := fun a b => by
          unfold xorl
          induction a generalizing b with
          | nil => simp
          | cons x a ih => cases b with
            | nil => simp
            | cons y b => simp only [List.length_cons, List.take_succ_cons, List.zipWith_cons_cons, ih]
        rw [crypt]
        split
        · rename_i h'
          simp only [Bool.false_eq_true, if_false]
          rw [List.take_append_of_le_length (by simp only [xorl_length, sbytes_length, List.length_take]; omega), hz, List.take_take, Nat.min_eq_left (by omega), hml]
          conv => lhs; arg 1; arg 1; rw [← hml, List.length_take, Nat.min_eq_left hm]
          rw [hs]
        · simp only
          rw [hz, hml, hs]
      rw [key (l ++ more) (by simp) (by simp)]
      rw [show crypt md false s l = (xorl (sbytes md.two s) l, absorb md.two s (padl (rate md.two) l)) by rw [crypt, if_neg h]; rfl]
end Go.Proofs.YtfilandehjmikaaDoor.Asc
