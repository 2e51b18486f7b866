/- The words of Ascon's permutation as terms: what a round's parts read as in the code and in the specification, and that these are the plain ones. No condition. -/
import Derived.Test.YtfilandehjmikaaDoorSxW
import Derived.Test.YtfilandehjmikaaDoorAscP
namespace Go.Proofs.YtfilandehjmikaaDoor.Asc
open Go.Proofs.YtfilandehjmikaaDoor.Sx

def R (s : Nat) (x : T) : T := .or (.shl x s) (.shr x (64 - s))
/-- The code's round: symbols from B on, ten a round. -/
def implR (B i : Nat) : List (T × T) :=
  let a := T.s B
  let b := T.s (B + 1)
  let c := T.s (B + 2)
  let d := T.s (B + 3)
  let e := T.s (B + 4)
  let x2 := mkXor c (.k (rc i))
  let x0 := mkXor a e
  let x4 := mkXor e d
  let x2 := mkXor x2 b
  let t0 := mkAnd x0 (mkNot x4)
  let x0 := mkXor x0 (mkAnd x2 (mkNot b))
  let x2 := mkXor x2 (mkAnd x4 (mkNot d))
  let y4 := mkXor x4 (mkAnd b (mkNot x0))
  let x1 := mkXor b (mkAnd d (.s (B + 7)))
  let x3 := mkXor d t0
  [(y4, .s (B + 9)), (mkXor x1 x0, .s (B + 6)), (mkXor x3 x2, .s (B + 8)), (mkXor x0 (.s (B + 9)), .s (B + 5)), (mkNot x2, .s (B + 7)),
   (mkXor (.s (B + 5)) (mkXor (R 45 (.s (B + 5))) (R 36 (.s (B + 5)))), .s (B + 10)),
   (mkXor (.s (B + 6)) (mkXor (R 3 (.s (B + 6))) (R 25 (.s (B + 6)))), .s (B + 11)),
   (mkXor (.s (B + 7)) (mkXor (R 63 (.s (B + 7))) (R 58 (.s (B + 7)))), .s (B + 12)),
   (mkXor (.s (B + 8)) (mkXor (R 54 (.s (B + 8))) (R 47 (.s (B + 8)))), .s (B + 13)),
   (mkXor (.s (B + 9)) (mkXor (R 57 (.s (B + 9))) (R 23 (.s (B + 9)))), .s (B + 14))]
/-- The specification's round. -/
def specR (B i : Nat) : List (T × T) :=
  let a := T.s B
  let b := T.s (B + 1)
  let c := mkXor (T.s (B + 2)) (.k (rc i))
  let d := T.s (B + 3)
  let e := T.s (B + 4)
  let a := mkXor a e
  let e := mkXor e d
  let c := mkXor c b
  let a' := mkXor a (mkAnd (mkNot b) c)
  let b' := mkXor b (mkAnd (mkNot c) d)
  let c' := mkXor c (mkAnd (mkNot d) e)
  let d' := mkXor d (mkAnd (mkNot e) a)
  let e' := mkXor e (mkAnd (mkNot a) b)
  [(e', .s (B + 9)), (mkXor b' a', .s (B + 6)), (mkXor a' (.s (B + 9)), .s (B + 5)), (mkXor d' c', .s (B + 8)), (mkNot c', .s (B + 7)),
   (mkXor (mkXor (.s (B + 5)) (R 45 (.s (B + 5)))) (R 36 (.s (B + 5))), .s (B + 10)),
   (mkXor (mkXor (.s (B + 6)) (R 3 (.s (B + 6)))) (R 25 (.s (B + 6))), .s (B + 11)),
   (mkXor (mkXor (.s (B + 7)) (R 63 (.s (B + 7)))) (R 58 (.s (B + 7))), .s (B + 12)),
   (mkXor (mkXor (.s (B + 8)) (R 54 (.s (B + 8)))) (R 47 (.s (B + 8))), .s (B + 13)),
   (mkXor (mkXor (.s (B + 9)) (R 57 (.s (B + 9)))) (R 23 (.s (B + 9))), .s (B + 14))]

/-- The ten symbols from B on, and the five behind them, are a round's. -/
structure IsRound (E : Env) (B i : Nat) (s : St) : Prop where
  x0 : E.wd B = s.a
  x1 : E.wd (B + 1) = s.b
  x2 : E.wd (B + 2) = s.c
  x3 : E.wd (B + 3) = s.d
  x4 : E.wd (B + 4) = s.e
  y0 : E.wd (B + 5) = (sbox i s).a
  y1 : E.wd (B + 6) = (sbox i s).b
  y2 : E.wd (B + 7) = (sbox i s).c
  y3 : E.wd (B + 8) = (sbox i s).d
  y4 : E.wd (B + 9) = (sbox i s).e
  z0 : E.wd (B + 10) = spr 19 28 (sbox i s).a
  z1 : E.wd (B + 11) = spr 61 39 (sbox i s).b
  z2 : E.wd (B + 12) = spr 1 6 (sbox i s).c
  z3 : E.wd (B + 13) = spr 10 17 (sbox i s).d
  z4 : E.wd (B + 14) = spr 7 41 (sbox i s).e
theorem R_den (E : Env) (s : Nat) (x : T) (h : 0 < s) (h' : s < 64) : (R s x).den E = (x.den E).rotateRight (64 - s) := by
  simp only [R, T.den, BitVec.rotateRight_def]
  rw [Nat.mod_eq_of_lt (by omega : 64 - s < 64), show 64 - (64 - s) = s by omega, BitVec.or_comm]
theorem spr_code (E : Env) (p q : Nat) (x : T) (hp : 0 < p) (hp' : p < 64) (hq : 0 < q) (hq' : q < 64) : (mkXor x (mkXor (R p x) (R q x))).den E = spr (64 - p) (64 - q) (x.den E) := by
  rw [mkXor_den, mkXor_den, R_den E p x hp hp', R_den E q x hq hq', spr, BitVec.xor_assoc]
theorem spr_spec (E : Env) (p q : Nat) (x : T) (hp : 0 < p) (hp' : p < 64) (hq : 0 < q) (hq' : q < 64) : (mkXor (mkXor x (R p x)) (R q x)).den E = spr (64 - p) (64 - q) (x.den E) := by
  rw [mkXor_den, mkXor_den, R_den E p x hp hp', R_den E q x hq hq', spr]
theorem implR_ok {E : Env} {B i : Nat} {s : St} (h : IsRound E B i s) : ∀ p ∈ implR B i, p.1.den E = p.2.den E := by
  intro p hp
  simp only [implR, List.mem_cons, List.not_mem_nil, or_false] at hp
  have bits : ∀ {x y : BitVec 64}, (∀ j, j < 64 → x.getLsbD j = y.getLsbD j) → x = y := fun h => BitVec.eq_of_getLsbD_eq h
  rcases hp with rfl | rfl | rfl | rfl | rfl | rfl | rfl | rfl | rfl | rfl
  · simp only [mkXor_den, mkAnd_den, mkNot_den, T.den, h.x0, h.x1, h.x2, h.x3, h.x4, h.y4, sbox, lay3, lay2, lay1, addc]
    refine bits fun j hj => ?_
    simp only [BitVec.getLsbD_xor, BitVec.getLsbD_and, BitVec.getLsbD_not, hj, decide_true, Bool.true_and]
    cases s.a.getLsbD j <;> cases s.b.getLsbD j <;> cases s.c.getLsbD j <;> cases s.d.getLsbD j <;> cases s.e.getLsbD j <;> cases (BitVec.ofNat 64 (rc i)).getLsbD j <;> rfl
  · simp only [mkXor_den, mkAnd_den, mkNot_den, T.den, h.x0, h.x1, h.x2, h.x3, h.x4, h.y1, h.y2, sbox, lay3, lay2, lay1, addc]
    refine bits fun j hj => ?_
    simp only [BitVec.getLsbD_xor, BitVec.getLsbD_and, BitVec.getLsbD_not, hj, decide_true, Bool.true_and]
    cases s.a.getLsbD j <;> cases s.b.getLsbD j <;> cases s.c.getLsbD j <;> cases s.d.getLsbD j <;> cases s.e.getLsbD j <;> cases (BitVec.ofNat 64 (rc i)).getLsbD j <;> rfl
  · simp only [mkXor_den, mkAnd_den, mkNot_den, T.den, h.x0, h.x1, h.x2, h.x3, h.x4, h.y3, sbox, lay3, lay2, lay1, addc]
    refine bits fun j hj => ?_
    simp only [BitVec.getLsbD_xor, BitVec.getLsbD_and, BitVec.getLsbD_not, hj, decide_true, Bool.true_and]
    cases s.a.getLsbD j <;> cases s.b.getLsbD j <;> cases s.c.getLsbD j <;> cases s.d.getLsbD j <;> cases s.e.getLsbD j <;> cases (BitVec.ofNat 64 (rc i)).getLsbD j <;> rfl
  · simp only [mkXor_den, mkAnd_den, mkNot_den, T.den, h.x0, h.x1, h.x2, h.x4, h.y0, h.y4, sbox, lay3, lay2, lay1, addc]
    refine bits fun j hj => ?_
    simp only [BitVec.getLsbD_xor, BitVec.getLsbD_and, BitVec.getLsbD_not, hj, decide_true, Bool.true_and]
    cases s.a.getLsbD j <;> cases s.b.getLsbD j <;> cases s.c.getLsbD j <;> cases s.d.getLsbD j <;> cases s.e.getLsbD j <;> cases (BitVec.ofNat 64 (rc i)).getLsbD j <;> rfl
  · simp only [mkXor_den, mkAnd_den, mkNot_den, T.den, h.x1, h.x2, h.x3, h.x4, h.y2, sbox, lay3, lay2, lay1, addc]
    refine bits fun j hj => ?_
    simp only [BitVec.getLsbD_xor, BitVec.getLsbD_and, BitVec.getLsbD_not, hj, decide_true, Bool.true_and]
    cases s.b.getLsbD j <;> cases s.c.getLsbD j <;> cases s.d.getLsbD j <;> cases s.e.getLsbD j <;> cases (BitVec.ofNat 64 (rc i)).getLsbD j <;> rfl
  · rw [spr_code E 45 36 _ (by decide) (by decide) (by decide) (by decide)]; simp only [T.den, h.y0, h.z0]
  · rw [spr_code E 3 25 _ (by decide) (by decide) (by decide) (by decide)]; simp only [T.den, h.y1, h.z1]
  · rw [spr_code E 63 58 _ (by decide) (by decide) (by decide) (by decide)]; simp only [T.den, h.y2, h.z2]
  · rw [spr_code E 54 47 _ (by decide) (by decide) (by decide) (by decide)]; simp only [T.den, h.y3, h.z3]
  · rw [spr_code E 57 23 _ (by decide) (by decide) (by decide) (by decide)]; simp only [T.den, h.y4, h.z4]
theorem specR_ok {E : Env} {B i : Nat} {s : St} (h : IsRound E B i s) : ∀ p ∈ specR B i, p.1.den E = p.2.den E := by
  intro p hp
  simp only [specR, List.mem_cons, List.not_mem_nil, or_false] at hp
  rcases hp with rfl | rfl | rfl | rfl | rfl | rfl | rfl | rfl | rfl | rfl
  · simp only [mkXor_den, mkAnd_den, mkNot_den, T.den, h.x0, h.x1, h.x3, h.x4, h.y4, sbox, lay3, lay2, lay1, addc]
  · simp only [mkXor_den, mkAnd_den, mkNot_den, T.den, h.x0, h.x1, h.x2, h.x3, h.x4, h.y1, sbox, lay3, lay2, lay1, addc]
  · simp only [mkXor_den, mkAnd_den, mkNot_den, T.den, h.x0, h.x1, h.x2, h.x4, h.y0, h.y4, sbox, lay3, lay2, lay1, addc]
  · simp only [mkXor_den, mkAnd_den, mkNot_den, T.den, h.x0, h.x1, h.x2, h.x3, h.x4, h.y3, sbox, lay3, lay2, lay1, addc]
  · simp only [mkXor_den, mkAnd_den, mkNot_den, T.den, h.x1, h.x2, h.x3, h.x4, h.y2, sbox, lay3, lay2, lay1, addc]
  · rw [spr_spec E 45 36 _ (by decide) (by decide) (by decide) (by decide)]; simp only [T.den, h.y0, h.z0]
  · rw [spr_spec E 3 25 _ (by decide) (by decide) (by decide) (by decide)]; simp only [T.den, h.y1, h.z1]
  · rw [spr_spec E 63 58 _ (by decide) (by decide) (by decide) (by decide)]; simp only [T.den, h.y2, h.z2]
  · rw [spr_spec E 54 47 _ (by decide) (by decide) (by decide) (by decide)]; simp only [T.den, h.y3, h.z3]
  · rw [spr_spec E 57 23 _ (by decide) (by decide) (by decide) (by decide)]; simp only [T.den, h.y4, h.z4]
/-- The word that symbol k stands for where the rounds are counted from 0 to 11 whatever n is. -/
def wdAbs (n : Nat) (x : St) (k : Nat) : BitVec 64 :=
  if k % 10 < 5 then (stt n x (k / 10 - (12 - n))).get (k % 10) else (sbox (k / 10) (stt n x (k / 10 - (12 - n)))).get (k % 10 - 5)
theorem isRound_abs {E : Env} {n : Nat} {x : St} (h : ∀ k, k < 130 → E.wd k = wdAbs n x k) (i : Nat) (hi : i < 12) (hn : 12 - n ≤ i) : IsRound E (10 * i) i (stt n x (i - (12 - n))) := by
  have g : ∀ r, r < 10 → E.wd (10 * i + r) = if r < 5 then (stt n x (i - (12 - n))).get r else (sbox i (stt n x (i - (12 - n)))).get (r - 5) := fun r hr => by
    rw [h _ (by omega)]
    unfold wdAbs
    rw [show (10 * i + r) % 10 = r by omega, show (10 * i + r) / 10 = i by omega]
  have hs : stt n x (i + 1 - (12 - n)) = rnd i (stt n x (i - (12 - n))) := by
    rw [show i + 1 - (12 - n) = (i - (12 - n)) + 1 by omega]
    show rnd (12 - n + (i - (12 - n))) _ = _
    rw [show 12 - n + (i - (12 - n)) = i by omega]
  have g' : ∀ r, r < 5 → E.wd (10 * i + (10 + r)) = (rnd i (stt n x (i - (12 - n)))).get r := fun r hr => by
    rw [h _ (by omega), ← hs]
    unfold wdAbs
    rw [show (10 * i + (10 + r)) % 10 = r by omega, show (10 * i + (10 + r)) / 10 = i + 1 by omega, if_pos hr]
  exact ⟨g 0 (by decide), g 1 (by decide), g 2 (by decide), g 3 (by decide), g 4 (by decide), g 5 (by decide), g 6 (by decide), g 7 (by decide), g 8 (by decide), g 9 (by decide),
    g' 0 (by decide), g' 1 (by decide), g' 2 (by decide), g' 3 (by decide), g' 4 (by decide)⟩
end Go.Proofs.YtfilandehjmikaaDoor.Asc
