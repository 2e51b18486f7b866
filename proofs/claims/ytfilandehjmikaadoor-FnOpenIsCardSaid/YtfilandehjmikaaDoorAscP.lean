/- Ascon's permutation in plain terms: rounds, their S-box and their linear layer; different states stay different. No condition. -/
namespace Go.Proofs.YtfilandehjmikaaDoor.Asc

theorem rr_bit (x : BitVec 64) (n i : Nat) (hi : i < 64) : (x.rotateRight n).getLsbD i = x.getLsbD ((i + n) % 64) := by
  rw [BitVec.getLsbD_rotateRight]
  by_cases h : i < 64 - n % 64
  · simp only [h, decide_true, cond_true]; congr 1; omega
  · simp only [h, decide_false, cond_false, hi, decide_true, Bool.true_and]; congr 1; omega
theorem rr_xor (x y : BitVec 64) (n : Nat) : (x ^^^ y).rotateRight n = x.rotateRight n ^^^ y.rotateRight n := by
  apply BitVec.eq_of_getLsbD_eq; intro i hi
  simp only [BitVec.getLsbD_xor, rr_bit _ _ _ hi]
theorem rr_rr (x : BitVec 64) (a b : Nat) : (x.rotateRight a).rotateRight b = x.rotateRight (a + b) := by
  apply BitVec.eq_of_getLsbD_eq; intro i hi
  rw [rr_bit _ _ _ hi, rr_bit _ _ _ (Nat.mod_lt _ (by decide)), rr_bit _ _ _ hi]
  congr 1; omega
theorem rr_mod (x : BitVec 64) (a b : Nat) (h : a % 64 = b % 64) : x.rotateRight a = x.rotateRight b := by
  apply BitVec.eq_of_getLsbD_eq; intro i hi
  rw [rr_bit _ _ _ hi, rr_bit _ _ _ hi]
  congr 1; omega
theorem rr_zero (x : BitVec 64) : x.rotateRight 0 = x := by
  apply BitVec.eq_of_getLsbD_eq; intro i hi
  rw [rr_bit _ _ _ hi]; congr 1; omega
def spr (a b : Nat) (x : BitVec 64) : BitVec 64 := x ^^^ x.rotateRight a ^^^ x.rotateRight b
theorem spr_sq (a b : Nat) (x : BitVec 64) : spr a b (spr a b x) = spr (a + a) (b + b) x := by
  unfold spr
  simp only [rr_xor, rr_rr]
  rw [Nat.add_comm b a]
  generalize x.rotateRight (a+a) = p
  generalize x.rotateRight (b+b) = q
  generalize x.rotateRight (a+b) = r
  generalize x.rotateRight a = s
  generalize x.rotateRight b = t
  ext i hi; simp; cases x[i] <;> cases p[i] <;> cases q[i] <;> cases r[i] <;> cases s[i] <;> cases t[i] <;> rfl
theorem spr_inj (a b : Nat) (x y : BitVec 64) (h : spr a b x = spr a b y) : x = y := by
  have step : ∀ a b, spr a b x = spr a b y → spr (a+a) (b+b) x = spr (a+a) (b+b) y := fun a b h => by
    rw [← spr_sq, ← spr_sq, h]
  have h6 := step _ _ (step _ _ (step _ _ (step _ _ (step _ _ (step _ _ h)))))
  have id64 : ∀ z : BitVec 64, spr (a+a+(a+a)+(a+a+(a+a))+(a+a+(a+a)+(a+a+(a+a)))+(a+a+(a+a)+(a+a+(a+a))+(a+a+(a+a)+(a+a+(a+a))))+(a+a+(a+a)+(a+a+(a+a))+(a+a+(a+a)+(a+a+(a+a)))+(a+a+(a+a)+(a+a+(a+a))+(a+a+(a+a)+(a+a+(a+a)))))) 
     (b+b+(b+b)+(b+b+(b+b))+(b+b+(b+b)+(b+b+(b+b)))+(b+b+(b+b)+(b+b+(b+b))+(b+b+(b+b)+(b+b+(b+b))))+(b+b+(b+b)+(b+b+(b+b))+(b+b+(b+b)+(b+b+(b+b)))+(b+b+(b+b)+(b+b+(b+b))+(b+b+(b+b)+(b+b+(b+b)))))) z = z := fun z => by
    unfold spr
    rw [rr_mod z _ 0 (by omega), rr_mod z (b+b+(b+b)+(b+b+(b+b))+(b+b+(b+b)+(b+b+(b+b)))+(b+b+(b+b)+(b+b+(b+b))+(b+b+(b+b)+(b+b+(b+b))))+(b+b+(b+b)+(b+b+(b+b))+(b+b+(b+b)+(b+b+(b+b)))+(b+b+(b+b)+(b+b+(b+b))+(b+b+(b+b)+(b+b+(b+b)))))) 0 (by omega), rr_zero]
    simp
  rw [id64, id64] at h6
  exact h6

structure St where
  a : BitVec 64
  b : BitVec 64
  c : BitVec 64
  d : BitVec 64
  e : BitVec 64
def lay1 (s : St) : St := ⟨s.a ^^^ s.e, s.b, s.c ^^^ s.b, s.d, s.e ^^^ s.d⟩
def lay2 (s : St) : St := ⟨s.a ^^^ (~~~ s.b &&& s.c), s.b ^^^ (~~~ s.c &&& s.d), s.c ^^^ (~~~ s.d &&& s.e), s.d ^^^ (~~~ s.e &&& s.a), s.e ^^^ (~~~ s.a &&& s.b)⟩
def lay3 (s : St) : St := ⟨s.a ^^^ s.e, s.b ^^^ s.a, ~~~ s.c, s.d ^^^ s.c, s.e⟩
theorem St.ext' {s t : St} (h1 : s.a = t.a) (h2 : s.b = t.b) (h3 : s.c = t.c) (h4 : s.d = t.d) (h5 : s.e = t.e) : s = t := by
  cases s; cases t; simp only [St.mk.injEq]; exact ⟨h1, h2, h3, h4, h5⟩
theorem xor_cancel {x y z w : BitVec 64} (h : x ^^^ y = z ^^^ w) (hy : y = w) : x = z := by
  subst hy; have := congrArg (· ^^^ y) h; simpa [BitVec.xor_assoc] using this
theorem lay1_inj {s t : St} (h : lay1 s = lay1 t) : s = t := by
  simp only [lay1, St.mk.injEq] at h
  obtain ⟨h1, h2, h3, h4, h5⟩ := h
  have e5 := xor_cancel h5 h4
  exact St.ext' (xor_cancel h1 e5) h2 (xor_cancel h3 h2) h4 e5
theorem lay3_inj {s t : St} (h : lay3 s = lay3 t) : s = t := by
  simp only [lay3, St.mk.injEq] at h
  obtain ⟨h1, h2, h3, h4, h5⟩ := h
  have e1 := xor_cancel h1 h5
  have e3 : s.c = t.c := by have := congrArg (~~~ ·) h3; simpa using this
  exact St.ext' e1 (xor_cancel h2 e1) e3 (xor_cancel h4 e3) h5
theorem chi_bit : ∀ a b c d e a' b' c' d' e' : Bool, (a ^^ (!b && c)) = (a' ^^ (!b' && c')) → (b ^^ (!c && d)) = (b' ^^ (!c' && d')) →
    (c ^^ (!d && e)) = (c' ^^ (!d' && e')) → (d ^^ (!e && a)) = (d' ^^ (!e' && a')) → (e ^^ (!a && b)) = (e' ^^ (!a' && b')) →
    a = a' ∧ b = b' ∧ c = c' ∧ d = d' ∧ e = e' := by decide
theorem lay2_inj {s t : St} (h : lay2 s = lay2 t) : s = t := by
  simp only [lay2, St.mk.injEq] at h
  obtain ⟨h1, h2, h3, h4, h5⟩ := h
  have key : ∀ i, i < 64 → s.a.getLsbD i = t.a.getLsbD i ∧ s.b.getLsbD i = t.b.getLsbD i ∧ s.c.getLsbD i = t.c.getLsbD i ∧ s.d.getLsbD i = t.d.getLsbD i ∧ s.e.getLsbD i = t.e.getLsbD i := fun i hi => by
    have g1 := congrArg (·.getLsbD i) h1
    have g2 := congrArg (·.getLsbD i) h2
    have g3 := congrArg (·.getLsbD i) h3
    have g4 := congrArg (·.getLsbD i) h4
    have g5 := congrArg (·.getLsbD i) h5
    simp only [BitVec.getLsbD_xor, BitVec.getLsbD_and, BitVec.getLsbD_not, hi, decide_true, Bool.true_and] at g1 g2 g3 g4 g5
    exact chi_bit _ _ _ _ _ _ _ _ _ _ g1 g2 g3 g4 g5
  exact St.ext' (BitVec.eq_of_getLsbD_eq fun i hi => (key i hi).1) (BitVec.eq_of_getLsbD_eq fun i hi => (key i hi).2.1) (BitVec.eq_of_getLsbD_eq fun i hi => (key i hi).2.2.1)
    (BitVec.eq_of_getLsbD_eq fun i hi => (key i hi).2.2.2.1) (BitVec.eq_of_getLsbD_eq fun i hi => (key i hi).2.2.2.2)

def St.get (s : St) : Nat → BitVec 64
  | 0 => s.a
  | 1 => s.b
  | 2 => s.c
  | 3 => s.d
  | _ => s.e
def rc (i : Nat) : Nat := (15 - i) * 16 + i
def addc (i : Nat) (s : St) : St := ⟨s.a, s.b, s.c ^^^ BitVec.ofNat 64 (rc i), s.d, s.e⟩
def sbox (i : Nat) (s : St) : St := lay3 (lay2 (lay1 (addc i s)))
def ldl (s : St) : St := ⟨spr 19 28 s.a, spr 61 39 s.b, spr 1 6 s.c, spr 10 17 s.d, spr 7 41 s.e⟩
def rnd (i : Nat) (s : St) : St := ldl (sbox i s)
/-- The state behind j rounds of those of n. -/
def stt (n : Nat) (s : St) : Nat → St
  | 0 => s
  | j + 1 => rnd (12 - n + j) (stt n s j)
def perm (n : Nat) (s : St) : St := stt n s n
theorem addc_inj {i : Nat} {s t : St} (h : addc i s = addc i t) : s = t := by
  simp only [addc, St.mk.injEq] at h
  obtain ⟨h1, h2, h3, h4, h5⟩ := h
  exact St.ext' h1 h2 (xor_cancel h3 rfl) h4 h5
theorem ldl_inj {s t : St} (h : ldl s = ldl t) : s = t := by
  simp only [ldl, St.mk.injEq] at h
  obtain ⟨h1, h2, h3, h4, h5⟩ := h
  exact St.ext' (spr_inj _ _ _ _ h1) (spr_inj _ _ _ _ h2) (spr_inj _ _ _ _ h3) (spr_inj _ _ _ _ h4) (spr_inj _ _ _ _ h5)
theorem rnd_inj {i : Nat} {s t : St} (h : rnd i s = rnd i t) : s = t := addc_inj (lay1_inj (lay2_inj (lay3_inj (ldl_inj h))))
theorem stt_inj {n : Nat} {s t : St} : ∀ j, stt n s j = stt n t j → s = t
  | 0, h => h
  | j + 1, h => stt_inj j (rnd_inj h)
theorem perm_inj {n : Nat} {s t : St} (h : perm n s = perm n t) : s = t := stt_inj n h
def St.list (s : St) : List (BitVec 64) := [s.a, s.b, s.c, s.d, s.e]
theorem St.list_inj {s t : St} (h : s.list = t.list) : s = t := by
  simp only [St.list, List.cons.injEq] at h
  exact St.ext' h.1 h.2.1 h.2.2.1 h.2.2.2.1 h.2.2.2.2.1
end Go.Proofs.YtfilandehjmikaaDoor.Asc
