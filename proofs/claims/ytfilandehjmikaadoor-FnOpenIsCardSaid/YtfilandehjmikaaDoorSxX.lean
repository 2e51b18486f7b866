/- Tools over the abstract machine: frames told by a list, closed checks of runs, ranges of memory that turn, what a contract over a range says. No condition. -/
import Derived.Test.YtfilandehjmikaaDoorSxW
import Derived.KernelRfl
namespace Go.Proofs.YtfilandehjmikaaDoor.Sx
open Go.RowKit

def mkTr (l : List (Nat × AV)) : Tr := l.foldl (fun tr p => Tr.set 24 tr p.1 p.2) .lf
theorem mkTr_get {l : List (Nat × AV)} {t : Nat} {u : AV} (h : (mkTr l).get t = some u) : (t, u) ∈ l := by
  have key : ∀ (l : List (Nat × AV)) (tr : Tr), (l.foldl (fun tr p => Tr.set 24 tr p.1 p.2) tr).get t = some u → (t, u) ∈ l ∨ tr.get t = some u := by
    intro l
    induction l with
    | nil => exact fun _ h => .inr h
    | cons p l ih =>
      intro tr h
      rcases ih _ h with h | h
      · exact .inl (List.mem_cons_of_mem _ h)
      · rcases Tr.get_set _ _ _ _ _ _ h with ⟨e1, e2⟩ | ⟨_, e2⟩
        · subst e1; subst e2; exact .inl (List.mem_cons_self ..)
        · exact .inr e2
  rcases key l .lf h with h | h
  · exact h
  · cases h
/-- The same memory told in other terms. -/
theorem MRel.move {E : Env} {bl : Bl} {w0 w : World} {m m' : List MB} (h : MRel E bl w0 m w) (hlen : m'.length = m.length)
    (hp : ∀ (i : Nat) (b' : MB), m'[i]? = some b' → ∃ b : MB, m[i]? = some b ∧ b'.rw = b.rw ∧ b'.live = b.live ∧ b'.own = b.own ∧ b'.cs.map (AC.den E bl) = b.cs.map (AC.den E bl) ∧ b'.cs.all (AC.wf m.length) = true ∧ b'.row = b.row ∧ b'.solo = b.solo) : MRel E bl w0 m' w := by
  have len : ∀ {b b' : MB}, b'.cs.map (AC.den E bl) = b.cs.map (AC.den E bl) → b'.cs.length = b.cs.length := fun {b b'} e => by
    have := congrArg List.length e; simpa using this
  have bwd : ∀ {i : Nat} {b : MB}, m[i]? = some b → ∃ b' : MB, m'[i]? = some b' ∧ b'.rw = b.rw ∧ b'.cs.length = b.cs.length ∧ b'.lo E = b.lo E := fun {i b} hi => by
    have hlt : i < m'.length := by rw [hlen]; exact (List.getElem?_eq_some_iff.1 hi).1
    obtain ⟨c, hc, e1, _, _, e4, _, e6, _⟩ := hp i m'[i] (List.getElem?_eq_getElem hlt)
    have := Option.some.inj (hi.symm.trans hc)
    subst this
    exact ⟨_, List.getElem?_eq_getElem hlt, e1, len e4, by unfold MB.lo; rw [e6]⟩
  refine ⟨h.os, h.tape, h.output, h.size, ?_, ?_, ?_, ?_, ?_, ?_, ?_, h.keepf, ?_, ?_, ?_, ?_⟩
  · intro i b hi; obtain ⟨c, hc, _⟩ := hp i b hi; exact h.lt i c hc
  · intro i b j x hi hl hx
    obtain ⟨c, hc, _, e2, _, e4, _⟩ := hp i b hi
    have := congrArg (·[j]?) e4
    simp only [List.getElem?_map, hx, Option.map_some] at this
    cases hy : c.cs[j]? with
    | none => rw [hy] at this; cases this
    | some y =>
      rw [hy] at this
      rw [h.cell i c j y hc (e2 ▸ hl) hy]
      exact this.symm
  · intro i b hi _ x hx
    obtain ⟨c, hc, _, _, _, _, e5, _⟩ := hp i b hi
    rw [hlen]
    exact List.all_eq_true.1 e5 x hx
  · intro i b j hi hl hr hj
    obtain ⟨c, hc, e1, e2, _, e4, _⟩ := hp i b hi
    exact h.thaw i c j hc (e2 ▸ hl) (e1 ▸ hr) (len e4 ▸ hj)
  · intro i k bi bk hik hi hk hr hl hl'
    obtain ⟨c, hc, e1, e2, _, e4, _, e6, _⟩ := hp i bi hi
    obtain ⟨d, hd, _, f2, _, f4, _, f6, _⟩ := hp k bk hk
    rw [len e4, len f4, show bi.lo E = c.lo E by unfold MB.lo; rw [e6], show bk.lo E = d.lo E by unfold MB.lo; rw [f6]]
    exact h.sep i k c d hik hc hd (e1 ▸ hr) (e2 ▸ hl) (f2 ▸ hl')
  · intro k hk hn
    refine h.keep k hk fun i b hi hr => ?_
    obtain ⟨c, hc, e1, _⟩ := bwd hi
    exact hn i c hc (e1.trans hr)
  · intro k o hk hn
    refine h.keepc k o hk fun i b hi hr => ?_
    obtain ⟨c, hc, e1, e2, e3⟩ := bwd hi
    have := hn i c hc (e1.trans hr)
    rwa [e2, e3] at this
  · intro i b hi ho
    obtain ⟨c, hc, _, _, e3, _⟩ := hp i b hi
    exact h.new i c hc (e3 ▸ ho)
  · intro i b hi hl
    obtain ⟨c, hc, _, e2, _, _, _, e6, _⟩ := hp i b hi
    rw [show b.lo E = c.lo E by unfold MB.lo; rw [e6]]
    exact h.rowb i c hc (e2 ▸ hl)
  · intro i b j v hi hl hv
    obtain ⟨c, hc, _, e2, _, _, _, e6, _⟩ := hp i b hi
    rw [show b.lo E = c.lo E by unfold MB.lo; rw [e6]]
    exact h.rowc i c j v hc (e2 ▸ hl) (e6 ▸ hv)
  · intro i b hi hl hs
    obtain ⟨c, hc, _, e2, _, e4, _, e6, e7⟩ := hp i b hi
    obtain ⟨h1, h2, h3, h4, h5, h6⟩ := h.solo i c hc (e2 ▸ hl) (e7 ▸ hs)
    have elo : b.lo E = c.lo E := by unfold MB.lo; rw [e6]
    refine ⟨by rw [hlen]; exact h1, by rw [elo]; exact h2, by rw [elo, len e4]; exact h3, h4, h5, fun k bk hk hbk hlk => ?_⟩
    obtain ⟨d, hd, _, f2, _⟩ := hp k bk hbk
    exact h6 k d hk hd (f2 ▸ hlk)
def memBeq : List MB → List MB → Bool
  | [], [] => true
  | a :: l, b :: r => lBeq a.cs b.cs && (a.rw == b.rw) && (a.live == b.live) && (a.own == b.own) && Nat.beq a.row b.row && (a.solo == b.solo) && memBeq l r
  | _, _ => false
theorem memBeq_eq : ∀ {a b : List MB}, memBeq a b = true → a = b
  | [], [], _ => rfl
  | a :: l, b :: r, h => by
    simp only [memBeq, Bool.and_eq_true, beq_iff_eq, Nat.beq_eq] at h
    obtain ⟨⟨⟨⟨⟨⟨h1, h2⟩, h3⟩, h4⟩, h6⟩, h7⟩, h5⟩ := h
    rw [memBeq_eq h5]
    obtain ⟨c1, c2, c3, c4, c5, c6⟩ := a
    obtain ⟨d1, d2, d3, d4, d5, d6⟩ := b
    simp only at h1 h2 h3 h4 h6 h7
    rw [lBeq_eq h1, h2, h3, h4, h6, h7]
  | [], _ :: _, h => by cases h
  | _ :: _, [], h => by cases h
def AEx.beq : AEx → AEx → Bool
  | .nrm, .nrm => true
  | .ret, .ret => true
  | .exit a, .exit b => Nat.beq a b
  | _, _ => false
theorem AEx.beq_eq {a b : AEx} (h : a.beq b = true) : a = b := by
  cases a <;> cases b <;> simp only [AEx.beq] at h <;> first | (cases h; done) | rfl | (rw [Nat.eq_of_beq_eq_true h])
def memPre : List MB → List MB → Bool
  | [], r => r.all fun c => !c.rw || c.own
  | a :: l, b :: r => lBeq a.cs b.cs && (a.rw == b.rw) && (a.live == b.live) && (a.own == b.own) && Nat.beq a.row b.row && (a.solo == b.solo) && memPre l r
  | _ :: _, [] => false
theorem memPre_eq : ∀ {a b : List MB}, memPre a b = true → ∃ r : List MB, b = a ++ r ∧ (r.all fun c => !c.rw || c.own) = true
  | [], r, h => ⟨r, rfl, h⟩
  | a :: l, b :: r, h => by
    simp only [memPre, Bool.and_eq_true, beq_iff_eq, Nat.beq_eq] at h
    obtain ⟨⟨⟨⟨⟨⟨h1, h2⟩, h3⟩, h4⟩, h6⟩, h7⟩, h5⟩ := h
    obtain ⟨r', e, hr⟩ := memPre_eq h5
    refine ⟨r', ?_, hr⟩
    rw [e]
    obtain ⟨c1, c2, c3, c4, c5, c6⟩ := a
    obtain ⟨d1, d2, d3, d4, d5, d6⟩ := b
    simp only at h1 h2 h3 h4 h6 h7
    rw [lBeq_eq h1, h2, h3, h4, h6, h7]
    rfl
  | _ :: _, [], h => by cases h
/-- The last block is none that grows. -/
def soloIn : List MB → Bool
  | [] => true
  | b :: l => (match l with | [] => !(b.live && b.solo) | _ => true) && soloIn l
theorem soloIn_spec : ∀ {m : List MB}, soloIn m = true → ∀ (i : Nat) (b : MB), m[i]? = some b → b.live = true → b.solo = true → i + 1 < m.length
  | [], _, i, b, hi, _, _ => by simp at hi
  | [c], h, i, b, hi, hl, hs => by
    cases i with
    | zero =>
      cases hi
      simp [soloIn, hl, hs] at h
    | succ i => simp at hi
  | c :: d :: l, h, i, b, hi, hl, hs => by
    cases i with
    | zero => simp
    | succ i =>
      have := soloIn_spec (m := d :: l) (by simp only [soloIn, Bool.true_and] at h ⊢; exact h) i b (by simpa using hi) hl hs
      simp only [List.length_cons] at this ⊢
      omega
/-- A run ends so: by this exit, with these slots, and (up to blocks that are new) with this memory. -/
def endsAt (x : AEx) (l : List (Nat × AV)) (m : List MB) (r : ARes) : Bool :=
  match r with
  | some (y, tr, m') => x.beq y && (l.all fun p => (match tr.get p.1 with
    | some u => u.beq p.2
    | none => false) && p.2.wf m.length) && memPre m m' && soloIn m && m.all fun b => !b.live || b.cs.all (AC.wf m.length)
  | none => false
theorem endsAt_spec {x : AEx} {l : List (Nat × AV)} {m : List MB} {r : ARes} (h : endsAt x l m r = true) : ∃ tr r', r = some (x, tr, m ++ r') ∧ (∀ p ∈ l, tr.get p.1 = some p.2 ∧ p.2.wf m.length = true) ∧
    (r'.all fun c => !c.rw || c.own) = true ∧ (m.all fun b => !b.live || b.cs.all (AC.wf m.length)) = true ∧ soloIn m = true := by
  unfold endsAt at h
  split at h
  · rename_i y tr m'
    simp only [Bool.and_eq_true] at h
    obtain ⟨⟨⟨⟨h1, h2⟩, h3⟩, h5⟩, h4⟩ := h
    obtain ⟨r', e, hr⟩ := memPre_eq h3
    refine ⟨tr, r', by rw [AEx.beq_eq h1, e], fun p hp => ?_, hr, h4, h5⟩
    have := List.all_eq_true.1 h2 p hp
    simp only [Bool.and_eq_true] at this
    obtain ⟨this, hw⟩ := this
    split at this
    · rename_i u hu; rw [hu, AV.beq_eq this]; exact ⟨rfl, hw⟩
    · cases this
  · cases h
theorem MRel.take {E : Env} {bl : Bl} {w0 w : World} {m r : List MB} (h : MRel E bl w0 (m ++ r) w) (hr : (r.all fun c => !c.rw || c.own) = true) (hm : (m.all fun b => !b.live || b.cs.all (AC.wf m.length)) = true) (hso : soloIn m = true) : MRel E bl w0 m w := by
  have up : ∀ {i : Nat} {b : MB}, m[i]? = some b → (m ++ r)[i]? = some b := fun {i b} hi => by
    rw [List.getElem?_append_left (List.getElem?_eq_some_iff.1 hi).1]; exact hi
  have down : ∀ {i : Nat} {b : MB}, (m ++ r)[i]? = some b → m[i]? = some b ∨ (b.rw = true → w0.heap.size ≤ (bl i).1) := fun {i b} hi => by
    by_cases hlt : i < m.length
    · rw [List.getElem?_append_left hlt] at hi; exact .inl hi
    · refine .inr fun hrw => h.new i b hi ?_
      rw [List.getElem?_append_right (by omega)] at hi
      have := List.all_eq_true.1 hr b (List.mem_of_getElem? hi)
      simpa [hrw] using this
  refine ⟨h.os, h.tape, h.output, h.size, fun i b hi => h.lt i b (up hi), fun i b j x hi => h.cell i b j x (up hi), ?_, fun i b j hi => h.thaw i b j (up hi),
    fun i k bi bk hik hi hk => h.sep i k bi bk hik (up hi) (up hk), ?_, ?_, h.keepf, fun i b hi => h.new i b (up hi), fun i b hi => h.rowb i b (up hi), fun i b j v hi => h.rowc i b j v (up hi), fun i b hi hl hs => by
      obtain ⟨_, h2, h3, h4, h5, h6⟩ := h.solo i b (up hi) hl hs
      exact ⟨soloIn_spec hso i b hi hl hs, h2, h3, h4, h5, fun k bk hk hbk => h6 k bk hk (up hbk)⟩⟩
  · intro i b hi hl x hx
    have := List.all_eq_true.1 hm b (List.mem_of_getElem? hi)
    simp only [hl, Bool.not_true, Bool.false_or] at this
    exact List.all_eq_true.1 this x hx
  · intro b hb hn
    refine h.keep b hb fun i bi hi hrw => ?_
    rcases down hi with h1 | h1
    · exact hn i bi h1 hrw
    · have := h1 hrw; omega
  · intro b o hb hn
    refine h.keepc b o hb fun i bi hi hrw => ?_
    rcases down hi with h1 | h1
    · exact hn i bi h1 hrw
    · have := h1 hrw; rintro ⟨e, _⟩; omega
section
variable {P : Program} {E : Env} {w0 : World} {G : Cfg} {F : CallF} {nt : Nat}
theorem SRel.weaken {bl : Bl} {tr : Tr} {m : List MB} {a : Act} {w : World} (h : SRel E bl w0 G nt tr m a w) {l : List (Nat × AV)} (hl : ∀ p ∈ l, tr.get p.1 = some p.2) {G' : Cfg} (hg : G'.g = G.g) : SRel E bl w0 G' nt (mkTr l) m a w :=
  ⟨h.defers, h.size, fun t u hu => h.tmps t u (hl (t, u) (mkTr_get hu)), h.mem, by rw [hg]; exact h.glob⟩
theorem SRel.move {bl : Bl} {tr : Tr} {m : List MB} {a : Act} {w : World} (h : SRel E bl w0 G nt tr m a w) {l : List (Nat × AV)} (hl : ∀ p ∈ l, ∃ u, tr.get p.1 = some u ∧ u.den E bl = p.2.den E bl ∧ p.2.wf m.length = true) {G' : Cfg} (hg : G'.g = G.g) : SRel E bl w0 G' nt (mkTr l) m a w :=
  ⟨h.defers, h.size, fun t u hu => by
    obtain ⟨u', h1, h2, h3⟩ := hl (t, u) (mkTr_get hu)
    exact ⟨(h.tmps t u' h1).1.trans h2, h3⟩, h.mem, by rw [hg]; exact h.glob⟩
/-- A piece of code by a closed check of its run. -/
theorem code_wp (hE : CfgOk P E w0 G) (hF : CallOk P E w0 G F) (hmix : P.follows .mixedOrders = true) {fuel : Nat} {c : Code} {tr : Tr} {m m' : List MB} {x : AEx} {l : List (Nat × AV)} {bl : Bl} {a : Act} {w : World} {Q : Exit → Act → World → Prop}
    (h : endsAt x l m' (aCode P G F nt fuel c tr m) = true) (hle : m.length ≤ m'.length) (hs : SRel E bl w0 G nt tr m a w)
    (hq : ∀ bl' a' w', Agree m.length bl bl' → SRel E bl' w0 G nt (mkTr l) m' a' w' → Q x.toExit a' w') : c.wp P Q a w := by
  obtain ⟨tr', r, hr, hl, hrr, hmm, hso⟩ := endsAt_spec h
  exact aCode_sound hE hF hmix fuel c tr tr' m (m' ++ r) x bl a w Q hr hs fun bl' a' w' ha _ hs' => hq bl' a' w' ha
    ⟨hs'.defers, hs'.size, fun t u hu => by
      obtain ⟨h1, h2⟩ := hl (t, u) (mkTr_get hu)
      exact ⟨(hs'.tmps t u h1).1, h2⟩, hs'.mem.take hrr hmm hso, hs.glob.agree ha hle⟩
end

/-! ### a range that turns -/
/-- Between the worlds w and w' just the range of these values at b, o has turned, and there may be new blocks. -/
structure Upd (w w' : World) (b o : Nat) (vs : List Value) : Prop where
  os : w'.os = w.os
  tape : w'.tape = w.tape
  output : w'.output = w.output
  size : w.heap.size ≤ w'.heap.size
  cell : ∀ (j : Nat) (v : Value), vs[j]? = some v → w'.cell? ⟨b, o + j, none⟩ = some v
  keep : ∀ k, k < w.heap.size → k ≠ b → w'.heap[k]? = w.heap[k]?
  keepc : ∀ k q, k < w.heap.size → ¬(k = b ∧ o ≤ q ∧ q < o + vs.length) → w'.cell? ⟨k, q, none⟩ = w.cell? ⟨k, q, none⟩
  keepf : ∀ k q, k < w.heap.size → w'.frozen? ⟨k, q, none⟩ = w.frozen? ⟨k, q, none⟩
theorem putAll_get (xs : List AC) : ∀ (cells : List AC) (off j : Nat), off + xs.length ≤ cells.length →
    (putAll cells off xs)[j]? = if off ≤ j ∧ j < off + xs.length then xs[j - off]? else cells[j]? := by
  induction xs with
  | nil => intro cells off j _; simp only [putAll, List.length_nil, Nat.add_zero]; rw [if_neg (by omega)]
  | cons x xs ih =>
    intro cells off j h
    simp only [List.length_cons] at h
    rw [putAll, ih _ _ _ (by simp; omega)]
    simp only [List.length_cons]
    by_cases h1 : off + 1 ≤ j ∧ j < off + 1 + xs.length
    · rw [if_pos h1, if_pos (by omega), show j - off = (j - (off + 1)) + 1 by omega, List.getElem?_cons_succ]
    · rw [if_neg h1]
      by_cases h2 : j = off
      · subst h2
        rw [if_pos (by omega), List.getElem?_set_self (by omega), Nat.sub_self]; rfl
      · rw [if_neg (by omega), List.getElem?_set_ne (by omega)]
section
variable {E : Env} {bl : Bl} {w0 w w' : World} {m : List MB}
theorem MRel.upd (h : MRel E bl w0 m w) {r : Nat} {b : MB} {off : Nat} {xs : List AC} (hr : m[r]? = some b) (hrw : b.rw = true) (hlive : b.live = true) (hso : b.solo = false) (hoff : off + xs.length ≤ b.cs.length)
    (hx : xs.all (AC.wf m.length) = true) (hu : Upd w w' (bl r).1 ((bl r).2 + off) (xs.map (AC.den E bl))) : MRel E bl w0 (m.set r { b with cs := putAll b.cs off xs }) w' := by
  have hrlt : r < m.length := (List.getElem?_eq_some_iff.1 hr).1
  have hlen : (putAll b.cs off xs).length = b.cs.length := putAll_length _ _ _
  have get : ∀ {i : Nat} {c : MB}, (m.set r { b with cs := putAll b.cs off xs })[i]? = some c → (i = r ∧ c = { b with cs := putAll b.cs off xs }) ∨ (i ≠ r ∧ m[i]? = some c) := fun {i c} hi => by
    by_cases hir : r = i
    · subst hir
      rw [List.getElem?_set_self hrlt] at hi
      exact .inl ⟨rfl, (Option.some.inj hi).symm⟩
    · rw [List.getElem?_set_ne hir] at hi
      exact .inr ⟨fun e => hir e.symm, hi⟩
  have bwd : ∀ {i : Nat} {c : MB}, m[i]? = some c → ∃ c' : MB, (m.set r { b with cs := putAll b.cs off xs })[i]? = some c' ∧ c'.rw = c.rw ∧ c'.live = c.live ∧ c'.cs.length = c.cs.length ∧ c'.row = c.row := fun {i c} hi => by
    by_cases hir : r = i
    · subst hir
      have := Option.some.inj (hr.symm.trans hi)
      subst this
      exact ⟨_, List.getElem?_set_self hrlt, rfl, rfl, hlen, rfl⟩
    · exact ⟨c, by rw [List.getElem?_set_ne hir]; exact hi, rfl, rfl, rfl, rfl⟩
  have fwd : ∀ {i : Nat} {c : MB}, (m.set r { b with cs := putAll b.cs off xs })[i]? = some c → ∃ c0 : MB, m[i]? = some c0 ∧ c.rw = c0.rw ∧ c.live = c0.live ∧ c.cs.length = c0.cs.length ∧ c.own = c0.own ∧ c.row = c0.row ∧ c.solo = c0.solo := fun {i c} hi => by
    rcases get hi with ⟨rfl, rfl⟩ | ⟨_, hm⟩
    · exact ⟨b, hr, rfl, rfl, hlen, rfl, rfl, rfl⟩
    · exact ⟨c, hm, rfl, rfl, rfl, rfl, rfl, rfl⟩
  have hxl : (xs.map (AC.den E bl)).length = xs.length := List.length_map _
  refine ⟨hu.os.trans h.os, hu.tape.trans h.tape, hu.output.trans h.output, Nat.le_trans h.size hu.size, ?_, ?_, ?_, ?_, ?_, ?_, ?_, ?_, ?_, ?_, ?_, ?_⟩
  · intro i c hi
    obtain ⟨c0, hm, _⟩ := fwd hi
    exact Nat.lt_of_lt_of_le (h.lt i c0 hm) hu.size
  · intro i c j y hi hl hy
    rcases get hi with ⟨rfl, rfl⟩ | ⟨hne, hm⟩
    · simp only at hy hl
      rw [putAll_get _ _ _ _ hoff] at hy
      split at hy
      · rename_i hj
        have := hu.cell (j - off) (y.den E bl) (by rw [List.getElem?_map, hy]; rfl)
        rw [← this]
        simp only [at_]
        congr 2
        omega
      · rename_i hj
        rw [show at_ bl i j = ⟨(bl i).1, (bl i).2 + j, none⟩ from rfl, hu.keepc _ _ (h.lt i b hr) (by rw [hxl]; omega)]
        exact h.cell i b j y hr hl hy
    · have hj : j < c.cs.length := (List.getElem?_eq_some_iff.1 hy).1
      rw [show at_ bl i j = ⟨(bl i).1, (bl i).2 + j, none⟩ from rfl, hu.keepc _ _ (h.lt i c hm) (by
        rw [hxl]
        rintro ⟨e1, e2, e3⟩
        rcases h.sep r i b c (Ne.symm hne) hr hm hrw hlive hl with h1 | h1 | h1
        · exact h1 e1.symm
        · omega
        · omega)]
      exact h.cell i c j y hm hl hy
  · intro i c hi hl y hy
    rw [List.length_set]
    rcases get hi with ⟨rfl, rfl⟩ | ⟨_, hm⟩
    · simp only at hy
      obtain ⟨j, hj⟩ := List.getElem?_of_mem hy
      rw [putAll_get _ _ _ _ hoff] at hj
      split at hj
      · exact (List.all_eq_true.1 hx) y (List.mem_of_getElem? hj)
      · exact h.wf _ b hr hl y (List.mem_of_getElem? hj)
    · exact h.wf i c hm hl y hy
  · intro i c j hi hl hrw' hj
    obtain ⟨c0, hm, e1, e2, e3, _⟩ := fwd hi
    rw [show at_ bl i j = ⟨(bl i).1, (bl i).2 + j, none⟩ from rfl, hu.keepf _ _ (h.lt i c0 hm)]
    exact h.thaw i c0 j hm (e2 ▸ hl) (e1 ▸ hrw') (e3 ▸ hj)
  · intro i k ci ck hik hi hk hr' hli hlk
    obtain ⟨c0, hm, e1, e2, e3, _, e5, _⟩ := fwd hi
    obtain ⟨k0, hm', f1, f2, f3, _, f5, _⟩ := fwd hk
    have := h.sep i k c0 k0 hik hm hm' (e1 ▸ hr') (e2 ▸ hli) (f2 ▸ hlk)
    rw [e3, f3, show ci.lo E = c0.lo E by unfold MB.lo; rw [e5], show ck.lo E = k0.lo E by unfold MB.lo; rw [f5]]
    exact this
  · intro k hk hn
    have hne : (bl r).1 ≠ k := hn r _ (List.getElem?_set_self hrlt) hrw
    rw [hu.keep k (Nat.lt_of_lt_of_le hk h.size) (Ne.symm hne)]
    refine h.keep k hk fun i ci hi hr' => ?_
    obtain ⟨c', hc', e1, _⟩ := bwd hi
    exact hn i c' hc' (e1.trans hr')
  · intro k q hk hn
    have hne := hn r _ (List.getElem?_set_self hrlt) hrw
    rw [hu.keepc k q (Nat.lt_of_lt_of_le hk h.size) (by
      rw [hxl]
      rintro ⟨e1, e2, e3⟩
      apply hne
      simp only [hlen]
      exact ⟨e1.symm, by omega, by omega⟩)]
    refine h.keepc k q hk fun i ci hi hr' => ?_
    obtain ⟨c', hc', e1, _, e3, e4⟩ := bwd hi
    have := hn i c' hc' (e1.trans hr')
    rwa [e3, show c'.lo E = ci.lo E by unfold MB.lo; rw [e4]] at this
  · intro k q hk
    rw [hu.keepf k q (Nat.lt_of_lt_of_le hk h.size)]
    exact h.keepf k q hk
  · intro i c hi ho
    obtain ⟨c0, hm, _, _, _, e4, _⟩ := fwd hi
    exact h.new i c0 hm (e4 ▸ ho)
  · intro i c hi hl
    obtain ⟨c0, hm, _, e2, _, _, e5, _⟩ := fwd hi
    rw [show c.lo E = c0.lo E by unfold MB.lo; rw [e5]]
    exact h.rowb i c0 hm (e2 ▸ hl)
  · intro i c j v hi hl hv
    obtain ⟨c0, hm, _, e2, _, _, e5, _⟩ := fwd hi
    have hlo := h.rowb i c0 hm (e2 ▸ hl)
    have hj : j < c0.lo E := by rw [e5] at hv; exact (List.getElem?_eq_some_iff.1 hv).1
    rw [show c.lo E = c0.lo E by unfold MB.lo; rw [e5]]
    rw [hu.keepc _ _ (h.lt i c0 hm) (by
      rw [hxl]
      rintro ⟨f1, f2, f3⟩
      by_cases hir : r = i
      · subst hir
        omega
      · rcases h.sep r i b c0 hir hr hm hrw hlive (e2 ▸ hl) with h1 | h1 | h1
        · exact h1 f1.symm
        · omega
        · omega)]
    exact h.rowc i c0 j v hm (e2 ▸ hl) (e5 ▸ hv)
  · intro i c hi hl hs
    obtain ⟨c0, hm, _, e2, e3, _, e5, e6⟩ := fwd hi
    obtain ⟨h1, h2, h3, h4, h5, h6⟩ := h.solo i c0 hm (e2 ▸ hl) (e6 ▸ hs)
    have elo : c.lo E = c0.lo E := by unfold MB.lo; rw [e5]
    have hir : r ≠ i := fun e => by subst e; rw [hr] at hm; cases hm; rw [hso] at e6; rw [e6] at hs; cases hs
    have hne : (bl r).1 ≠ (bl i).1 := h6 r b hir hr hlive
    have hk := hu.keep _ (h.lt i c0 hm) (Ne.symm hne)
    refine ⟨by rw [List.length_set]; exact h1, by rw [elo]; exact h2, by rw [elo, e3]; exact h3, h4, fun j hj => ?_, fun k bk hk hbk hlk => ?_⟩
    · have := h5 j hj
      simp only [World.cell?, World.frozen?, hk] at this ⊢
      exact this
    · obtain ⟨k0, hk0, _, f2, _⟩ := fwd hbk
      exact h6 k k0 hk hk0 (f2 ▸ hlk)
/-- Nothing that was there turns; blocks may be new. -/
theorem Upd.of_below (h : Below w.heap.size w w') (b o : Nat) : Upd w w' b o [] :=
  ⟨h.os, h.tape, h.output, h.size, fun j v hv => by simp at hv, fun k hk _ => h.block k hk, fun k q hk _ => h.cell (p := ⟨k, q, none⟩) hk, fun k q hk => h.frozen (p := ⟨k, q, none⟩) hk⟩
theorem MRel.belowStep (h : MRel E bl w0 m w) (hb : Below w.heap.size w w') : MRel E bl w0 m w' :=
  ⟨hb.os.trans h.os, hb.tape.trans h.tape, hb.output.trans h.output, Nat.le_trans h.size hb.size, fun i b hi => Nat.lt_of_lt_of_le (h.lt i b hi) hb.size,
    fun i b j x hi hl hx => (hb.cell (p := at_ bl i j) (h.lt i b hi)).trans (h.cell i b j x hi hl hx), h.wf,
    fun i b j hi hl hr hj => (hb.frozen (p := at_ bl i j) (h.lt i b hi)).trans (h.thaw i b j hi hl hr hj), h.sep,
    fun k hk hn => (hb.block k (Nat.lt_of_lt_of_le hk h.size)).trans (h.keep k hk hn),
    fun k q hk hn => (hb.cell (p := ⟨k, q, none⟩) (Nat.lt_of_lt_of_le hk h.size)).trans (h.keepc k q hk hn),
    fun k q hk => (hb.frozen (p := ⟨k, q, none⟩) (Nat.lt_of_lt_of_le hk h.size)).trans (h.keepf k q hk), h.new, h.rowb,
    fun i b j v hi hl hv => (hb.cell (p := ⟨_, _, none⟩) (h.lt i b hi)).trans (h.rowc i b j v hi hl hv),
    fun i b hi hl hs => by
      obtain ⟨h1, h2, h3, h4, h5, h6⟩ := h.solo i b hi hl hs
      refine ⟨h1, h2, h3, h4, fun j hj => ?_, h6⟩
      rw [hb.cell (p := ⟨_, _, none⟩) (h.lt i b hi), hb.frozen (p := ⟨_, _, none⟩) (h.lt i b hi)]
      exact h5 j hj⟩
/-- A start at one block that may be written, known in a range. -/
theorem MRel.one {b o : Nat} {cs : List AC} {bl : Bl} (hb : bl 0 = (b, o)) (hlt : b < w.heap.size) (hc : ∀ (j : Nat) (x : AC), cs[j]? = some x → w.cell? ⟨b, o + j, none⟩ = some (x.den E bl)) (hwf : cs.all (AC.wf 1) = true)
    (hf : ∀ j, j < cs.length → w.frozen? ⟨b, o + j, none⟩ = false) : MRel E bl w [⟨cs, true, true, false, 0, false⟩] w := by
  have get : ∀ {i : Nat} {c : MB}, [(⟨cs, true, true, false, 0, false⟩ : MB)][i]? = some c → i = 0 ∧ c = ⟨cs, true, true, false, 0, false⟩ := fun {i c} h => by
    cases i with
    | zero => exact ⟨rfl, (Option.some.inj h).symm⟩
    | succ i => simp at h
  refine ⟨rfl, rfl, rfl, Nat.le_refl _, ?_, ?_, ?_, ?_, ?_, fun _ _ _ => rfl, fun _ _ _ _ => rfl, fun _ _ _ => rfl, ?_, ?_, ?_, ?_⟩
  · intro i c h; obtain ⟨rfl, rfl⟩ := get h; rw [hb]; exact hlt
  · intro i c j x h _ hx; obtain ⟨rfl, rfl⟩ := get h; simp only [at_, hb]; exact hc j x hx
  · intro i c h _ x hx; obtain ⟨rfl, rfl⟩ := get h; exact (List.all_eq_true.1 hwf) x hx
  · intro i c j h _ _ hj; obtain ⟨rfl, rfl⟩ := get h; simp only [at_, hb]; exact hf j hj
  · intro i k ci ck hik h h' _ _ _; obtain ⟨rfl, rfl⟩ := get h; obtain ⟨rfl, rfl⟩ := get h'; exact absurd rfl hik
  · intro i c h ho; obtain ⟨rfl, rfl⟩ := get h; cases ho
  · intro i c h _; obtain ⟨rfl, rfl⟩ := get h; exact Nat.zero_le _
  · intro i c j v h _ hv; obtain ⟨rfl, rfl⟩ := get h; simp [rowOf] at hv
  · intro i c h _ hs; obtain ⟨rfl, rfl⟩ := get h; cases hs
/-- .. and what its end says. -/
theorem MRel.one_upd {b o : Nat} {cs : List AC} {bl : Bl} {r : List MB} (hb : bl 0 = (b, o)) (h : MRel E bl w (⟨cs, true, true, false, 0, false⟩ :: r) w') (hr : (r.all fun c => !c.rw || c.own) = true) : Upd w w' b o (cs.map (AC.den E bl)) := by
  have get : ∀ {i : Nat} {c : MB}, (⟨cs, true, true, false, 0, false⟩ :: r : List MB)[i]? = some c → i = 0 ∧ c = ⟨cs, true, true, false, 0, false⟩ ∨ (c.rw = true → w.heap.size ≤ (bl i).1) := fun {i c} hi => by
    cases i with
    | zero => exact .inl ⟨rfl, (Option.some.inj hi).symm⟩
    | succ i =>
      refine .inr fun hrw => h.new _ c hi ?_
      have := List.all_eq_true.1 hr c (List.mem_of_getElem? (by simpa using hi))
      simpa [hrw] using this
  refine ⟨h.os, h.tape, h.output, h.size, ?_, ?_, ?_, h.keepf⟩
  · intro j v hv
    rw [List.getElem?_map] at hv
    cases hx : cs[j]? with
    | none => rw [hx] at hv; cases hv
    | some x =>
      rw [hx] at hv
      cases hv
      have := h.cell 0 _ j x rfl rfl hx
      simpa only [at_, hb] using this
  · intro k hk hne
    refine h.keep k hk fun i c hi hrw => ?_
    rcases get hi with ⟨rfl, _⟩ | hg
    · rw [hb]; exact Ne.symm hne
    · have := hg hrw; omega
  · intro k q hk hne
    refine h.keepc k q hk fun i c hi hrw => ?_
    rcases get hi with ⟨rfl, rfl⟩ | hg
    · rw [hb]
      rintro ⟨e1, e2, e3⟩
      exact hne ⟨e1.symm, by simpa [MB.lo, rowOf] using e2, by simpa using e3⟩
    · have := hg hrw
      rintro ⟨e1, _, _⟩
      omega
end
end Go.Proofs.YtfilandehjmikaaDoor.Sx
