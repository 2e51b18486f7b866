/- From a world's cells to the abstract memory, and back: starts, ends, what a piece of code may turn, slices that are new. No condition. -/
import Derived.Test.YtfilandehjmikaaDoorSxL
namespace Go.Proofs.YtfilandehjmikaaDoor.Sx
open Go.RowKit

/-- From this place on the cells hold these values. -/
def At (w : World) (b o : Nat) (vs : List Value) : Prop := ∀ (j : Nat) (v : Value), vs[j]? = some v → w.cell? ⟨b, o + j, none⟩ = some v
def Thaw (w : World) (b o n : Nat) : Prop := ∀ j, j < n → w.frozen? ⟨b, o + j, none⟩ = false
/-- Between the worlds only these ranges (block, from, how many cells) may have turned; there may be new blocks. -/
structure Chg (w w' : World) (R : List (Nat × Nat × Nat)) : Prop where
  os : w'.os = w.os
  tape : w'.tape = w.tape
  output : w'.output = w.output
  size : w.heap.size ≤ w'.heap.size
  keep : ∀ k, k < w.heap.size → (∀ r ∈ R, r.1 ≠ k) → w'.heap[k]? = w.heap[k]?
  keepc : ∀ k q, k < w.heap.size → (∀ r ∈ R, ¬(r.1 = k ∧ r.2.1 ≤ q ∧ q < r.2.1 + r.2.2)) → w'.cell? ⟨k, q, none⟩ = w.cell? ⟨k, q, none⟩
  keepf : ∀ k q, k < w.heap.size → w'.frozen? ⟨k, q, none⟩ = w.frozen? ⟨k, q, none⟩
section
variable {w w' w'' : World} {R R' : List (Nat × Nat × Nat)}
theorem Chg.of_below (h : Below w.heap.size w w') : Chg w w' R :=
  ⟨h.os, h.tape, h.output, h.size, fun k hk _ => h.block k hk, fun k q hk _ => h.cell (p := ⟨k, q, none⟩) hk, fun k q hk => h.frozen (p := ⟨k, q, none⟩) hk⟩
theorem Chg.refl : Chg w w R := .of_below (Below.refl _ _)
theorem Chg.trans (h : Chg w w' R) (k : Chg w' w'' R) : Chg w w'' R :=
  ⟨k.os.trans h.os, k.tape.trans h.tape, k.output.trans h.output, Nat.le_trans h.size k.size, fun b hb hr => (k.keep b (Nat.lt_of_lt_of_le hb h.size) hr).trans (h.keep b hb hr),
    fun b q hb hr => (k.keepc b q (Nat.lt_of_lt_of_le hb h.size) hr).trans (h.keepc b q hb hr), fun b q hb => (k.keepf b q (Nat.lt_of_lt_of_le hb h.size)).trans (h.keepf b q hb)⟩
theorem Chg.mono (h : Chg w w' R) (hR : ∀ r ∈ R, r.1 < w.heap.size → ∃ r' ∈ R', r'.1 = r.1 ∧ r'.2.1 ≤ r.2.1 ∧ r.2.1 + r.2.2 ≤ r'.2.1 + r'.2.2) : Chg w w' R' :=
  ⟨h.os, h.tape, h.output, h.size, fun k hk hr => h.keep k hk fun r hr' e => by
      obtain ⟨r', h1, h2, _⟩ := hR r hr' (by omega)
      exact hr r' h1 (h2.trans e),
    fun k q hk hr => h.keepc k q hk fun r hr' e => by
      obtain ⟨r', h1, h2, h3, h4⟩ := hR r hr' (by omega)
      exact hr r' h1 ⟨h2.trans e.1, by omega, by omega⟩, h.keepf⟩
theorem Chg.below (h : Chg w w' []) : Below w.heap.size w w' := ⟨h.os, h.tape, h.output, h.size, fun k hk => h.keep k hk fun _ hr => nomatch hr⟩
theorem at_lt {b o : Nat} {vs : List Value} (h : At w b o vs) (hne : vs ≠ []) : b < w.heap.size := by
  cases vs with
  | nil => exact absurd rfl hne
  | cons v vs => exact cell_lt (h 0 v rfl)
theorem Chg.at {b o : Nat} {vs : List Value} (h : Chg w w' R) (ha : At w b o vs) (hr : ∀ r ∈ R, r.1 ≠ b ∨ r.2.1 + r.2.2 ≤ o ∨ o + vs.length ≤ r.2.1) : At w' b o vs := fun j v hv => by
  have hj := (List.getElem?_eq_some_iff.1 hv).1
  rw [h.keepc b (o + j) (cell_lt (ha j v hv)) fun r hm e => by
    rcases hr r hm with h1 | h1 | h1
    · exact h1 e.1
    · omega
    · omega]
  exact ha j v hv
theorem Chg.thaw {b o n : Nat} (h : Chg w w' R) (hb : b < w.heap.size) (ha : Thaw w b o n) : Thaw w' b o n := fun j hj => by rw [h.keepf b (o + j) hb]; exact ha j hj
theorem Upd.chg {b o : Nat} {vs : List Value} (h : Upd w w' b o vs) : Chg w w' [(b, o, vs.length)] ∧ At w' b o vs :=
  ⟨⟨h.os, h.tape, h.output, h.size, fun k hk hr => h.keep k hk (Ne.symm (hr _ (List.mem_singleton.2 rfl))), fun k q hk hr => h.keepc k q hk fun ⟨e1, e2, e3⟩ => hr _ (List.mem_singleton.2 rfl) ⟨e1.symm, e2, e3⟩, h.keepf⟩, h.cell⟩
theorem At.below {b o : Nat} {vs : List Value} (ha : At w b o vs) (h : Below w.heap.size w w') : At w' b o vs := (Chg.of_below (R := []) h).at ha fun _ hr => nomatch hr
theorem At.append {b o : Nat} {x y : List Value} : At w b o (x ++ y) ↔ At w b o x ∧ At w b (o + x.length) y := by
  constructor
  · intro h
    refine ⟨fun j v hv => h j v (by rw [List.getElem?_append_left (List.getElem?_eq_some_iff.1 hv).1]; exact hv), fun j v hv => ?_⟩
    have := h (x.length + j) v (by rw [List.getElem?_append_right (by omega)]; simpa using hv)
    rwa [← Nat.add_assoc] at this
  · intro ⟨h1, h2⟩ j v hv
    by_cases hj : j < x.length
    · rw [List.getElem?_append_left hj] at hv; exact h1 j v hv
    · rw [List.getElem?_append_right (by omega)] at hv
      have := h2 (j - x.length) v hv
      rwa [show o + x.length + (j - x.length) = o + j by omega] at this
/-- A slice that is there, by its cells. -/
theorem SlV.cons {v : Value} {vs : List Value} (h : SlV w v vs) (hne : vs ≠ []) : ∃ b o cap, v = .slice (some ⟨b, o, none⟩) vs.length cap ∧ vs.length ≤ cap ∧ At w b o vs ∧ b < w.heap.size := by
  rcases h with ⟨_, h⟩ | ⟨⟨b, o, s⟩, cap, h1, h2, h3⟩
  · exact absurd h hne
  · cases vs with
    | nil => exact absurd rfl hne
    | cons x vs =>
      have h0 := h3 0 x rfl
      have hs : s = none := by
        cases s with
        | none => rfl
        | some q =>
          have : (⟨b, o, some q⟩ : Addr).add 0 = ⟨b, o, some q⟩ := rfl
          rw [this] at h0
          simp only [World.cell?] at h0
          split at h0 <;> simp at h0
      subst hs
      have ha : At w b o (x :: vs) := fun j y hy => by rw [← h3 j y hy, Addr.add_lit]
      exact ⟨b, o, cap, h1, h2, ha, at_lt ha (by simp)⟩
theorem SlV.mk {b o cap : Nat} {vs : List Value} (h : At w b o vs) (hc : vs.length ≤ cap) : SlV w (.slice (some ⟨b, o, none⟩) vs.length cap) vs :=
  .inr ⟨⟨b, o, none⟩, cap, rfl, hc, fun j x hx => by rw [Addr.add_lit]; exact h j x hx⟩
/-- A slice of a block of its own, that is no older than the world w0. -/
structure OwnG (w0 w : World) (g cap : Nat) (v : Value) (vs : List Value) : Prop where
  val : v = .slice (some ⟨g, 0, none⟩) vs.length cap
  le : vs.length ≤ cap
  max : cap ≤ maxLen
  new : w0.heap.size ≤ g
  lt : g < w.heap.size
  cells : At w g 0 vs
  room : ∀ j, j < cap → (w.cell? ⟨g, j, none⟩).isSome = true ∧ w.frozen? ⟨g, j, none⟩ = false
theorem OwnG.sl {w0 : World} {g cap : Nat} {v : Value} {vs : List Value} (h : OwnG w0 w g cap v vs) : SlV w v vs := h.val ▸ SlV.mk h.cells h.le
theorem OwnG.below {w0 : World} {g cap : Nat} {v : Value} {vs : List Value} (h : OwnG w0 w g cap v vs) (hb : Below w.heap.size w w') : OwnG w0 w' g cap v vs :=
  ⟨h.val, h.le, h.max, h.new, Nat.lt_of_lt_of_le h.lt hb.size, h.cells.below hb, fun j hj => by rw [hb.cell (p := ⟨g, j, none⟩) h.lt, hb.frozen (p := ⟨g, j, none⟩) h.lt]; exact h.room j hj⟩
theorem OwnG.mono {w0 w1 : World} {g cap : Nat} {v : Value} {vs : List Value} (h : OwnG w0 w g cap v vs) (hb : w1.heap.size ≤ w0.heap.size) : OwnG w1 w g cap v vs := ⟨h.val, h.le, h.max, Nat.le_trans hb h.new, h.lt, h.cells, h.room⟩
end

section
variable {E : Env} {bl : Bl} {w0 w w' : World} {m : List MB}
/-- A start, by the cells that are there. -/
theorem MRel.start (hb : Below w0.heap.size w0 w)
    (h : ∀ (i : Nat) (b : MB), m[i]? = some b → (bl i).1 < w.heap.size ∧ (b.own = true → w0.heap.size ≤ (bl i).1) ∧ (b.live = true → b.cs.all (AC.wf m.length) = true ∧ b.lo E ≤ (bl i).2 ∧
      At w (bl i).1 ((bl i).2 - b.lo E) (rowOf E b.row ++ b.cs.map (AC.den E bl)) ∧ (b.rw = true → Thaw w (bl i).1 (bl i).2 b.cs.length) ∧
      (b.solo = true → i + 1 < m.length ∧ (bl i).2 = b.lo E ∧ b.lo E + b.cs.length ≤ (bl (i + 1)).2 ∧ (bl (i + 1)).2 ≤ maxLen ∧ ∀ j, j < (bl (i + 1)).2 → (w.cell? ⟨(bl i).1, j, none⟩).isSome = true ∧ w.frozen? ⟨(bl i).1, j, none⟩ = false)))
    (hsep : ∀ (i k : Nat) (bi bk : MB), i ≠ k → m[i]? = some bi → m[k]? = some bk → bi.live = true → bk.live = true → (bl i).1 ≠ (bl k).1) : MRel E bl w0 m w := by
  refine ⟨hb.os, hb.tape, hb.output, hb.size, fun i b hi => (h i b hi).1, ?_, ?_, ?_, fun i k bi bk hik hi hk _ hl hl' => .inl (hsep i k bi bk hik hi hk hl hl'), fun b hlt _ => hb.block b hlt, fun b o hlt _ => hb.cell (p := ⟨b, o, none⟩) hlt,
    fun b o hlt => hb.frozen (p := ⟨b, o, none⟩) hlt, fun i b hi => (h i b hi).2.1, ?_, ?_, ?_⟩
  · intro i b j x hi hl hx
    obtain ⟨_, h2, h3, _⟩ := (h i b hi).2.2 hl
    have := (At.append.1 h3).2 j (x.den E bl) (by rw [List.getElem?_map, hx]; rfl)
    rw [← this]
    simp only [at_]
    congr 2
    unfold MB.lo at *; omega
  · intro i b hi hl x hx
    exact List.all_eq_true.1 ((h i b hi).2.2 hl).1 x hx
  · intro i b j hi hl hr hj
    exact ((h i b hi).2.2 hl).2.2.2.1 hr j hj
  · intro i b hi hl; exact ((h i b hi).2.2 hl).2.1
  · intro i b j v hi hl hv
    exact (At.append.1 ((h i b hi).2.2 hl).2.2.1).1 j v hv
  · intro i b hi hl hs
    obtain ⟨h1, h2, h3, h4, h5⟩ := ((h i b hi).2.2 hl).2.2.2.2 hs
    exact ⟨h1, h2, h3, h4, h5, fun k bk hk hbk hlk => hsep k i bk b hk hbk hi hlk hl⟩
theorem MRel.chg (h : MRel E bl w0 m w) {R : List (Nat × Nat × Nat)} (hR : ∀ (i : Nat) (b : MB), m[i]? = some b → b.rw = true → b.own = true ∨ ((bl i).1, (bl i).2 - b.lo E, b.lo E + b.cs.length) ∈ R) : Chg w0 w R := by
  refine ⟨h.os, h.tape, h.output, h.size, fun k hk hr => h.keep k hk fun i b hi hrw e => ?_, fun k q hk hr => h.keepc k q hk fun i b hi hrw e => ?_, h.keepf⟩
  · rcases hR i b hi hrw with ho | hm
    · have := h.new i b hi ho; omega
    · exact hr _ hm e
  · rcases hR i b hi hrw with ho | hm
    · have := h.new i b hi ho; omega
    · exact hr _ hm ⟨e.1, by simp only; omega, by simp only; omega⟩
theorem MRel.at (h : MRel E bl w0 m w) {i : Nat} {b : MB} (hi : m[i]? = some b) (hl : b.live = true) : At w (bl i).1 (bl i).2 (b.cs.map (AC.den E bl)) := fun j v hv => by
  rw [List.getElem?_map] at hv
  cases hx : b.cs[j]? with
  | none => rw [hx] at hv; cases hv
  | some x => rw [hx] at hv; cases hv; exact h.cell i b j x hi hl hx
theorem MRel.own (hE : EnvOk E) (h : MRel E bl w0 m w) {i : Nat} {b : MB} (hi : m[i]? = some b) (hl : b.live = true) (ho : b.own = true) (hs : b.solo = true) {len : AN} (hlen : len = ⟨b.row, b.cs.length⟩) (hw : b.cs.all (AC.wf 0) = true) :
    OwnG w0 w (bl i).1 (bl (i + 1)).2 ((AC.dy i b.row 0 len).den E bl) (rowOf E b.row ++ b.cs.map (AC.den E fun _ => (0, 0))) ∧ ∀ (k : Nat) (bk : MB), k ≠ i → m[k]? = some bk → bk.live = true → (bl k).1 ≠ (bl i).1 := by
  obtain ⟨_, h2, h3, h4, h5, h6⟩ := h.solo i b hi hl hs
  have e0 : (bl i).2 - (rowOf E b.row).length = 0 := by rw [h2]; simp [MB.lo]
  have hd : b.cs.map (AC.den E fun _ => (0, 0)) = b.cs.map (AC.den E bl) := List.map_congr_left fun x hx => AC.den_agree (n := 0) (fun i hi => absurd hi (Nat.not_lt_zero _)) (List.all_eq_true.1 hw x hx)
  refine ⟨⟨?_, ?_, h4, h.new i b hi ho, h.lt i b hi, ?_, h5⟩, h6⟩
  · subst hlen
    simp only [AC.den, rowVal hE, e0, Nat.add_zero, Nat.sub_zero, List.length_append, List.length_map]
  · simpa [MB.lo] using h3
  · rw [hd]
    refine At.append.2 ⟨fun j v hv => ?_, ?_⟩
    · have := h.rowc i b j v hi hl hv
      rw [show (bl i).2 - b.lo E = 0 from e0] at this
      exact this
    · have := h.at hi hl
      rw [h2] at this
      rw [Nat.zero_add]
      exact this
end

/-! ### ends with slices of new blocks -/
/-- What a slot, or a result, is to be: a value, or a slice of a block of its own. -/
inductive RS where
  | v (x : A1)
  | d (r : Nat) (cs : List AC)
def A1.beq : A1 → A1 → Bool
  | .c x, .c y => x.beq y
  | .a x, .a y => lBeq x y
  | _, _ => false
theorem A1.beq_eq {a b : A1} (h : a.beq b = true) : a = b := by
  unfold A1.beq at h
  split at h
  · rw [AC.beq_eq h]
  · rw [lBeq_eq h]
  · cases h
def rsIs (n : Nat) (m : List MB) : RS → A1 → Bool
  | .v x, y => x.beq y && x.wf n
  | .d r cs, .c (.dy b r' 0 len) => match m[b]? with
    | some mb => mb.live && mb.own && mb.solo && Nat.beq r r' && Nat.beq mb.row r && lBeq mb.cs cs && len.beq ⟨r, cs.length⟩ && cs.all (AC.wf 0) && Nat.ble n b
    | none => false
  | _, _ => false
def RS.ok (E : Env) (w0 : World) (w : World) (bl : Bl) (m : List MB) : RS → Value → Prop
  | .v x, u => u = x.den E bl
  | .d r cs, u => ∃ g cap, OwnG w0 w g cap u (rowOf E r ++ cs.map (AC.den E fun _ => (0, 0))) ∧ ∀ (k : Nat) (bk : MB), m[k]? = some bk → bk.live = true → (bl k).1 ≠ g
theorem rsIs_ok {E : Env} {w0 w : World} {bl : Bl} {m r : List MB} (hE : EnvOk E) (hm : MRel E bl w0 (m ++ r) w) {s : RS} {x : A1} (h : rsIs m.length (m ++ r) s x = true) : s.ok E w0 w bl m (x.den E bl) := by
  unfold rsIs at h
  split at h
  · simp only [Bool.and_eq_true] at h
    rw [A1.beq_eq h.1]; rfl
  · rename_i r0 cs b r' len
    split at h
    · rename_i mb hb
      simp only [Bool.and_eq_true, Nat.beq_eq, Nat.ble_eq] at h
      obtain ⟨⟨⟨⟨⟨⟨⟨⟨hl, ho⟩, hs⟩, hr⟩, hrow⟩, hcs⟩, hlen⟩, hw⟩, hn⟩ := h
      have hcs := lBeq_eq hcs
      subst hr; subst hrow; subst hcs
      obtain ⟨h1, h2⟩ := hm.own hE hb hl ho hs (AN.beq_eq hlen) hw
      exact ⟨_, _, h1, fun k bk hk hlk => h2 k bk (by have := (List.getElem?_eq_some_iff.1 hk).1; omega) (by rw [List.getElem?_append_left (List.getElem?_eq_some_iff.1 hk).1]; exact hk) hlk⟩
    · cases h
  · cases h
def rsAll (n : Nat) (m : List MB) : List RS → List A1 → Bool
  | [], [] => true
  | s :: l, x :: r => rsIs n m s x && rsAll n m l r
  | _, _ => false
inductive RsAll (E : Env) (w0 w : World) (bl : Bl) (m : List MB) : List RS → List Value → Prop where
  | nil : RsAll E w0 w bl m [] []
  | cons {s : RS} {v : Value} {l : List RS} {vs : List Value} : s.ok E w0 w bl m v → RsAll E w0 w bl m l vs → RsAll E w0 w bl m (s :: l) (v :: vs)
theorem rsAll_ok {E : Env} {w0 w : World} {bl : Bl} {m r : List MB} (hE : EnvOk E) (hm : MRel E bl w0 (m ++ r) w) : ∀ {l : List RS} {xs : List A1}, rsAll m.length (m ++ r) l xs = true → RsAll E w0 w bl m l (xs.map (A1.den E bl))
  | [], [], _ => .nil
  | s :: l, x :: xs, h => by
    simp only [rsAll, Bool.and_eq_true] at h
    exact .cons (rsIs_ok hE hm h.1) (rsAll_ok hE hm h.2)
  | [], _ :: _, h => by cases h
  | _ :: _, [], h => by cases h
/-- The results as one list. -/
def resL : AV → Option (List A1)
  | .one x => some [x]
  | .tup [_] => none
  | .tup l => some l
def packV : List Value → Value
  | [v] => v
  | l => .tuple l.toArray
theorem resL_den {E : Env} {bl : Bl} {r : AV} {l : List A1} (h : resL r = some l) : r.den E bl = packV (l.map (A1.den E bl)) := by
  unfold resL at h
  split at h
  · cases h; rfl
  · cases h
  · rename_i l' hne
    cases h
    match l, hne with
    | [], _ => rfl
    | [x], hne => exact absurd rfl (hne x)
    | x :: y :: r, _ => simp [AV.den, packV]
/-- A function's run ends so: with these results, and (up to blocks that are new) this memory. -/
def endsF (S : List RS) (m : List MB) (r : Option (AV × List MB)) : Bool :=
  match r with
  | some (u, mF) => (match resL u with
    | some l => rsAll m.length mF S l
    | none => false) && memPre m mF && soloIn m && m.all fun b => !b.live || b.cs.all (AC.wf m.length)
  | none => false
section
variable {P : Program} {E : Env} {w0 : World} {G : Cfg} {F : CallF} {nt : Nat}
theorem fn_calls (hE : CfgOk P E w0 G) (hF : CallOk P E w0 G F) (hmix : P.follows .mixedOrders = true) {fuel : Nat} {f : FuncId} {args : List A1} {m m' : List MB} {S : List RS} (h : endsF S m' (runF P G F fuel f args m) = true)
    {bl : Bl} {w : World} (hm : MRel E bl w0 m w) (hG : GOk G.g bl m.length) (hw : args.all (A1.wf m.length) = true) :
    Calls P f (args.map (A1.den E bl)).toArray w fun e w' => ∃ bl' vs, e = .returned (packV vs) ∧ RsAll E w0 w' bl' m' S vs ∧ Agree m.length bl bl' ∧ MRel E bl' w0 m' w' := by
  unfold endsF at h
  split at h
  · rename_i u mF hr
    simp only [Bool.and_eq_true] at h
    obtain ⟨⟨⟨h1, h2⟩, h3⟩, h4⟩ := h
    split at h1
    · rename_i l hl
      obtain ⟨r', e, hrr⟩ := memPre_eq h2
      subst e
      refine (runF_sound hE hF hmix hr hm hG fun x hx => List.all_eq_true.1 hw x hx).mono fun e w' ⟨bl', he, ha, hm', _, _⟩ => ⟨bl', _, ?_, rsAll_ok hE.env hm' h1, ha, hm'.take hrr h4 h3⟩
      rw [he, resL_den hl]
    · cases h1
  · cases h
/-- A piece of code ends so: by this exit, with these slots, these slots' new slices, and (up to blocks that are new) this memory. -/
def endsD (x : AEx) (l : List (Nat × AV)) (m : List MB) (D : List (Nat × Nat × List AC)) (r : ARes) : Bool :=
  endsAt x l m r && match r with
  | some (_, tr, mF) => D.all fun d => match tr.get d.1 with
    | some (.one y) => rsIs m.length mF (.d d.2.1 d.2.2) y
    | _ => false
  | none => false
theorem code_wpD (hE : CfgOk P E w0 G) (hF : CallOk P E w0 G F) (hmix : P.follows .mixedOrders = true) {fuel : Nat} {c : Code} {tr : Tr} {m m' : List MB} {x : AEx} {l : List (Nat × AV)} {D : List (Nat × Nat × List AC)} {bl : Bl} {a : Act} {w : World} {Q : Exit → Act → World → Prop}
    (h : endsD x l m' D (aCode P G F nt fuel c tr m) = true) (hle : m.length ≤ m'.length) (hs : SRel E bl w0 G nt tr m a w)
    (hq : ∀ bl' a' w', Agree m.length bl bl' → SRel E bl' w0 G nt (mkTr l) m' a' w' → (∀ d ∈ D, (RS.d d.2.1 d.2.2).ok E w0 w' bl' m' (a'.tmps.getD d.1 undef)) → Q x.toExit a' w') : c.wp P Q a w := by
  unfold endsD at h
  simp only [Bool.and_eq_true] at h
  obtain ⟨h, hd⟩ := h
  obtain ⟨tr', r, hr, hl, hrr, hmm, hso⟩ := endsAt_spec h
  rw [hr] at hd
  simp only [List.all_eq_true] at hd
  refine aCode_sound hE hF hmix fuel c tr tr' m (m' ++ r) x bl a w Q hr hs fun bl' a' w' ha _ hs' => hq bl' a' w' ha
    ⟨hs'.defers, hs'.size, fun t u hu => by
      obtain ⟨h1, h2⟩ := hl (t, u) (mkTr_get hu)
      exact ⟨(hs'.tmps t u h1).1, h2⟩, hs'.mem.take hrr hmm hso, hs.glob.agree ha hle⟩ fun d hm => ?_
  have := hd d hm
  split at this
  · rename_i y hy
    rw [(hs'.tmps _ _ hy).1]
    exact rsIs_ok hE.env hs'.mem this
  · cases this
end
end Go.Proofs.YtfilandehjmikaaDoor.Sx
