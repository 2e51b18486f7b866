/- Rows that grow: append, new slices, slices cut out of rows, over the abstract memory. No condition. -/
import Derived.Test.YtfilandehjmikaaDoorSxR
import Derived.Deep.AppendSrc
import Derived.Deep.Upon
import Derived.Laws.MakeOwn
namespace Go.Proofs.YtfilandehjmikaaDoor.Sx
open Go.RowKit

def addBl2 (bl : Bl) (n g lo cap : Nat) : Bl := fun i => if i = n then (g, lo) else if i = n + 1 then (g, cap) else bl i
theorem addBl2_agree (bl : Bl) (n g lo cap : Nat) : Agree n bl (addBl2 bl n g lo cap) := fun i hi => by simp [addBl2, show i ≠ n by omega, show i ≠ n + 1 by omega]
theorem addBl2_at (bl : Bl) (n g lo cap : Nat) : addBl2 bl n g lo cap n = (g, lo) := by simp [addBl2]
theorem addBl2_cap (bl : Bl) (n g lo cap : Nat) : addBl2 bl n g lo cap (n + 1) = (g, cap) := by simp [addBl2]
def newMB (r : Nat) (cs : List AC) : MB := ⟨cs, true, true, true, r, true⟩
def capMB : MB := ⟨[], false, false, true, 0, false⟩
section
variable {E : Env} {bl : Bl} {w0 w : World} {m : List MB}
/-- A block of its own comes in (a new one, or one whose elder name goes). -/
theorem MRel.grow (h : MRel E bl w0 m w) {m1 : List MB} (hlen : m1.length = m.length)
    (hm1 : ∀ (i : Nat) (b' : MB), m1[i]? = some b' → ∃ b : MB, m[i]? = some b ∧ b'.rw = b.rw ∧ b'.own = b.own ∧ b'.cs.length = b.cs.length ∧ b'.row = b.row ∧ (b'.live = true → b' = b))
    {w' : World} {g cap r : Nat} {cs : List AC} (hos : w'.os = w.os) (htape : w'.tape = w.tape) (hout : w'.output = w.output) (hsize : w.heap.size ≤ w'.heap.size) (hg : g < w'.heap.size) (hg0 : w0.heap.size ≤ g)
    (hkeep : ∀ k, k < w.heap.size → k ≠ g → w'.heap[k]? = w.heap[k]?) (hapart : ∀ (i : Nat) (b : MB), m1[i]? = some b → b.live = true → (bl i).1 ≠ g) (hcs : cs.all (AC.wf m.length) = true)
    (hcont : ∀ (j : Nat) (v : Value), (rowOf E r ++ cs.map (AC.den E bl))[j]? = some v → w'.cell? ⟨g, j, none⟩ = some v)
    (hcap : ∀ j, j < cap → (w'.cell? ⟨g, j, none⟩).isSome = true ∧ w'.frozen? ⟨g, j, none⟩ = false) (hle : (rowOf E r).length + cs.length ≤ cap) (hmax : cap ≤ maxLen) :
    MRel E (addBl2 bl m.length g (rowOf E r).length cap) w0 (m1 ++ [newMB r cs, capMB]) w' := by
  have ag := addBl2_agree bl m.length g (rowOf E r).length cap
  have cellOld : ∀ {k q : Nat}, k < w.heap.size → k ≠ g → w'.cell? ⟨k, q, none⟩ = w.cell? ⟨k, q, none⟩ := fun {k q} hk hne => by simp only [World.cell?, hkeep k hk hne]
  have frOld : ∀ {k q : Nat}, k < w.heap.size → k ≠ g → w'.frozen? ⟨k, q, none⟩ = w.frozen? ⟨k, q, none⟩ := fun {k q} hk hne => by simp only [World.frozen?, hkeep k hk hne]
  have old : ∀ {i : Nat} {b : MB}, (m1 ++ [newMB r cs, capMB])[i]? = some b → (i < m.length ∧ m1[i]? = some b) ∨ (i = m.length ∧ b = newMB r cs) ∨ (i = m.length + 1 ∧ b = capMB) := fun {i b} hi => by
    rcases Nat.lt_or_ge i m.length with hlt | hge
    · exact .inl ⟨hlt, by rwa [List.getElem?_append_left (by omega)] at hi⟩
    · rw [List.getElem?_append_right (by omega), hlen] at hi
      rcases Nat.lt_trichotomy (i - m.length) 1 with h0 | h0 | h0
      · have : i - m.length = 0 := by omega
        rw [this] at hi
        exact .inr (.inl ⟨by omega, by simpa using hi.symm⟩)
      · rw [h0] at hi
        exact .inr (.inr ⟨by omega, by simpa using hi.symm⟩)
      · rw [List.getElem?_eq_none (by simp; omega)] at hi; cases hi
  have bwd : ∀ {i : Nat} {b : MB}, m[i]? = some b → ∃ b' : MB, (m1 ++ [newMB r cs, capMB])[i]? = some b' ∧ b'.rw = b.rw ∧ b'.cs.length = b.cs.length ∧ b'.lo E = b.lo E ∧ i < m.length := fun {i b} hi => by
    have hlt : i < m.length := (List.getElem?_eq_some_iff.1 hi).1
    have hlt' : i < m1.length := by omega
    obtain ⟨c, hc, e1, _, e3, e4, _⟩ := hm1 i m1[i] (List.getElem?_eq_getElem hlt')
    have := Option.some.inj (hi.symm.trans hc)
    subst this
    exact ⟨_, by rw [List.getElem?_append_left hlt']; exact List.getElem?_eq_getElem hlt', e1, e3, by unfold MB.lo; rw [e4], hlt⟩
  have lo1 : ∀ {b b' : MB}, b'.row = b.row → b'.lo E = b.lo E := fun e => by unfold MB.lo; rw [e]
  have hnl : (m1 ++ [newMB r cs, capMB]).length = m.length + 2 := by simp [hlen]
  refine ⟨hos.trans h.os, htape.trans h.tape, hout.trans h.output, Nat.le_trans h.size hsize, ?_, ?_, ?_, ?_, ?_, ?_, ?_, ?_, ?_, ?_, ?_, ?_⟩
  · intro i b hi
    rcases old hi with ⟨hlt, hb⟩ | ⟨rfl, rfl⟩ | ⟨rfl, rfl⟩
    · obtain ⟨c, hc, _⟩ := hm1 i b hb
      rw [ag i hlt]; exact Nat.lt_of_lt_of_le (h.lt i c hc) hsize
    · rw [addBl2_at]; exact hg
    · rw [addBl2_cap]; exact hg
  · intro i b j x hi hl hx
    rcases old hi with ⟨hlt, hb⟩ | ⟨rfl, rfl⟩ | ⟨rfl, rfl⟩
    · obtain ⟨c, hc, _, _, _, _, he⟩ := hm1 i b hb
      have := he hl
      subst this
      have hat : at_ (addBl2 bl m.length g (rowOf E r).length cap) i j = at_ bl i j := by simp only [at_, ag i hlt]
      rw [hat, show at_ bl i j = ⟨(bl i).1, (bl i).2 + j, none⟩ from rfl, cellOld (h.lt i b hc) (hapart i b hb hl)]
      rw [show (⟨(bl i).1, (bl i).2 + j, none⟩ : Addr) = at_ bl i j from rfl, h.cell i b j x hc hl hx, AC.den_agree ag (h.wf i b hc hl x (List.mem_of_getElem? hx))]
    · have hat : at_ (addBl2 bl m.length g (rowOf E r).length cap) m.length j = ⟨g, (rowOf E r).length + j, none⟩ := by simp only [at_, addBl2_at]
      rw [hat, AC.den_agree ag ((List.all_eq_true.1 hcs) x (List.mem_of_getElem? hx))]
      refine hcont _ _ ?_
      rw [List.getElem?_append_right (Nat.le_add_right _ _), Nat.add_sub_cancel_left, List.getElem?_map, show cs[j]? = some x from hx]
      rfl
    · cases hl
  · intro i b hi hl x hx
    rw [hnl]
    rcases old hi with ⟨hlt, hb⟩ | ⟨rfl, rfl⟩ | ⟨rfl, rfl⟩
    · obtain ⟨c, hc, _, _, _, _, he⟩ := hm1 i b hb
      have := he hl
      subst this
      exact AC.wf_mono (Nat.le_add_right _ _) (h.wf i b hc hl x hx)
    · exact AC.wf_mono (Nat.le_add_right _ _) ((List.all_eq_true.1 hcs) x hx)
    · cases hl
  · intro i b j hi hl hr hj
    rcases old hi with ⟨hlt, hb⟩ | ⟨rfl, rfl⟩ | ⟨rfl, rfl⟩
    · obtain ⟨c, hc, _, _, _, _, he⟩ := hm1 i b hb
      have := he hl
      subst this
      rw [show at_ (addBl2 bl m.length g (rowOf E r).length cap) i j = ⟨(bl i).1, (bl i).2 + j, none⟩ by simp only [at_, ag i hlt], frOld (h.lt i b hc) (hapart i b hb hl)]
      exact h.thaw i b j hc hl hr hj
    · rw [show at_ (addBl2 bl m.length g (rowOf E r).length cap) m.length j = ⟨g, (rowOf E r).length + j, none⟩ by simp only [at_, addBl2_at]]
      have hj' : j < cs.length := hj
      exact (hcap _ (by omega)).2
    · cases hl
  · intro i k bi bk hik hi hk hr hli hlk
    rcases old hi with ⟨hlt, hb⟩ | ⟨rfl, rfl⟩ | ⟨rfl, rfl⟩ <;> rcases old hk with ⟨hlt', hb'⟩ | ⟨rfl, rfl⟩ | ⟨rfl, rfl⟩
    · obtain ⟨c, hc, _, _, _, _, he⟩ := hm1 i bi hb
      obtain ⟨d, hd, _, _, _, _, hf⟩ := hm1 k bk hb'
      have := he hli
      subst this
      have := hf hlk
      subst this
      rw [ag i hlt, ag k hlt']
      exact h.sep i k bi bk hik hc hd hr hli hlk
    · rw [ag i hlt, addBl2_at]; exact .inl (hapart i bi hb hli)
    · cases hlk
    · rw [ag k hlt', addBl2_at]; exact .inl (Ne.symm (hapart k bk hb' hlk))
    · exact absurd rfl hik
    · cases hlk
    all_goals cases hli
  · intro b hb hn
    have hne : b ≠ g := by omega
    rw [hkeep b (Nat.lt_of_lt_of_le hb h.size) hne]
    refine h.keep b hb fun i bi hi hr => ?_
    obtain ⟨b', hb', e1, _, _, hlt⟩ := bwd hi
    have := hn i b' hb' (e1.trans hr)
    rwa [ag i hlt] at this
  · intro b o hb hn
    have hne : b ≠ g := by omega
    rw [cellOld (Nat.lt_of_lt_of_le hb h.size) hne]
    refine h.keepc b o hb fun i bi hi hr => ?_
    obtain ⟨b', hb', e1, e2, e3, hlt⟩ := bwd hi
    have := hn i b' hb' (e1.trans hr)
    rwa [ag i hlt, e2, e3] at this
  · intro b o hb
    have hne : b ≠ g := by omega
    rw [frOld (Nat.lt_of_lt_of_le hb h.size) hne]
    exact h.keepf b o hb
  · intro i b hi ho
    rcases old hi with ⟨hlt, hb⟩ | ⟨rfl, rfl⟩ | ⟨rfl, rfl⟩
    · obtain ⟨c, hc, _, e2, _⟩ := hm1 i b hb
      rw [ag i hlt]; exact h.new i c hc (e2 ▸ ho)
    · rw [addBl2_at]; exact hg0
    · rw [addBl2_cap]; exact hg0
  · intro i b hi hl
    rcases old hi with ⟨hlt, hb⟩ | ⟨rfl, rfl⟩ | ⟨rfl, rfl⟩
    · obtain ⟨c, hc, _, _, _, _, he⟩ := hm1 i b hb
      have := he hl
      subst this
      rw [ag i hlt]; exact h.rowb i b hc hl
    · rw [addBl2_at]; exact Nat.le_refl _
    · cases hl
  · intro i b j v hi hl hv
    rcases old hi with ⟨hlt, hb⟩ | ⟨rfl, rfl⟩ | ⟨rfl, rfl⟩
    · obtain ⟨c, hc, _, _, _, _, he⟩ := hm1 i b hb
      have := he hl
      subst this
      rw [ag i hlt, cellOld (h.lt i b hc) (hapart i b hb hl)]
      exact h.rowc i b j v hc hl hv
    · rw [addBl2_at]
      have hj : j < (rowOf E r).length := (List.getElem?_eq_some_iff.1 hv).1
      rw [show (newMB r cs).lo E = (rowOf E r).length from rfl, Nat.sub_self, Nat.zero_add]
      exact hcont j v (by rw [List.getElem?_append_left hj]; exact hv)
    · cases hl
  · intro i b hi hl hs
    rcases old hi with ⟨hlt, hb⟩ | ⟨rfl, rfl⟩ | ⟨rfl, rfl⟩
    · obtain ⟨c, hc, _, _, _, _, he⟩ := hm1 i b hb
      have := he hl
      subst this
      obtain ⟨h1, h2, h3, h4, h5, h6⟩ := h.solo i b hc hl hs
      rw [ag i hlt, ag (i + 1) h1]
      refine ⟨by rw [hnl]; omega, h2, h3, h4, fun j hj => ?_, fun k bk hk hbk hlk => ?_⟩
      · rw [cellOld (h.lt i b hc) (hapart i b hb hl), frOld (h.lt i b hc) (hapart i b hb hl)]; exact h5 j hj
      · rcases old hbk with ⟨hlt', hb'⟩ | ⟨rfl, rfl⟩ | ⟨rfl, rfl⟩
        · obtain ⟨d, hd, _, _, _, _, hf⟩ := hm1 k bk hb'
          have := hf hlk
          subst this
          rw [ag k hlt']; exact h6 k bk hk hd hlk
        · rw [addBl2_at]; exact Ne.symm (hapart i b hb hl)
        · cases hlk
    · rw [addBl2_at, addBl2_cap]
      refine ⟨by rw [hnl]; omega, rfl, hle, hmax, hcap, fun k bk hk hbk hlk => ?_⟩
      rcases old hbk with ⟨hlt', hb'⟩ | ⟨rfl, rfl⟩ | ⟨rfl, rfl⟩
      · rw [ag k hlt']; exact hapart k bk hb' hlk
      · exact absurd rfl hk
      · cases hlk
    · cases hl
end

/-! ### what a slice holds -/
/-- Slices that came in: the row, and the cells behind it, that each holds in the first world. -/
abbrev Sos := List (Nat × Nat × List AC)
/-- A slice that reads as a list. -/
def SlV (w : World) (v : Value) (vs : List Value) : Prop := (v = .slice none 0 0 ∧ vs = []) ∨
  ∃ (a : Addr) (cap : Nat), v = .slice (some a) vs.length cap ∧ vs.length ≤ cap ∧ ∀ (j : Nat) (x : Value), vs[j]? = some x → w.cell? (a.add j) = some x
def SoOk (E : Env) (w0 : World) (so : Sos) : Prop := ∀ p ∈ so, p.2.2.all (AC.wf 0) = true ∧ SlV w0 (E.vl p.1) (rowOf E p.2.1 ++ p.2.2.map (AC.den E fun _ => (0, 0)))
def lookSo : Sos → Nat → Option (Nat × List AC)
  | [], _ => none
  | (i, r, cs) :: l, k => if Nat.beq i k then some (r, cs) else lookSo l k
theorem lookSo_mem : ∀ {so : Sos} {k : Nat} {r : Nat} {cs : List AC}, lookSo so k = some (r, cs) → (k, r, cs) ∈ so
  | (i, r', cs') :: l, k, r, cs, h => by
    unfold lookSo at h
    split at h
    · rename_i hb
      cases h
      rw [Nat.eq_of_beq_eq_true hb]; exact List.mem_cons_self ..
    · exact List.mem_cons_of_mem _ (lookSo_mem h)
theorem rowVal {E : Env} (hE : EnvOk E) (r c : Nat) : (⟨r, c⟩ : AN).val E = (rowOf E r).length + c := by
  cases r with
  | zero => simp [AN.val, rowOf]
  | succ r => simp only [AN.val, rowOf]; rw [hE.rowLen]
def contOf (so : Sos) (m : List MB) (x : AC) : Option (Nat × List AC) :=
  match x with
  | .v (.slice none 0 0) => some (0, [])
  | .o i => if m.all (fun b => !b.rw || b.own) then lookSo so i else none
  | .slc b _ off len cap => match m[b]? with
    | some mb => if mb.live && len.isLit && Nat.blt 0 cap.c && Nat.ble len.c cap.c && Nat.ble (off + len.c) mb.cs.length then some (0, (mb.cs.drop off).take len.c) else none
    | none => none
  | .dy b 0 off len => match m[b]? with
    | some mb => if mb.live && mb.solo && len.isLit && Nat.ble (off + len.c) mb.cs.length then some (0, (mb.cs.drop off).take len.c) else none
    | none => none
  | .dy b (r + 1) 0 len => match m[b]? with
    | some mb => if mb.live && mb.solo && Nat.beq mb.row (r + 1) && len.beq ⟨r + 1, mb.cs.length⟩ then some (r + 1, mb.cs) else none
    | none => none
  | _ => none
section
variable {E : Env} {bl : Bl} {w0 w : World} {m : List MB}
theorem at_add' (a : Addr) (j : Nat) : (a.add j).block = a.block := by unfold Addr.add; split <;> rfl
theorem cell_lt {w : World} {p : Addr} {x : Value} (h : w.cell? p = some x) : p.block < w.heap.size := by
  rcases Nat.lt_or_ge p.block w.heap.size with h' | h'
  · exact h'
  · simp [World.cell?, Array.getElem?_eq_none h'] at h
theorem SlV.below {w w' : World} {v : Value} {vs : List Value} (h : SlV w v vs) (hb : Below w.heap.size w w') : SlV w' v vs := by
  rcases h with h | ⟨a, cap, e1, e2, e3⟩
  · exact .inl h
  · exact .inr ⟨a, cap, e1, e2, fun j x hx => by rw [hb.cell (cell_lt (e3 j x hx))]; exact e3 j x hx⟩
theorem contOf_den (hE : EnvOk E) {so : Sos} (hso : SoOk E w0 so) (hm : MRel E bl w0 m w) {x : AC} {r : Nat} {cs : List AC} (h : contOf so m x = some (r, cs)) :
    cs.all (AC.wf m.length) = true ∧ SlV w (x.den E bl) (rowOf E r ++ cs.map (AC.den E bl)) := by
  have some' : ∀ {x : Value} (a : Addr) (cap : Nat), x = .slice (some a) ((rowOf E r).length + cs.length) cap → (rowOf E r).length + cs.length ≤ cap → (∀ (j : Nat) (v : Value), (rowOf E r ++ cs.map (AC.den E bl))[j]? = some v → w.cell? (a.add j) = some v) → SlV w x (rowOf E r ++ cs.map (AC.den E bl)) :=
    fun {x} a cap h1 h2 h3 => .inr ⟨a, cap, by rw [h1]; simp, by simpa using h2, h3⟩
  have lit : ∀ {b off n : Nat} {mb : MB}, m[b]? = some mb → mb.live = true → off + n ≤ mb.cs.length → ((mb.cs.drop off).take n).all (AC.wf m.length) = true ∧ ((mb.cs.drop off).take n).length = n ∧
      ∀ (j : Nat) (v : Value), (rowOf E 0 ++ ((mb.cs.drop off).take n).map (AC.den E bl))[j]? = some v → w.cell? ((at_ bl b off).add j) = some v := fun {b off n mb} hb hl hn => by
    refine ⟨List.all_eq_true.2 fun y hy => hm.wf b mb hb hl y (List.mem_of_mem_drop (List.mem_of_mem_take hy)), by simp; omega, fun j v hv => ?_⟩
    simp only [rowOf, List.nil_append, List.getElem?_map] at hv
    cases hy : ((mb.cs.drop off).take n)[j]? with
    | none => rw [hy] at hv; cases hv
    | some y =>
      rw [hy] at hv; cases hv
      have hj : j < n := by
        have := (List.getElem?_eq_some_iff.1 hy).1
        simp only [List.length_take] at this
        omega
      rw [List.getElem?_take_of_lt hj, List.getElem?_drop] at hy
      rw [at_add]
      exact hm.cell b mb (off + j) y hb hl hy
  unfold contOf at h
  split at h
  · cases h; exact ⟨rfl, .inl ⟨rfl, rfl⟩⟩
  · rename_i i
    split at h
    · rename_i hall
      obtain ⟨hwf, hsl⟩ := hso _ (lookSo_mem h)
      simp only at hwf hsl
      have hd : cs.map (AC.den E bl) = cs.map (AC.den E fun _ => (0, 0)) := List.map_congr_left fun y hy => AC.den_agree (n := 0) (fun i hi => absurd hi (Nat.not_lt_zero _)) (List.all_eq_true.1 hwf y hy)
      refine ⟨List.all_eq_true.2 fun y hy => AC.wf_mono (Nat.zero_le _) (List.all_eq_true.1 hwf y hy), ?_⟩
      rw [hd]
      exact hsl.below (hm.below hall)
    · cases h
  · rename_i b off0 off len cap
    split at h
    · rename_i mb hb
      split at h
      · rename_i hc
        simp only [Bool.and_eq_true, Nat.blt_eq, Nat.ble_eq] at hc
        obtain ⟨⟨⟨⟨hl, hlit⟩, hcap⟩, hlc⟩, hn⟩ := hc
        cases h
        obtain ⟨f1, f2, f3⟩ := lit hb hl hn
        have hc0 : ¬ cap.val E = 0 := by have := AN.val_c E cap; omega
        refine ⟨f1, some' (at_ bl b off) (cap.val E) ?_ (by have := AN.val_c E cap; rw [f2]; simp only [rowOf, List.length_nil]; omega) f3⟩
        simp only [AC.den, if_neg hc0, AN.val_lit E hlit, f2, rowOf, List.length_nil, Nat.zero_add]
      · cases h
    · cases h
  · rename_i b off len
    split at h
    · rename_i mb hb
      split at h
      · rename_i hc
        simp only [Bool.and_eq_true, Nat.ble_eq] at hc
        obtain ⟨⟨⟨hl, hsolo⟩, hlit⟩, hn⟩ := hc
        cases h
        obtain ⟨f1, f2, f3⟩ := lit hb hl hn
        obtain ⟨_, s2, s3, _⟩ := hm.solo b mb hb hl hsolo
        refine ⟨f1, some' (at_ bl b off) ((bl (b + 1)).2 - ((bl b).2 + off)) ?_ (by rw [f2]; simp only [rowOf, List.length_nil]; omega) f3⟩
        simp only [AC.den, AN.val_lit E hlit, f2, rowOf, List.length_nil, Nat.zero_add, Nat.sub_zero, at_]
      · cases h
    · cases h
  · rename_i b r' len
    split at h
    · rename_i mb hb
      split at h
      · rename_i hc
        simp only [Bool.and_eq_true, Nat.beq_eq] at hc
        obtain ⟨⟨⟨hl, hsolo⟩, hrow⟩, hlen⟩ := hc
        cases h
        obtain ⟨_, s2, s3, _⟩ := hm.solo b mb hb hl hsolo
        have hlo : mb.lo E = (rowOf E (r' + 1)).length := by unfold MB.lo; rw [hrow]
        have hle := hm.rowb b mb hb hl
        rw [hlo] at hle
        refine ⟨List.all_eq_true.2 fun y hy => hm.wf b mb hb hl y hy, some' ⟨(bl b).1, (bl b).2 - (rowOf E (r' + 1)).length, none⟩ ((bl (b + 1)).2 - ((bl b).2 - (rowOf E (r' + 1)).length)) ?_ (by omega) fun j v hv => ?_⟩
        · simp only [AC.den]
          rw [AN.beq_eq hlen, rowVal hE, Nat.add_zero]
        · rw [Addr.add_lit]
          by_cases hj : j < (rowOf E (r' + 1)).length
          · rw [List.getElem?_append_left hj] at hv
            have := hm.rowc b mb j v hb hl (by rw [hrow]; exact hv)
            rw [hlo] at this
            exact this
          · rw [List.getElem?_append_right (by omega), List.getElem?_map] at hv
            cases hy : mb.cs[j - (rowOf E (r' + 1)).length]? with
            | none => rw [hy] at hv; cases hv
            | some y =>
              rw [hy] at hv; cases hv
              have := hm.cell b mb _ y hb hl hy
              rw [← this]
              simp only [at_]
              congr 2
              omega
      · cases h
    · cases h
  · cases h

/-! ### append -/
def destOf (m : List MB) (x : AC) : Option (Option Nat × Nat × List AC) :=
  match x with
  | .v (.slice none 0 0) => some (none, 0, [])
  | .dy b r 0 len => match m[b]? with
    | some mb => if mb.live && mb.rw && mb.own && mb.solo && Nat.beq mb.row r && len.beq ⟨r, mb.cs.length⟩ then some (some b, r, mb.cs) else none
    | none => none
  | _ => none
def catC (r1 : Nat) (c1 : List AC) (r2 : Nat) (c2 : List AC) : Option (Nat × List AC) :=
  match r2, r1, c1 with
  | 0, r1, c1 => some (r1, c1 ++ c2)
  | r + 1, 0, [] => some (r + 1, c2)
  | _, _, _ => none
theorem catC_den {r1 r2 r : Nat} {c1 c2 c : List AC} (h : catC r1 c1 r2 c2 = some (r, c)) : rowOf E r ++ c.map (AC.den E bl) = (rowOf E r1 ++ c1.map (AC.den E bl)) ++ (rowOf E r2 ++ c2.map (AC.den E bl)) ∧
    (∀ n, c1.all (AC.wf n) = true → c2.all (AC.wf n) = true → c.all (AC.wf n) = true) ∧ (rowOf E r).length + c.length = (rowOf E r1).length + c1.length + ((rowOf E r2).length + c2.length) := by
  unfold catC at h
  split at h
  · cases h
    refine ⟨by simp [rowOf, List.append_assoc], fun n h1 h2 => by rw [List.all_append, h1, h2]; rfl, by simp [rowOf]; omega⟩
  · cases h
    exact ⟨by simp [rowOf], fun n _ h2 => h2, by simp [rowOf]⟩
  · cases h
def killO (m : List MB) : Option Nat → List MB
  | none => m
  | some b => match m[b]? with
    | some mb => m.set b { mb with live := false }
    | none => m
theorem killO_length (m : List MB) (d : Option Nat) : (killO m d).length = m.length := by
  unfold killO
  split
  · rfl
  · split
    · simp
    · rfl
theorem killO_get {m : List MB} {d : Option Nat} {i : Nat} {b' : MB} (h : (killO m d)[i]? = some b') : ∃ b : MB, m[i]? = some b ∧ b'.rw = b.rw ∧ b'.own = b.own ∧ b'.cs.length = b.cs.length ∧ b'.row = b.row ∧ (b'.live = true → b' = b ∧ d ≠ some i) := by
  unfold killO at h
  split at h
  · exact ⟨b', h, rfl, rfl, rfl, rfl, fun _ => ⟨rfl, fun e => by cases e⟩⟩
  · rename_i b
    split at h
    · rename_i mb hmb
      by_cases hbi : b = i
      · subst hbi
        rw [List.getElem?_set_self (List.getElem?_eq_some_iff.1 hmb).1] at h
        cases h
        exact ⟨mb, hmb, rfl, rfl, rfl, rfl, fun e => by cases e⟩
      · rw [List.getElem?_set_ne hbi] at h
        exact ⟨b', h, rfl, rfl, rfl, rfl, fun _ => ⟨rfl, fun e => hbi (Option.some.inj e)⟩⟩
    · rename_i hmb
      exact ⟨b', h, rfl, rfl, rfl, rfl, fun _ => ⟨rfl, fun e => by cases e; rw [hmb] at h; cases h⟩⟩
def aAppend (P : Program) (so : Sos) (m : List MB) (t tx : TypeId) (x y : AC) : Option (AC × List MB) :=
  match P.underlying t, P.underlying tx with
  | some (.slice e), some (.slice _) => match P.info? e with
    | some i => match i.zero with
      | some z => if Nat.beq i.size 1 && Nat.beq z.cells.size 1 && Nat.ble i.bytes 16 then
          match destOf m x, contOf so m y with
          | some (d, r1, c1), some (r2, c2) => match catC r1 c1 r2 c2 with
            | some (r, c) => if c2.all AC.one && Nat.ble c.length 1048576 && Nat.ble r 100 then
                match d, r2, c2 with
                | none, 0, [] => some (.v (.slice none 0 0), m)
                | none, _ + 1, _ => none
                | d, _, _ => some (.dy m.length r 0 ⟨r, c.length⟩, killO m d ++ [newMB r c, capMB])
              else none
            | none => none
          | _, _ => none
        else none
      | none => none
    | none => none
  | _, _ => none
theorem rowOf_one (hE : EnvOk E) (r : Nat) : ∀ v ∈ rowOf E r, v.oneCell' = true := by
  cases r with
  | zero => intro v hv; cases hv
  | succ r => exact hE.rowOne r
theorem rowOf_le (hE : EnvOk E) (r : Nat) (hr : r ≤ 100) : (rowOf E r).length ≤ 1099511627776 := by
  cases r with
  | zero => simp [rowOf]
  | succ r => simp only [rowOf]; rw [hE.rowLen]; exact hE.nm r (by omega)
theorem append_grow {P : Program} {t tx ty e : TypeId} {i : TypeInfo} {z : Value} (ht : P.underlying t = some (.slice e)) (hi : P.info? e = some i) (hz : i.zero = some z) (hz1 : z.cells.size = 1) (hby : i.bytes ≤ 16)
    (hm : MRel E bl w0 m w) {d : Option Nat} {r : Nat} {c : List AC}
    {base : Option Addr} {sCap : Nat} {olds news : List Value} (hold : (Builtin.firstCells i.size olds.length (.slice base olds.length sCap)).run P w.drew = .ok olds.toArray w.drew) {x : Value} (hs : Src P i.size tx x news.length news w)
    (hg : sCap < olds.length + news.length) (hle : olds.length + news.length ≤ 2199023255552) (hc : rowOf E r ++ c.map (AC.den E bl) = olds ++ news) (hwf : c.all (AC.wf m.length) = true) (hlen : (⟨r, c.length⟩ : AN).val E = olds.length + news.length) :
    ∃ bl' w', (Builtin.append_ #[t, tx] ty #[.slice base olds.length sCap, x]).run P w = .ok ((AC.dy m.length r 0 ⟨r, c.length⟩).den E bl') w' ∧ Agree m.length bl bl' ∧ MRel E bl' w0 (killO m d ++ [newMB r c, capMB]) w' := by
  have hr := run_append_grow_src (P := P) w t tx ty e i z ht hi hz base olds.length sCap olds hold x news.length news hs hg (by omega) (growslice_fits hg (by
    have := Nat.mul_le_mul (show olds.length + news.length ≤ 2199023255552 from hle) hby
    omega))
  have hge := grownCap_ge w (olds.length + news.length) sCap e
  have hcm : grownCap w (olds.length + news.length) sCap e ≤ maxLen := grownCap_le_maxLen w _ sCap e (by simp only [maxLen]; omega)
  generalize grownCap w (olds.length + news.length) sCap e = cap at hr hge hcm
  have hcl : (rowOf E r).length + c.length = olds.length + news.length := by
    have := congrArg List.length hc
    simpa using this
  refine ⟨addBl2 bl m.length w.heap.size (rowOf E r).length cap, _, ?_, addBl2_agree bl m.length w.heap.size (rowOf E r).length cap, MRel.grow hm.drew (w' := w.drew.alloc (.cells ((olds ++ news).toArray ++ Builtin.zeroCells z.cells (cap - (olds.length + news.length))) e)) (killO_length m d) (fun i b' hb' => ?_) rfl rfl rfl
    (by simp) (by simp) (by simpa using hm.size) (fun k hk _ => by simpa using Below.heap_alloc w.drew _ _ (show k < w.drew.heap.size by simpa using hk)) (fun i b hb hl => ?_) hwf (fun j v hv => ?_) (fun j hj => ⟨?_, World.frozen?_alloc_new _ _ _ _⟩) (by omega) hcm⟩
  · rw [hr]
    simp only [AC.den, addBl2_at, addBl2_cap, Nat.sub_self, Nat.add_zero, Nat.sub_zero, hlen]
  · obtain ⟨b, h1, h2, h3, h4, h5, h6⟩ := killO_get hb'
    exact ⟨b, h1, h2, h3, h4, h5, fun e => (h6 e).1⟩
  · obtain ⟨b', h1, _⟩ := killO_get hb
    have := hm.lt i b' h1
    omega
  · rw [hc] at hv
    have : w.drew.heap.size = w.heap.size := rfl
    rw [← this, World.cell?_alloc_new]
    have hj : j < (olds ++ news).length := (List.getElem?_eq_some_iff.1 hv).1
    rw [Array.getElem?_append_left (by simpa using hj)]
    simpa using hv
  · have : w.drew.heap.size = w.heap.size := rfl
    rw [← this, World.cell?_alloc_new]
    have hsz : ((olds ++ news).toArray ++ Builtin.zeroCells z.cells (cap - (olds.length + news.length))).size = cap := by
      simp only [Array.size_append, List.size_toArray, List.length_append, size_zeroCells, hz1]
      omega
    rw [Array.getElem?_eq_getElem (by rw [hsz]; exact hj)]
    rfl
theorem setCells_size (b : Nat) : ∀ (vs : List Value) (o : Nat) (w : World), (w.setCells b o vs).heap.size = w.heap.size
  | [], _, _ => rfl
  | v :: l, o, w => by rw [World.setCells, setCells_size b l]; simp [World.setCell]
theorem setCells_tape (b : Nat) : ∀ (vs : List Value) (o : Nat) (w : World), (w.setCells b o vs).tape = w.tape
  | [], _, _ => rfl
  | v :: l, o, w => by rw [World.setCells, setCells_tape b l]; rfl
theorem append_room {P : Program} {t tx ty e : TypeId} {i : TypeInfo} (hE : EnvOk E) (ht : P.underlying t = some (.slice e)) (hi : P.info? e = some i) (hs1 : i.size = 1)
    (hm : MRel E bl w0 m w) {b : Nat} {mb : MB} (hb : m[b]? = some mb) (hl : mb.live = true) (how : mb.own = true) (hso : mb.solo = true) {r : Nat} {c : List AC}
    {news : List Value} {x : Value} (hs : Src P i.size tx x news.length news w) (hroom : mb.lo E + mb.cs.length + news.length ≤ (bl (b + 1)).2)
    (hc : rowOf E r ++ c.map (AC.den E bl) = (rowOf E mb.row ++ mb.cs.map (AC.den E bl)) ++ news) (hwf : c.all (AC.wf m.length) = true) :
    ∃ bl' w', (Builtin.append_ #[t, tx] ty #[.slice (some ⟨(bl b).1, 0, none⟩) (mb.lo E + mb.cs.length) (bl (b + 1)).2, x]).run P w = .ok ((AC.dy m.length r 0 ⟨r, c.length⟩).den E bl') w' ∧ Agree m.length bl bl' ∧
      MRel E bl' w0 (killO m (some b) ++ [newMB r c, capMB]) w' := by
  obtain ⟨h1, h2, h3, h4, h5, h6⟩ := hm.solo b mb hb hl hso
  have hr := run_append_room_src (P := P) w t tx ty e i ht hi (bl b).1 0 (mb.lo E + mb.cs.length) (bl (b + 1)).2 x news.length news hs hroom (fun j hj => by
    rw [hs1, Nat.mul_one, Nat.zero_add]; exact (h5 _ (by omega)).1) (fun j hj => by
    rw [hs1, Nat.mul_one, Nat.zero_add]; exact (h5 _ (by omega)).2)
  rw [hs1, Nat.mul_one, Nat.zero_add] at hr
  have hcl : (rowOf E r).length + c.length = mb.lo E + mb.cs.length + news.length := by
    have := congrArg List.length hc
    simp only [List.length_append, List.length_map] at this
    unfold MB.lo
    omega
  have hold : ∀ (j : Nat) (v : Value), (rowOf E mb.row ++ mb.cs.map (AC.den E bl))[j]? = some v → w.cell? ⟨(bl b).1, j, none⟩ = some v := fun j v hv => by
    by_cases hj : j < (rowOf E mb.row).length
    · rw [List.getElem?_append_left hj] at hv
      have := hm.rowc b mb j v hb hl hv
      rw [h2, Nat.sub_self, Nat.zero_add] at this
      exact this
    · rw [List.getElem?_append_right (by omega), List.getElem?_map] at hv
      cases hy : mb.cs[j - (rowOf E mb.row).length]? with
      | none => rw [hy] at hv; cases hv
      | some y =>
        rw [hy] at hv; cases hv
        have := hm.cell b mb _ y hb hl hy
        rw [← this]
        simp only [at_]
        congr 2
        rw [h2]; unfold MB.lo; omega
  have hblt := hm.lt b mb hb
  have hsz : (w.setCells (bl b).1 (mb.lo E + mb.cs.length) news).heap.size = w.heap.size := setCells_size _ _ _ _
  refine ⟨addBl2 bl m.length (bl b).1 (rowOf E r).length (bl (b + 1)).2, _, ?_, addBl2_agree bl m.length (bl b).1 (rowOf E r).length (bl (b + 1)).2,
    MRel.grow hm (w' := w.setCells (bl b).1 (mb.lo E + mb.cs.length) news) (killO_length m (some b)) (fun i b' hb' => ?_) (World.os_setCells ..) ?_ (World.output_setCells ..) (by omega) (by omega) (hm.new b mb hb how)
    (fun k hk hne => World.heap_setCells_other w _ _ _ hk hne) (fun i b' hb' hl' => ?_) hwf (fun j v hv => ?_) (fun j hj => ?_) (by omega) h4⟩
  · rw [hr]
    simp only [AC.den, addBl2_at, addBl2_cap, Nat.sub_self, Nat.add_zero, Nat.sub_zero, rowVal hE, hcl]
  · obtain ⟨b1, f1, f2, f3, f4, f5, f6⟩ := killO_get hb'
    exact ⟨b1, f1, f2, f3, f4, f5, fun e => (f6 e).1⟩
  · exact setCells_tape _ _ _ _
  · obtain ⟨b1, f1, _, _, _, _, f6⟩ := killO_get hb'
    obtain ⟨f7, f8⟩ := f6 hl'
    subst f7
    exact h6 i b' (fun e => f8 (by rw [e])) f1 hl'
  · rw [hc] at hv
    by_cases hj : j < mb.lo E + mb.cs.length
    · rw [World.cell?_setCells_out _ _ _ _ _ (fun _ _ => .inl hj)]
      rw [List.getElem?_append_left (by simp only [List.length_append, List.length_map]; exact hj)] at hv
      exact hold j v hv
    · have hj' : (rowOf E mb.row ++ mb.cs.map (AC.den E bl)).length = mb.lo E + mb.cs.length := by simp [MB.lo]
      rw [List.getElem?_append_right (by omega), hj'] at hv
      have hlt : j - (mb.lo E + mb.cs.length) < news.length := (List.getElem?_eq_some_iff.1 hv).1
      have := World.cell?_setCells_in (bl b).1 news (mb.lo E + mb.cs.length) w (fun q hq => (h5 _ (by omega)).1) (j - (mb.lo E + mb.cs.length)) hlt
      rw [show mb.lo E + mb.cs.length + (j - (mb.lo E + mb.cs.length)) = j by omega] at this
      rw [this, ← hv, List.getElem?_eq_getElem hlt]
  · rw [World.frozen?_setCells]
    refine ⟨?_, (h5 j hj).2⟩
    by_cases hin : mb.lo E + mb.cs.length ≤ j ∧ j < mb.lo E + mb.cs.length + news.length
    · have := World.cell?_setCells_in (bl b).1 news (mb.lo E + mb.cs.length) w (fun q hq => (h5 _ (by omega)).1) (j - (mb.lo E + mb.cs.length)) (by omega)
      rw [show mb.lo E + mb.cs.length + (j - (mb.lo E + mb.cs.length)) = j by omega] at this
      rw [this]; rfl
    · rw [World.cell?_setCells_out _ _ _ _ _ (fun _ _ => by simp only; omega)]
      exact (h5 j hj).1
theorem destOf_den (hE : EnvOk E) (hm : MRel E bl w0 m w) {x : AC} {d : Option Nat} {r : Nat} {c : List AC} (h : destOf m x = some (d, r, c)) :
    (x = .v (.slice none 0 0) ∧ d = none ∧ r = 0 ∧ c = []) ∨ ∃ (b : Nat) (mb : MB), d = some b ∧ m[b]? = some mb ∧ mb.live = true ∧ mb.own = true ∧ mb.solo = true ∧ mb.row = r ∧ mb.cs = c ∧
      x.den E bl = .slice (some ⟨(bl b).1, 0, none⟩) (mb.lo E + mb.cs.length) (bl (b + 1)).2 := by
  unfold destOf at h
  split at h
  · cases h; exact .inl ⟨rfl, rfl, rfl, rfl⟩
  · rename_i b r' len
    split at h
    · rename_i mb hb
      split at h
      · rename_i hc
        simp only [Bool.and_eq_true, Nat.beq_eq] at hc
        obtain ⟨⟨⟨⟨⟨hl, _⟩, how⟩, hso⟩, hrow⟩, hlen⟩ := hc
        cases h
        refine .inr ⟨b, mb, rfl, hb, hl, how, hso, hrow, rfl, ?_⟩
        obtain ⟨_, h2, _⟩ := hm.solo b mb hb hl hso
        have hlo : (rowOf E r).length = mb.lo E := by unfold MB.lo; rw [hrow]
        simp only [AC.den]
        rw [AN.beq_eq hlen, rowVal hE, hlo, h2, Nat.sub_self, Nat.add_zero, Nat.sub_zero]
      · cases h
    · cases h
  · cases h
theorem aAppend_run {P : Program} (hE : EnvOk E) {so : Sos} (hso : SoOk E w0 so) (hm : MRel E bl w0 m w) {t tx ty : TypeId} {x y r : AC} {m' : List MB} (h : aAppend P so m t tx x y = some (r, m')) :
    ∃ bl' w', (Builtin.append_ #[t, tx] ty #[x.den E bl, y.den E bl]).run P w = .ok (r.den E bl') w' ∧ Agree m.length bl bl' ∧ MRel E bl' w0 m' w' ∧ r.wf m'.length = true ∧ m.length ≤ m'.length := by
  unfold aAppend at h
  split at h
  · rename_i e e' ht htx
    split at h
    · rename_i i hi
      split at h
      · rename_i z hz
        split at h
        · rename_i hc
          simp only [Bool.and_eq_true, Nat.beq_eq, Nat.ble_eq] at hc
          obtain ⟨⟨hs1, hz1⟩, hby⟩ := hc
          split at h
          · rename_i d r1 c1 r2 c2 hd hco
            split at h
            · rename_i r0 c hcat
              split at h
              · rename_i hc2
                simp only [Bool.and_eq_true, Nat.ble_eq] at hc2
                obtain ⟨⟨hone, hclen⟩, hr100⟩ := hc2
                obtain ⟨k1, k2, k3⟩ := catC_den (E := E) (bl := bl) hcat
                obtain ⟨hwf2, hsrc⟩ := contOf_den hE hso hm hco
                have hnl : (rowOf E r2 ++ c2.map (AC.den E bl)).length = (rowOf E r2).length + c2.length := by simp
                have hsrc' : Src P i.size tx (y.den E bl) (rowOf E r2 ++ c2.map (AC.den E bl)).length (rowOf E r2 ++ c2.map (AC.den E bl)) w := by
                  rw [hs1]
                  rcases hsrc with ⟨e1, e2⟩ | ⟨a, cap, e1, _, e2⟩
                  · rw [e1, e2]; exact Src.ofNil w htx 0
                  · rw [e1]
                    refine Src.ofSlice w htx a _ cap _ (by rw [Nat.mul_one]) e2 fun u hu => ?_
                    rcases List.mem_append.1 hu with hu | hu
                    · exact rowOf_one hE r2 u hu
                    · obtain ⟨q, hq, rfl⟩ := List.mem_map.1 hu
                      exact AC.den_one hE bl (List.all_eq_true.1 hone q hq)
                have hb2 := rowOf_le hE r0 hr100
                have grown : ∀ {d : Option Nat}, r = .dy m.length r0 0 ⟨r0, c.length⟩ → m' = killO m d ++ [newMB r0 c, capMB] → (∃ bl' w', (Builtin.append_ #[t, tx] ty #[x.den E bl, y.den E bl]).run P w = .ok ((AC.dy m.length r0 0 ⟨r0, c.length⟩).den E bl') w' ∧ Agree m.length bl bl' ∧ MRel E bl' w0 (killO m d ++ [newMB r0 c, capMB]) w') →
                    ∃ bl' w', (Builtin.append_ #[t, tx] ty #[x.den E bl, y.den E bl]).run P w = .ok (r.den E bl') w' ∧ Agree m.length bl bl' ∧ MRel E bl' w0 m' w' ∧ r.wf m'.length = true ∧ m.length ≤ m'.length := fun hr hm' ⟨bl', w', e1, e2, e3⟩ => by
                  subst hr; subst hm'
                  exact ⟨bl', w', e1, e2, e3, by simp [AC.wf, killO_length], by simp [killO_length]⟩
                rcases destOf_den hE hm hd with ⟨rfl, rfl, rfl, rfl⟩ | ⟨b, mb, rfl, hb, hl, how, hso', hrow, hcs, hx⟩
                · split at h
                  · cases h
                    refine ⟨bl, w, ?_, Agree.refl _ _, hm, rfl, Nat.le_refl _⟩
                    have hl0 : (rowOf E 0 ++ ([] : List AC).map (AC.den E bl)) = [] := rfl
                    rw [hl0] at hsrc'
                    show (Builtin.append_ #[t, tx] ty #[.slice none 0 0, y.den E bl]).run P w = .ok (.slice none 0 0) w
                    generalize y.den E bl = yv at hsrc'
                    have q1 := hsrc'.len
                    have q2 := hsrc'.cells
                    simp only [List.length_nil] at q1 q2
                    simp [Builtin.append_, run_underlying ht, run_underlying htx, sizeOf, typeInfo, hi, q1, q2]
                  · cases h
                  · rename_i r2 c2 d9 r9 c9 hno1 hno2
                    cases h
                    refine grown rfl rfl ?_
                    have hpos : 0 < (rowOf E r2 ++ c2.map (AC.den E bl)).length := by
                      cases r2 with
                      | succ q => exact (hno1 q rfl rfl).elim
                      | zero =>
                        cases c2 with
                        | nil => exact (hno2 rfl rfl rfl).elim
                        | cons u l => simp [rowOf]
                    exact append_grow (d := none) (olds := []) ht hi hz hz1 hby hm (by rw [show (0 : Nat) = ([] : List Value).length from rfl]; exact run_firstCells_none _ _ _ _ _) hsrc' (by simpa using hpos)
                      (by have h00 : (rowOf E 0).length = 0 := rfl
                          rw [h00, List.length_nil] at k3; rw [hnl]; simp only [List.length_nil]; omega) (by rw [k1]; simp [rowOf]) (k2 _ rfl hwf2) (by rw [rowVal hE, hnl, k3]; simp [rowOf])
                · have hne : ∃ d0, r = .dy m.length r0 0 ⟨r0, c.length⟩ ∧ m' = killO m d0 ++ [newMB r0 c, capMB] ∧ d0 = some b := by
                    split at h
                    · rename_i heq; cases heq
                    · rename_i heq; cases heq
                    · cases h; exact ⟨_, rfl, rfl, rfl⟩
                  obtain ⟨d0, hr, hm', rfl⟩ := hne
                  refine grown hr hm' ?_
                  rw [hx]
                  subst hrow; subst hcs
                  have hwf1 : mb.cs.all (AC.wf m.length) = true := List.all_eq_true.2 fun q hq => hm.wf b mb hb hl q hq
                  by_cases hroom : mb.lo E + mb.cs.length + (rowOf E r2 ++ c2.map (AC.den E bl)).length ≤ (bl (b + 1)).2
                  · exact append_room hE ht hi hs1 hm hb hl how hso' hsrc' hroom k1 (k2 _ hwf1 hwf2)
                  · have hol : (rowOf E mb.row ++ mb.cs.map (AC.den E bl)).length = mb.lo E + mb.cs.length := by simp [MB.lo]
                    obtain ⟨_, h2, _⟩ := hm.solo b mb hb hl hso'
                    have hold : ∀ (j : Nat) (v : Value), (rowOf E mb.row ++ mb.cs.map (AC.den E bl))[j]? = some v → w.drew.cell? ((⟨(bl b).1, 0, none⟩ : Addr).add j) = some v := fun j v hv => by
                      rw [Addr.add_lit, Nat.zero_add, World.cell?_drew]
                      by_cases hj : j < (rowOf E mb.row).length
                      · rw [List.getElem?_append_left hj] at hv
                        have := hm.rowc b mb j v hb hl hv
                        rw [h2, Nat.sub_self, Nat.zero_add] at this
                        exact this
                      · rw [List.getElem?_append_right (by omega), List.getElem?_map] at hv
                        cases hy : mb.cs[j - (rowOf E mb.row).length]? with
                        | none => rw [hy] at hv; cases hv
                        | some y =>
                          rw [hy] at hv; cases hv
                          have := hm.cell b mb _ y hb hl hy
                          rw [← this]
                          simp only [at_]
                          congr 2
                          rw [h2]; unfold MB.lo; omega
                    have := append_grow (d := some b) (t := t) (tx := tx) (ty := ty) (sCap := (bl (b + 1)).2) (base := some ⟨(bl b).1, 0, none⟩) ht hi hz hz1 hby hm (olds := rowOf E mb.row ++ mb.cs.map (AC.den E bl))
                      (run_firstCells_some _ _ _ _ _ _ _ (by rw [hs1, Nat.mul_one]) hold) hsrc' (by rw [hol]; omega) (by rw [hol, hnl]; unfold MB.lo at *; omega) k1 (k2 _ hwf1 hwf2) (by rw [rowVal hE, hol, hnl, k3]; unfold MB.lo; omega)
                    rw [hol] at this
                    exact this
              · cases h
            · cases h
          · cases h
        · cases h
      · cases h
    · cases h
  · cases h

/-! ### slices cut out of rows -/
theorem slice_val {P : Program} {t e : TypeId} {j : TypeInfo} (hu : P.underlying t = some (.slice e)) (hj : P.info? e = some j) (hs : j.size = 1) {B S L C l h : Nat} {low high : Option Value} (w : World)
    (hh : high = none ∧ h = L ∨ ∃ k, high = some (.int k (h : Int)) ∧ h ≤ C) (hl : low = none ∧ l = 0 ∨ ∃ k, low = some (.int k (l : Int)) ∧ l ≤ h) (hlC : l = 0 ∨ l < C) :
    (Instr.sliceAt t (.slice (some ⟨B, S, none⟩) L C) low high none).run P w = .ok (.slice (some ⟨B, S + l, none⟩) (h - l) (C - l)) w := by
  have hb := run_bounds (isSlice := true) (len := L) (cap := C) P w hh hl
  simp only [Instr.sliceAt, Instr.slice, Sem.run_bind, run_under hu, Result.andThen_ok, Sem.run_pure, hb, run_size hj, hs, Nat.mul_one, Option.map_some]
  congr 3
  rcases hlC with rfl | hlt
  · split
    · rfl
    · rw [Addr.add_lit]
  · rw [if_neg (by omega), Addr.add_lit]
def aLoN (x : Option AC) : Option AN :=
  match x with
  | none => some ⟨0, 0⟩
  | some v => toAN v
def aSliceDy (P : Program) (m : List MB) (t : TypeId) (x : AC) (lo hi : Option AC) : Option AC :=
  match P.underlying t with
  | some (.slice e) => match P.info? e with
    | some j => match x with
      | .dy b r off len => match m[b]? with
        | some mb => if Nat.beq j.size 1 && mb.live && mb.solo && Nat.beq mb.row r && (Nat.beq r 0 || Nat.beq off 0) then
            match aLoN lo, aHi len hi with
            | some l, some h => if Nat.beq h.s r && Nat.ble (off + h.c) mb.cs.length then
                if Nat.beq l.s 0 && Nat.beq l.c 0 then some (.dy b r off h)
                else if Nat.beq l.s r && Nat.blt l.c h.c then some (.dy b 0 (off + l.c) ⟨0, h.c - l.c⟩) else none
              else none
            | _, _ => none
          else none
        | none => none
      | _ => none
    | none => none
  | _ => none
theorem aLoN_den {x : Option AC} {l : AN} (h : aLoN x = some l) {hN : Nat} (hl : l.val E ≤ hN) : x.map (AC.den E bl) = none ∧ l.val E = 0 ∨ ∃ k, x.map (AC.den E bl) = some (.int k (l.val E : Int)) ∧ l.val E ≤ hN := by
  unfold aLoN at h
  split at h
  · cases h; exact .inl ⟨rfl, rfl⟩
  · exact .inr ⟨.i64, by simp only [Option.map_some, toAN_den h], hl⟩
theorem aSliceDy_run {P : Program} (hE : EnvOk E) (hm : MRel E bl w0 m w) {t : TypeId} {x r : AC} {lo hi : Option AC} (h : aSliceDy P m t x lo hi = some r) (hx : x.wf m.length = true) :
    (Instr.sliceAt t (x.den E bl) (lo.map (AC.den E bl)) (hi.map (AC.den E bl)) none).run P w = .ok (r.den E bl) w ∧ r.wf m.length = true := by
  unfold aSliceDy at h
  split at h
  · rename_i e hu
    split at h
    · rename_i j hj
      split at h
      · rename_i b r0 off len
        split at h
        · rename_i mb hb
          split at h
          · rename_i hc
            simp only [Bool.and_eq_true, Bool.or_eq_true, Nat.beq_eq] at hc
            obtain ⟨⟨⟨⟨hs1, hl⟩, hso⟩, hrow⟩, hro⟩ := hc
            obtain ⟨_, h2, h3, _⟩ := hm.solo b mb hb hl hso
            have hlo : (rowOf E r0).length = mb.lo E := by unfold MB.lo; rw [hrow]
            split at h
            · rename_i l hN hla hha
              split at h
              · rename_i hc2
                simp only [Bool.and_eq_true, Nat.beq_eq, Nat.ble_eq] at hc2
                obtain ⟨hhs, hhc⟩ := hc2
                have hhv : hN.val E = mb.lo E + hN.c := by
                  have := rowVal hE hN.s hN.c
                  rw [hhs, hlo] at this
                  rw [← this, ← hhs]
                have hS : (bl b).2 - (rowOf E r0).length + off = off := by rw [hlo, h2]; omega
                have hroff : off + mb.lo E = 0 ∨ mb.lo E = 0 ∨ off = 0 := by
                  rcases hro with rfl | rfl
                  · exact .inr (.inl (by rw [← hlo]; rfl))
                  · exact .inr (.inr rfl)
                have hden : (AC.dy b r0 off len).den E bl = .slice (some ⟨(bl b).1, off, none⟩) (len.val E) ((bl (b + 1)).2 - off) := by simp only [AC.den, hS]
                rw [hden]
                have hhC : hN.val E ≤ (bl (b + 1)).2 - off := by omega
                have hh' := aHi_den (E := E) (bl := bl) (cap := (bl (b + 1)).2 - off) hha (.inr hhC)
                split at h
                · rename_i hl0
                  simp only [Bool.and_eq_true, Nat.beq_eq] at hl0
                  cases h
                  have hlv : l.val E = 0 := by
                    have := rowVal hE l.s l.c
                    rw [hl0.1, hl0.2] at this
                    rw [show l = ⟨0, 0⟩ by cases l; simp only at hl0; rw [hl0.1, hl0.2]]
                    rfl
                  refine ⟨?_, hx⟩
                  rw [slice_val hu hj hs1 w (l := l.val E) (h := hN.val E) hh' (aLoN_den hla (by omega)) (.inl hlv), hlv]
                  simp only [AC.den, hS, Nat.add_zero, Nat.sub_zero]
                · split at h
                  · rename_i hl1
                    simp only [Bool.and_eq_true, Nat.beq_eq, Nat.blt_eq] at hl1
                    obtain ⟨hls, hlt⟩ := hl1
                    cases h
                    have hlv : l.val E = mb.lo E + l.c := by
                      have := rowVal hE l.s l.c
                      rw [hls, hlo] at this
                      rw [← this, ← hls]
                    refine ⟨?_, hx⟩
                    rw [slice_val hu hj hs1 w (l := l.val E) (h := hN.val E) hh' (aLoN_den hla (by omega)) (.inr (by omega))]
                    simp only [AC.den, rowOf, List.length_nil, Nat.sub_zero]
                    have v2 : (⟨0, hN.c - l.c⟩ : AN).val E = hN.c - l.c := rfl
                    rw [v2, h2, show off + l.val E = mb.lo E + (off + l.c) by omega, show hN.val E - l.val E = hN.c - l.c by omega, show (bl (b + 1)).2 - off - l.val E = (bl (b + 1)).2 - (mb.lo E + (off + l.c)) by omega]
                  · cases h
              · cases h
            · cases h
          · cases h
        · cases h
      · cases h
    · cases h
  · cases h

/-! ### slices and nil -/
theorem run_equal_nil {P : Program} {ty e : TypeId} (hu : P.underlying ty = some (.slice e)) (w : World) (a : Addr) (n c : Nat) : (Op.equal ty (.slice (some a) n c) (.slice none 0 0)).run P w = .ok false w := by
  unfold Op.equal
  rw [show Op.maxDepth = 9999 + 1 from rfl]
  unfold Op.equalIn
  simp only [Sem.run_bind, run_under hu, Result.andThen_ok]
  simp
theorem run_equal_iface {P : Program} {ty : TypeId} {ms} (hu : P.underlying ty = some (.interface ms)) (w : World) (u : TypeId) (v : Value) : (Op.equal ty (.iface u v) .nilIface).run P w = .ok false w := by
  unfold Op.equal
  rw [show Op.maxDepth = 9999 + 1 from rfl]
  unfold Op.equalIn
  simp only [Sem.run_bind, run_under hu, Result.andThen_ok]
  simp
def noNil (so : Sos) : AC → Bool
  | .o i => match lookSo so i with
    | some (_, _ :: _) => true
    | _ => false
  | .slc .. => true
  | .dy .. => true
  | _ => false
def aNilCmp (P : Program) (so : Sos) (op : BinOp) (ty : TypeId) (x y : AC) : Option Bool :=
  match P.underlying ty, y with
  | some (.slice _), .v (.slice none 0 0) => if noNil so x then (match op with
    | .eql => some false
    | .neq => some true
    | _ => none) else none
  | _, _ => none
theorem noNil_den {so : Sos} (hso : SoOk E w0 so) {x : AC} (h : noNil so x = true) : ∃ a n c, x.den E bl = .slice (some a) n c := by
  cases x <;> simp only [noNil] at h <;> first | (cases h; done) | skip
  · rename_i i
    cases hl : lookSo so i with
    | none => rw [hl] at h; cases h
    | some p =>
      obtain ⟨r, cs⟩ := p
      cases cs with
      | nil => rw [hl] at h; cases h
      | cons c cs =>
        rcases (hso _ (lookSo_mem hl)).2 with ⟨_, e⟩ | ⟨a, cap, e, _⟩
        · simp at e
        · exact ⟨a, _, cap, e⟩
  · exact ⟨_, _, _, rfl⟩
  · exact ⟨_, _, _, rfl⟩
theorem aNilCmp_run {P : Program} {so : Sos} (hso : SoOk E w0 so) {op : BinOp} {ty : TypeId} {p q : Operand} {x y : AC} {r : Bool} (h : aNilCmp P so op ty x y = some r) (w : World) :
    (do eqGuard op ty p q (x.den E bl) (y.den E bl); binOp op ty (x.den E bl) (y.den E bl) : Sem Value).run P w = .ok (.bool r) w := by
  unfold aNilCmp at h
  split at h
  · rename_i e hu
    split at h
    · rename_i hn
      obtain ⟨a, n, c, hd⟩ := noNil_den (bl := bl) hso hn
      rw [hd, show (AC.v (.slice none 0 0)).den E bl = .slice none 0 0 from rfl]
      split at h
      · cases h
        unfold eqGuard binOp
        simp only [Sem.run_bind, run_equal_nil hu, Result.andThen_ok, Sem.run_pure]
        simp [Result.andThen_ok]
      · cases h
        unfold eqGuard binOp
        simp only [Sem.run_bind, run_equal_nil hu, Result.andThen_ok, Sem.run_pure]
        simp [Result.andThen_ok]
      · cases h
    · cases h
  · cases h

/-! ### new slices -/
def cells0 (z : List AC) (n : Nat) : List AC := (List.range n).map fun i => z.getD (i % z.length) (.v undef)
theorem cells0_den (z : List AC) (n : Nat) (hz : 0 < z.length) : (Array.range n).map (fun i => ((z.map (AC.den E bl)).toArray)[i % ((z.map (AC.den E bl)).toArray).size]!) = ((cells0 z n).map (AC.den E bl)).toArray := by
  apply Array.ext'
  simp only [Array.toList_map, Array.toList_range, cells0, List.map_map]
  refine List.map_congr_left fun i _ => ?_
  have hlt : i % z.length < z.length := Nat.mod_lt _ hz
  simp [List.getD_eq_getElem?_getD, hlt]
def aNew (m : List MB) (size len : Nat) (cs : List AC) : AC × List MB :=
  if Nat.beq size 1 then (.dy m.length 0 0 ⟨0, len⟩, m ++ [newMB 0 cs, capMB]) else (.slc m.length 0 0 ⟨0, len⟩ ⟨0, len⟩, m ++ [⟨cs, true, true, true, 0, false⟩])
theorem aNew_run {size len : Nat} {cs : List AC} (hm : MRel E bl w0 m w) (e : TypeId) (hlen : cs.length = len * size) (hmax : len ≤ maxLen) (hwf : cs.all (AC.wf m.length) = true) :
    ∃ bl', Agree m.length bl bl' ∧ .slice (some ⟨w.heap.size, 0, none⟩) len len = (aNew m size len cs).1.den E bl' ∧ MRel E bl' w0 (aNew m size len cs).2 (w.alloc (.cells (cs.map (AC.den E bl)).toArray e)) ∧
      (aNew m size len cs).1.wf (aNew m size len cs).2.length = true ∧ m.length ≤ (aNew m size len cs).2.length := by
  unfold aNew
  split
  · rename_i h1
    simp only [Nat.beq_eq] at h1
    subst h1
    rw [Nat.mul_one] at hlen
    refine ⟨addBl2 bl m.length w.heap.size (rowOf E 0).length len, addBl2_agree bl m.length w.heap.size _ len, ?_, ?_, by simp [AC.wf], by simp⟩
    · simp only [AC.den, addBl2_at, addBl2_cap, rowOf, List.length_nil, Nat.sub_zero, Nat.add_zero, AN.val]
    · refine MRel.grow hm rfl (fun i b' hb' => ⟨b', hb', rfl, rfl, rfl, rfl, fun _ => rfl⟩) rfl rfl rfl (by simp) (by simp) hm.size (fun k hk _ => Below.heap_alloc _ _ _ hk) (fun i b hb _ => Nat.ne_of_lt (hm.lt i b hb)) hwf (fun j v hv => ?_)
        (fun j hj => ⟨?_, World.frozen?_alloc_new _ _ _ _⟩) (by simp [rowOf, hlen]) hmax
      · rw [World.cell?_alloc_new]
        simpa [rowOf] using hv
      · rw [World.cell?_alloc_new]
        simp [hlen, hj]
  · refine ⟨addBl bl m.length w.heap.size, addBl_agree bl _ _, ?_, hm.alloc cs e hwf, by simp [AC.wf], by simp⟩
    simp only [AC.den, AN.val, at_, addBl_at, ite_self, Nat.add_zero]
def aBuildS (P : Program) (m : List MB) (t : TypeId) (len : Nat) (ps : List (Nat × A1)) : Option (AC × List MB) :=
  match P.underlying t with
  | some (.slice e) => match P.info? e, zeroA P e with
    | some i, some z => if Nat.blt 0 i.size && Nat.beq z.length i.size && Nat.ble (len * i.size) 4096 && ps.all (fun p => p.2.wf m.length) then
        match fillA (fun k => some (k * i.size, i.size)) (cells0 z (len * i.size)) ps with
        | some cs => if Nat.beq cs.length (len * i.size) then some (aNew m i.size len cs) else none
        | none => none
      else none
    | _, _ => none
  | _ => none
theorem cells0_wf {z : List AC} {n k : Nat} (h : z.all (AC.wf k) = true) : (cells0 z n).all (AC.wf k) = true := by
  refine List.all_eq_true.2 fun x hx => ?_
  obtain ⟨i, _, rfl⟩ := List.mem_map.1 hx
  rw [List.getD_eq_getElem?_getD]
  cases hz : z[i % z.length]? with
  | none => rfl
  | some y => exact List.all_eq_true.1 h y (List.mem_of_getElem? hz)
theorem aBuildS_run {P : Program} (hE : EnvOk E) (hm : MRel E bl w0 m w) {t : TypeId} {len : Nat} {ps : List (Nat × A1)} {r : AC} {m' : List MB} (h : aBuildS P m t len ps = some (r, m')) (parts : Array (Nat × Value)) (hps : parts.toList = ps.map fun p => (p.1, p.2.den E bl)) :
    ∃ bl' w', (Instr.buildSlice t len parts).run P w = .ok (r.den E bl') w' ∧ Agree m.length bl bl' ∧ MRel E bl' w0 m' w' ∧ r.wf m'.length = true ∧ m.length ≤ m'.length := by
  unfold aBuildS at h
  split at h
  · rename_i e hu
    split at h
    · rename_i i z hi hz
      split at h
      · rename_i hc
        simp only [Bool.and_eq_true, Nat.blt_eq, Nat.beq_eq, Nat.ble_eq] at hc
        obtain ⟨⟨⟨hpos, hzl⟩, hle⟩, hwf⟩ := hc
        obtain ⟨it, zv, h1, h2, h3, h4⟩ := zeroA_run (bl := bl) hE hz
        rw [hi] at h1; cases h1
        split at h
        · rename_i cs hf
          split at h
          · rename_i hcl
            simp only [Nat.beq_eq] at hcl
            have hlen : len ≤ maxLen := by
              have : len ≤ len * i.size := Nat.le_mul_of_pos_right _ hpos
              simp only [maxLen]; omega
            obtain ⟨bl', g1, g2, g3, g4, g5⟩ := aNew_run hm e hcl hlen (fillA_wf _ _ _ _ hf (cells0_wf (h4 m.length)) fun p hp => List.all_eq_true.1 hwf p hp)
            have hr := Option.some.inj h
            rw [show aNew m i.size len cs = (r, m') from hr] at g2 g3 g4 g5
            refine ⟨bl', _, ?_, g1, g3, g4, g5⟩
            have hfill := fillA_run (bl := bl) hE _ _ _ _ hf
            rw [← cells0_den (E := E) (bl := bl) z _ (by omega)] at hfill
            rw [← g2]
            have hbig : ¬ (2 ^ 24 < len * i.size) := by omega
            by_cases h0 : len * i.size = 0
            · have e0 : cs = [] := List.length_eq_zero_iff.1 (by omega)
              subst e0
              rw [h0] at hfill
              have hf0 : Instr.fill (fun k => some (k * i.size, i.size)) ((Array.range 0).map (fun k => (#[] : Array Value)[k % (#[] : Array Value).size]!)) (ps.map fun p => (p.1, p.2.den E bl)) = some #[] := by
                have e1 : ∀ f : Nat → Value, (Array.range 0).map f = #[] := fun f => by simp
                rw [e1] at hfill ⊢
                exact hfill
              simp only [Instr.buildSlice, Sem.run_bind, run_under hu, run_size hi, Result.andThen_ok, h0, if_neg (show ¬ (0 : Nat) > 2 ^ 24 by omega), if_true, Sem.run_pure, hps, hf0]
              simp [newRow]
            · have hzv : ∀ w' : World, (zeroValue e).run P w' = .ok zv w' := fun w' => by simp [zeroValue, typeInfo, hi, h2]
              have hfz : Instr.fill (fun k => some (k * i.size, i.size)) ((Array.range (len * i.size)).map (fun k => zv.cells[k % zv.cells.size]!)) (ps.map fun p => (p.1, p.2.den E bl)) = some (cs.map (AC.den E bl)).toArray := by rw [h3]; exact hfill
              simp only [Instr.buildSlice, Sem.run_bind, run_under hu, run_size hi, Result.andThen_ok, if_neg (show ¬ len * i.size > 2 ^ 24 by omega), if_neg h0, hzv, Sem.run_pure, hps, hfz]
              simp [newRow]
          · cases h
        · cases h
      · cases h
    · cases h
  · cases h
def aMakeS (P : Program) (m : List MB) (t : TypeId) (x y : AC) : Option (AC × List MB) :=
  match P.underlying t, litNat x, litNat y with
  | some (.slice e), some n, some n' => match P.info? e, zeroA P e with
    | some i, some z => if Nat.beq n n' && Nat.blt 0 i.size && Nat.beq z.length i.size && Nat.ble (n * i.size) 4096 && Nat.ble i.bytes 65536 then some (aNew m i.size n (cells0 z (n * i.size))) else none
    | _, _ => none
  | _, _, _ => none
theorem aMakeS_run {P : Program} (hE : EnvOk E) (hm : MRel E bl w0 m w) {t : TypeId} {x y r : AC} {m' : List MB} (h : aMakeS P m t x y = some (r, m')) :
    ∃ bl' w', (Instr.makeSlice t (x.den E bl) (y.den E bl)).run P w = .ok (r.den E bl') w' ∧ Agree m.length bl bl' ∧ MRel E bl' w0 m' w' ∧ r.wf m'.length = true ∧ m.length ≤ m'.length := by
  unfold aMakeS at h
  split at h
  · rename_i e n n' hu hn hn'
    split at h
    · rename_i i z hi hz
      split at h
      · rename_i hc
        simp only [Bool.and_eq_true, Nat.blt_eq, Nat.beq_eq, Nat.ble_eq] at hc
        obtain ⟨⟨⟨⟨hnn, hpos⟩, hzl⟩, hle⟩, hby⟩ := hc
        subst hnn
        obtain ⟨it, zv, h1, h2, h3, h4⟩ := zeroA_run (bl := bl) hE hz
        rw [hi] at h1; cases h1
        have hnle : n ≤ n * i.size := Nat.le_mul_of_pos_right _ hpos
        obtain ⟨k, hk⟩ := litNat_den (E := E) (bl := bl) hn
        obtain ⟨k', hk'⟩ := litNat_den (E := E) (bl := bl) hn'
        obtain ⟨bl', g1, g2, g3, g4, g5⟩ := aNew_run hm e (size := i.size) (len := n) (cs := cells0 z (n * i.size)) (by simp [cells0]) (by simp only [maxLen]; omega) (cells0_wf (h4 m.length))
        have hr := Option.some.inj h
        rw [show aNew m i.size n (cells0 z (n * i.size)) = (r, m') from hr] at g2 g3 g4 g5
        refine ⟨bl', _, ?_, g1, g3, g4, g5⟩
        have hb : (i.bytes : Int) * (n : Int) ≤ 281474976710656 := by
          have := Nat.mul_le_mul hby (show n ≤ 4096 by omega)
          have h' : ((i.bytes * n : Nat) : Int) ≤ ((65536 * 4096 : Nat) : Int) := Int.ofNat_le.2 this
          rw [Int.natCast_mul] at h'
          omega
        rw [hk, hk', run_make (P := P) w t e i zv hu hi h2 k k' (n : Int) (n : Int) (by omega) (by omega) hb (by omega), ← g2]
        congr 2
        rw [← cells0_den (E := E) (bl := bl) z _ (by omega), ← h3]
        rfl
      · cases h
    · cases h
  · cases h
/-! ### conversions that are known -/
abbrev Cvs := List (TypeId × TypeId × AC × AC)
def CvOk (P : Program) (E : Env) (cv : Cvs) : Prop := ∀ p ∈ cv, p.2.2.2.wf 0 = true ∧ ∀ (bl : Bl) (w : World), (convert p.1 p.2.1 (p.2.2.1.den E bl)).run P w = .ok (p.2.2.2.den E bl) w
def lookCv (s d : TypeId) (x : AC) : Cvs → Option AC
  | [] => none
  | (s', d', a, r) :: l => if Nat.beq s' s && Nat.beq d' d && a.beq x then some r else lookCv s d x l
theorem lookCv_mem {s d : TypeId} {x r : AC} : ∀ {cv : Cvs}, lookCv s d x cv = some r → (s, d, x, r) ∈ cv
  | [], h => by cases h
  | (s', d', a, q) :: l, h => by
    unfold lookCv at h
    split at h
    · rename_i hc
      simp only [Bool.and_eq_true, Nat.beq_eq] at hc
      obtain ⟨⟨h1, h2⟩, h3⟩ := hc
      cases h
      rw [h1, h2, AC.beq_eq h3]
      exact List.mem_cons_self ..
    · exact List.mem_cons_of_mem _ (lookCv_mem h)
def aConvT (P : Program) (cv : Cvs) (s d : TypeId) (x : AC) : Option AC :=
  match lookCv s d x cv with
  | some r => some r
  | none => aConv P s d x
theorem aConvT_run {P : Program} (hE : EnvOk E) {cv : Cvs} (hcv : CvOk P E cv) {src dst : TypeId} {x r : AC} (h : aConvT P cv src dst x = some r) (w : World) : (convert src dst (x.den E bl)).run P w = .ok (r.den E bl) w ∧ ∀ n, r.wf n = true := by
  unfold aConvT at h
  split at h
  · rename_i hr
    cases h
    obtain ⟨e1, e2⟩ := hcv _ (lookCv_mem hr)
    exact ⟨e2 bl w, fun n => AC.wf_mono (Nat.zero_le n) e1⟩
  · exact aConv_run hE h w
/-- Slices that came in of which just the length has a name. -/
abbrev Lns := List (Nat × Nat)
def LnOk (E : Env) (ln : Lns) : Prop := ∀ p ∈ ln, ∃ a n c, E.vl p.1 = .slice a n c ∧ E.vl p.2 = .int .i64 (n : Int)
def lookLn : Lns → Nat → Option Nat
  | [], _ => none
  | (i, j) :: l, k => if Nat.beq i k then some j else lookLn l k
theorem lookLn_mem : ∀ {ln : Lns} {k j : Nat}, lookLn ln k = some j → (k, j) ∈ ln
  | (i, j') :: l, k, j, h => by
    unfold lookLn at h
    split at h
    · rename_i hb
      cases h
      rw [Nat.eq_of_beq_eq_true hb]; exact List.mem_cons_self ..
    · exact List.mem_cons_of_mem _ (lookLn_mem h)
def aLenO (P : Program) (so : Sos) (ln : Lns) (argTypes : Array TypeId) (x : AC) : Option AC :=
  match x, argTypes[0]? with
  | .o i, some t => match P.underlying t with
    | some (.slice _) => match lookSo so i with
      | some (r, cs) => some (mkN ⟨r, cs.length⟩)
      | none => match lookLn ln i with
        | some j => some (.o j)
        | none => none
    | _ => none
  | _, _ => none
theorem aLenO_run {P : Program} (hE : EnvOk E) {so : Sos} (hso : SoOk E w0 so) {ln : Lns} (hln : LnOk E ln) {argTypes : Array TypeId} {x r : AC} {ty : TypeId} (h : aLenO P so ln argTypes x = some r) (w : World) (args : Array Value) (ha : args[0]? = some (x.den E bl)) :
    (Builtin.len_ argTypes ty args).run P w = .ok (r.den E bl) w ∧ ∀ n, r.wf n = true := by
  unfold aLenO at h
  split at h
  · rename_i i t ht
    split at h
    · rename_i e hu
      split at h
      · rename_i r' cs hl
        cases h
        have e1 : ∃ a cap, E.vl i = .slice a ((rowOf E r').length + cs.length) cap := by
          rcases (hso _ (lookSo_mem hl)).2 with ⟨e, e'⟩ | ⟨a, cap, e, _⟩
          · simp only [List.append_eq_nil_iff, List.map_eq_nil_iff] at e'
            exact ⟨none, 0, by rw [e, e'.1, e'.2]; rfl⟩
          · exact ⟨some a, cap, by rw [e]; simp⟩
        obtain ⟨a, cap, e1⟩ := e1
        refine ⟨?_, mkN_wf _⟩
        simp only [AC.den, e1] at ha
        simp only [Builtin.len_, ht, ha, Sem.run_bind, run_under hu, Result.andThen_ok, goInt, Sem.run_pure]
        rw [mkN_den]
        simp only [rowVal hE]
      · split at h
        · rename_i j hj
          cases h
          obtain ⟨a, n, c, e1, e2⟩ := hln _ (lookLn_mem hj)
          simp only at e1 e2
          refine ⟨?_, fun _ => rfl⟩
          simp only [AC.den, e1] at ha
          simp only [Builtin.len_, ht, ha, Sem.run_bind, run_under hu, Result.andThen_ok, goInt, Sem.run_pure, AC.den, e2]
        · cases h
    · cases h
  · cases h
end
end Go.Proofs.YtfilandehjmikaaDoor.Sx
