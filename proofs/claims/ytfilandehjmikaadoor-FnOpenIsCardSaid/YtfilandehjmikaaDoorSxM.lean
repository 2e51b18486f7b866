/- Abstract values and memory, what they stand for, and how allocation, loads and stores keep that. No condition. -/
import Derived.Test.YtfilandehjmikaaDoorSxT
namespace Go.Proofs.YtfilandehjmikaaDoor.Sx
open Go.RowKit

structure AN where
  s : Nat
  c : Nat
def AN.val (E : Env) : AN → Nat
  | ⟨0, c⟩ => c
  | ⟨i + 1, c⟩ => E.nm i + c
def AN.isLit (a : AN) : Bool := Nat.beq a.s 0
theorem AN.val_lit (E : Env) {a : AN} (h : a.isLit = true) : a.val E = a.c := by
  obtain ⟨s, c⟩ := a
  cases s with
  | zero => rfl
  | succ i => simp [AN.isLit] at h

inductive AC where
  | v (x : Value)
  | w (k : IntKind) (t : T)
  | n (a : AN)
  | o (i : Nat)
  | ptr (b off : Nat)
  | slc (b off0 off : Nat) (len cap : AN)
  | dy (b row off : Nat) (len : AN)
abbrev Bl := Nat → Nat × Nat
def at_ (bl : Bl) (b off : Nat) : Addr := ⟨(bl b).1, (bl b).2 + off, none⟩
theorem at_add (bl : Bl) (b off i : Nat) : (at_ bl b off).add i = at_ bl b (off + i) := by
  unfold Addr.add at_
  split
  · rename_i h; subst h; rfl
  · simp [Nat.add_assoc]
def rowOf (E : Env) : Nat → List Value
  | 0 => []
  | r + 1 => E.row r
def AC.den (E : Env) (bl : Bl) : AC → Value
  | .v x => x
  | .w k t => .int k ((t.den E).toNat : Int)
  | .n a => .int .i64 (a.val E : Int)
  | .o i => E.vl i
  | .ptr b off => .pointer (some (at_ bl b off))
  | .slc b off0 off len cap => .slice (some (if cap.val E = 0 then at_ bl b off0 else at_ bl b off)) (len.val E) (cap.val E)
  | .dy b row off len => .slice (some ⟨(bl b).1, (bl b).2 - (rowOf E row).length + off, none⟩) (len.val E) ((bl (b + 1)).2 - ((bl b).2 - (rowOf E row).length + off))
/-- The blocks that it names are among the first n. -/
def AC.wf (n : Nat) : AC → Bool
  | .ptr b _ => Nat.blt b n
  | .slc b _ _ _ _ => Nat.blt b n
  | .dy b _ _ _ => Nat.blt (b + 1) n
  | _ => true
/-- It stands for the value of one cell. -/
def AC.one : AC → Bool
  | .v x => x.oneCell'
  | _ => true
inductive A1 where
  | c (x : AC)
  | a (l : List AC)
def A1.den (E : Env) (bl : Bl) : A1 → Value
  | .c x => x.den E bl
  | .a l => .agg (l.map (AC.den E bl)).toArray
def A1.wf (n : Nat) : A1 → Bool
  | .c x => x.wf n
  | .a l => l.all (AC.wf n)
def A1.cells : A1 → List AC
  | .c x => [x]
  | .a l => l
inductive AV where
  | one (x : A1)
  | tup (l : List A1)
def AV.den (E : Env) (bl : Bl) : AV → Value
  | .one x => x.den E bl
  | .tup l => .tuple (l.map (A1.den E bl)).toArray
def AV.wf (n : Nat) : AV → Bool
  | .one x => x.wf n
  | .tup l => l.all (A1.wf n)

def Agree (n : Nat) (bl bl' : Bl) : Prop := ∀ i, i < n → bl' i = bl i
theorem Agree.refl (n : Nat) (bl : Bl) : Agree n bl bl := fun _ _ => rfl
theorem Agree.trans {n m : Nat} {a b c : Bl} (h : Agree n a b) (k : Agree m b c) (hm : n ≤ m) : Agree n a c := fun i hi => (k i (Nat.lt_of_lt_of_le hi hm)).trans (h i hi)
theorem Agree.mono {n m : Nat} {a b : Bl} (h : Agree n a b) (hm : m ≤ n) : Agree m a b := fun i hi => h i (Nat.lt_of_lt_of_le hi hm)
theorem AC.den_agree {E : Env} {n : Nat} {bl bl' : Bl} (h : Agree n bl bl') {x : AC} (hx : x.wf n = true) : x.den E bl' = x.den E bl := by
  cases x with
  | dy b _ _ _ =>
    have hb : b + 1 < n := by simpa [AC.wf] using hx
    simp only [AC.den, h b (by omega), h (b + 1) hb]
  | ptr b _ =>
    have hb := h b (by simpa [AC.wf] using hx)
    simp only [AC.den, at_, hb]
  | slc b _ _ _ _ =>
    have hb := h b (by simpa [AC.wf] using hx)
    simp only [AC.den, at_, hb]
  | _ => rfl
theorem A1.den_agree {E : Env} {n : Nat} {bl bl' : Bl} (h : Agree n bl bl') {x : A1} (hx : x.wf n = true) : x.den E bl' = x.den E bl := by
  cases x with
  | c x => exact AC.den_agree h hx
  | a l =>
    simp only [A1.wf, List.all_eq_true] at hx
    simp only [A1.den]
    rw [List.map_congr_left fun x hm => AC.den_agree h (hx x hm)]
theorem AV.den_agree {E : Env} {n : Nat} {bl bl' : Bl} (h : Agree n bl bl') {x : AV} (hx : x.wf n = true) : x.den E bl' = x.den E bl := by
  cases x with
  | one x => exact A1.den_agree h hx
  | tup l =>
    simp only [AV.wf, List.all_eq_true] at hx
    simp only [AV.den]
    rw [List.map_congr_left fun x hm => A1.den_agree h (hx x hm)]
theorem AC.wf_mono {n m : Nat} (h : n ≤ m) {x : AC} (hx : x.wf n = true) : x.wf m = true := by
  cases x with
  | ptr b _ => have : b < n := by simpa [AC.wf] using hx
               simp [AC.wf]; omega
  | slc b _ _ _ _ => have : b < n := by simpa [AC.wf] using hx
                     simp [AC.wf]; omega
  | dy b _ _ _ => have : b + 1 < n := by simpa [AC.wf] using hx
                  simp [AC.wf]; omega
  | _ => rfl
theorem A1.wf_mono {n m : Nat} (h : n ≤ m) {x : A1} (hx : x.wf n = true) : x.wf m = true := by
  cases x with
  | c x => exact AC.wf_mono h hx
  | a l =>
    simp only [A1.wf, List.all_eq_true] at *
    exact fun x hm => AC.wf_mono h (hx x hm)
theorem AV.wf_mono {n m : Nat} (h : n ≤ m) {x : AV} (hx : x.wf n = true) : x.wf m = true := by
  cases x with
  | one x => exact A1.wf_mono h hx
  | tup l =>
    simp only [AV.wf, List.all_eq_true] at *
    exact fun x hm => A1.wf_mono h (hx x hm)
structure EnvOk (E : Env) : Prop where
  one : ∀ i, (E.vl i).oneCell' = true
  nm : ∀ i, i < 100 → E.nm i ≤ 1099511627776
  rowLen : ∀ i, (E.row i).length = E.nm i
  rowOne : ∀ i, ∀ v ∈ E.row i, v.oneCell' = true
theorem AC.den_one {E : Env} (hE : EnvOk E) (bl : Bl) {x : AC} (h : x.one = true) : (x.den E bl).oneCell' = true := by
  cases x <;> simp only [AC.den, AC.one] at * <;> first | exact h | rfl | exact hE.one _

/-! ### memory -/
structure MB where
  cs : List AC
  rw : Bool
  live : Bool
  own : Bool
  row : Nat
  solo : Bool
def MB.lo (E : Env) (b : MB) : Nat := (rowOf E b.row).length
structure MRel (E : Env) (bl : Bl) (w0 : World) (m : List MB) (w : World) : Prop where
  os : w.os = w0.os
  tape : w.tape = w0.tape
  output : w.output = w0.output
  size : w0.heap.size ≤ w.heap.size
  lt : ∀ (i : Nat) (b : MB), m[i]? = some b → (bl i).1 < w.heap.size
  cell : ∀ (i : Nat) (b : MB) (j : Nat) (x : AC), m[i]? = some b → b.live = true → b.cs[j]? = some x → w.cell? (at_ bl i j) = some (x.den E bl)
  wf : ∀ (i : Nat) (b : MB), m[i]? = some b → b.live = true → ∀ x ∈ b.cs, x.wf m.length = true
  thaw : ∀ (i : Nat) (b : MB) (j : Nat), m[i]? = some b → b.live = true → b.rw = true → j < b.cs.length → w.frozen? (at_ bl i j) = false
  sep : ∀ (i k : Nat) (bi bk : MB), i ≠ k → m[i]? = some bi → m[k]? = some bk → bi.rw = true → bi.live = true → bk.live = true →
    (bl i).1 ≠ (bl k).1 ∨ (bl i).2 + bi.cs.length + bk.lo E ≤ (bl k).2 ∨ (bl k).2 + bk.cs.length + bi.lo E ≤ (bl i).2
  keep : ∀ b, b < w0.heap.size → (∀ (i : Nat) (bi : MB), m[i]? = some bi → bi.rw = true → (bl i).1 ≠ b) → w.heap[b]? = w0.heap[b]?
  keepc : ∀ b o, b < w0.heap.size → (∀ (i : Nat) (bi : MB), m[i]? = some bi → bi.rw = true → ¬((bl i).1 = b ∧ (bl i).2 ≤ o + bi.lo E ∧ o < (bl i).2 + bi.cs.length)) → w.cell? ⟨b, o, none⟩ = w0.cell? ⟨b, o, none⟩
  keepf : ∀ b o, b < w0.heap.size → w.frozen? ⟨b, o, none⟩ = w0.frozen? ⟨b, o, none⟩
  new : ∀ (i : Nat) (b : MB), m[i]? = some b → b.own = true → w0.heap.size ≤ (bl i).1
  rowb : ∀ (i : Nat) (b : MB), m[i]? = some b → b.live = true → b.lo E ≤ (bl i).2
  rowc : ∀ (i : Nat) (b : MB) (j : Nat) (v : Value), m[i]? = some b → b.live = true → (rowOf E b.row)[j]? = some v → w.cell? ⟨(bl i).1, (bl i).2 - b.lo E + j, none⟩ = some v
  solo : ∀ (i : Nat) (b : MB), m[i]? = some b → b.live = true → b.solo = true → i + 1 < m.length ∧ (bl i).2 = b.lo E ∧ b.lo E + b.cs.length ≤ (bl (i + 1)).2 ∧ (bl (i + 1)).2 ≤ maxLen ∧
    (∀ j, j < (bl (i + 1)).2 → (w.cell? ⟨(bl i).1, j, none⟩).isSome = true ∧ w.frozen? ⟨(bl i).1, j, none⟩ = false) ∧
    ∀ (k : Nat) (bk : MB), k ≠ i → m[k]? = some bk → bk.live = true → (bl k).1 ≠ (bl i).1

section
variable {E : Env} {bl : Bl} {w0 w : World} {m : List MB}
theorem MRel.drew (h : MRel E bl w0 m w) : MRel E bl w0 m w.drew :=
  ⟨h.os, h.tape, h.output, h.size, h.lt, h.cell, h.wf, h.thaw, h.sep, h.keep, h.keepc, h.keepf, h.new, h.rowb, h.rowc, h.solo⟩

def addBl (bl : Bl) (n a : Nat) : Bl := fun i => if i = n then (a, 0) else bl i
theorem addBl_agree (bl : Bl) (n a : Nat) : Agree n bl (addBl bl n a) := fun i hi => by simp [addBl, show i ≠ n by omega]
theorem addBl_at (bl : Bl) (n a : Nat) : addBl bl n a n = (a, 0) := by simp [addBl]

theorem MRel.alloc (h : MRel E bl w0 m w) (cs : List AC) (t : TypeId) (hcs : cs.all (AC.wf m.length) = true) :
    MRel E (addBl bl m.length w.heap.size) w0 (m ++ [⟨cs, true, true, true, 0, false⟩]) (w.alloc (.cells (cs.map (AC.den E bl)).toArray t)) := by
  have ag := addBl_agree bl m.length w.heap.size
  have hsz : (w.alloc (.cells (cs.map (AC.den E bl)).toArray t)).heap.size = w.heap.size + 1 := World.size_alloc _ _
  have old : ∀ {i : Nat} {b : MB}, (m ++ [(⟨cs, true, true, true, 0, false⟩ : MB)])[i]? = some b → (i < m.length ∧ m[i]? = some b) ∨ (i = m.length ∧ b = ⟨cs, true, true, true, 0, false⟩) := fun {i b} hi => by
    rcases Nat.lt_or_ge i m.length with hlt | hge
    · exact .inl ⟨hlt, by rwa [List.getElem?_append_left hlt] at hi⟩
    · rw [List.getElem?_append_right hge] at hi
      have : i - m.length = 0 := by
        rcases Nat.eq_zero_or_pos (i - m.length) with h0 | h0
        · exact h0
        · rw [List.getElem?_eq_none (by simp; omega)] at hi; cases hi
      rw [this] at hi
      exact .inr ⟨by omega, by simpa using hi.symm⟩
  have allocOld : ∀ a : Addr, a.block < w.heap.size → (w.alloc (.cells (cs.map (AC.den E bl)).toArray t)).cell? a = w.cell? a := fun a ha => World.cell?_alloc_lt _ _ _ ha
  have frOld : ∀ a : Addr, a.block < w.heap.size → (w.alloc (.cells (cs.map (AC.den E bl)).toArray t)).frozen? a = w.frozen? a := fun a ha => World.frozen?_alloc_old _ _ _ (by omega)
  have hpOld : ∀ b, b < w.heap.size → (w.alloc (.cells (cs.map (AC.den E bl)).toArray t)).heap[b]? = w.heap[b]? := fun b hb => Below.heap_alloc _ _ _ hb
  refine ⟨h.os, h.tape, h.output, by rw [hsz]; exact Nat.le_succ_of_le h.size, ?_, ?_, ?_, ?_, ?_, ?_, ?_, ?_, ?_, ?_, ?_, ?_⟩
  · intro i b hi
    rw [hsz]
    rcases old hi with ⟨hlt, hb⟩ | ⟨rfl, rfl⟩
    · rw [ag i hlt]; exact Nat.lt_succ_of_lt (h.lt i b hb)
    · rw [addBl_at]; exact Nat.lt_succ_self _
  · intro i b j x hi hl hx
    rcases old hi with ⟨hlt, hb⟩ | ⟨rfl, rfl⟩
    · have hat : at_ (addBl bl m.length w.heap.size) i j = at_ bl i j := by simp only [at_, ag i hlt]
      rw [hat, allocOld _ (h.lt i b hb), h.cell i b j x hb hl hx, AC.den_agree ag (h.wf i b hb hl x (List.mem_of_getElem? hx))]
    · have hat : at_ (addBl bl m.length w.heap.size) m.length j = ⟨w.heap.size, j, none⟩ := by simp only [at_, addBl_at, Nat.zero_add]
      rw [hat, World.cell?_alloc_new]
      simp only at hx
      simp [hx]
      exact (AC.den_agree ag ((List.all_eq_true.1 hcs) x (List.mem_of_getElem? hx))).symm
  · intro i b hi hl x hx
    rw [List.length_append]
    rcases old hi with ⟨hlt, hb⟩ | ⟨rfl, rfl⟩
    · exact AC.wf_mono (Nat.le_add_right _ _) (h.wf i b hb hl x hx)
    · exact AC.wf_mono (Nat.le_add_right _ _) ((List.all_eq_true.1 hcs) x hx)
  · intro i b j hi hl hr hj
    rcases old hi with ⟨hlt, hb⟩ | ⟨rfl, rfl⟩
    · have hat : at_ (addBl bl m.length w.heap.size) i j = at_ bl i j := by simp only [at_, ag i hlt]
      rw [hat, frOld _ (h.lt i b hb)]
      exact h.thaw i b j hb hl hr hj
    · have hat : at_ (addBl bl m.length w.heap.size) m.length j = ⟨w.heap.size, j, none⟩ := by simp only [at_, addBl_at, Nat.zero_add]
      rw [hat]
      exact World.frozen?_alloc_new _ _ _ _
  · intro i k bi bk hik hi hk hr hli hlk
    rcases old hi with ⟨hlt, hb⟩ | ⟨rfl, rfl⟩ <;> rcases old hk with ⟨hlt', hb'⟩ | ⟨rfl, rfl⟩
    · rw [ag i hlt, ag k hlt']
      exact h.sep i k bi bk hik hb hb' hr hli hlk
    · rw [ag i hlt, addBl_at]
      exact .inl (Nat.ne_of_lt (h.lt i bi hb))
    · rw [ag k hlt', addBl_at]
      exact .inl (Nat.ne_of_gt (h.lt k bk hb'))
    · exact absurd rfl hik
  · intro b hb hn
    rw [hpOld b (Nat.lt_of_lt_of_le hb h.size)]
    refine h.keep b hb fun i bi hi hr => ?_
    have hlt : i < m.length := (List.getElem?_eq_some_iff.1 hi).1
    have := hn i bi (by rw [List.getElem?_append_left hlt]; exact hi) hr
    rwa [ag i hlt] at this
  · intro b o hb hn
    rw [allocOld _ (Nat.lt_of_lt_of_le hb h.size)]
    refine h.keepc b o hb fun i bi hi hr => ?_
    have hlt : i < m.length := (List.getElem?_eq_some_iff.1 hi).1
    have := hn i bi (by rw [List.getElem?_append_left hlt]; exact hi) hr
    rwa [ag i hlt] at this
  · intro b o hb
    rw [frOld _ (Nat.lt_of_lt_of_le hb h.size)]
    exact h.keepf b o hb
  · intro i b hi ho
    rcases old hi with ⟨hlt, hb⟩ | ⟨rfl, rfl⟩
    · rw [ag i hlt]; exact h.new i b hb ho
    · rw [addBl_at]; exact h.size
  · intro i b hi hl
    rcases old hi with ⟨hlt, hb⟩ | ⟨rfl, rfl⟩
    · rw [ag i hlt]; exact h.rowb i b hb hl
    · exact Nat.zero_le _
  · intro i b j v hi hl hv
    rcases old hi with ⟨hlt, hb⟩ | ⟨rfl, rfl⟩
    · rw [ag i hlt, allocOld _ (h.lt i b hb)]; exact h.rowc i b j v hb hl hv
    · simp [rowOf] at hv
  · intro i b hi hl hs
    rcases old hi with ⟨hlt, hb⟩ | ⟨rfl, rfl⟩
    · obtain ⟨h1, h2, h3, h4, h5, h6⟩ := h.solo i b hb hl hs
      rw [ag i hlt, ag (i + 1) h1]
      refine ⟨by rw [List.length_append]; omega, h2, h3, h4, fun j hj => ?_, fun k bk hk hbk hlk => ?_⟩
      · rw [allocOld _ (h.lt i b hb), frOld _ (h.lt i b hb)]; exact h5 j hj
      · rcases old hbk with ⟨hlt', hb'⟩ | ⟨rfl, rfl⟩
        · rw [ag k hlt']; exact h6 k bk hk hb' hlk
        · rw [addBl_at]; exact Nat.ne_of_gt (h.lt i b hb)
    · cases hs

/-- The memory with a cell written. -/
def setC (m : List MB) (r : Nat) (b : MB) (off : Nat) (x : AC) : List MB := m.set r { b with cs := b.cs.set off x }
theorem length_setC (m : List MB) (r : Nat) (b : MB) (off : Nat) (x : AC) : (setC m r b off x).length = m.length := by simp [setC]

theorem MRel.store (h : MRel E bl w0 m w) {r : Nat} {b : MB} {off : Nat} {x : AC} (hr : m[r]? = some b) (hrw : b.rw = true) (hlive : b.live = true) (hoff : off < b.cs.length)
    (hx : x.wf m.length = true) : MRel E bl w0 (setC m r b off x) (w.setCell (at_ bl r off) (x.den E bl)) := by
  have hrlt : r < m.length := (List.getElem?_eq_some_iff.1 hr).1
  have get : ∀ {i : Nat} {c : MB}, (setC m r b off x)[i]? = some c → (i = r ∧ c = { b with cs := b.cs.set off x }) ∨ (i ≠ r ∧ m[i]? = some c) := fun {i c} hi => by
    unfold setC at hi
    by_cases hir : r = i
    · subst hir
      rw [List.getElem?_set_self hrlt] at hi
      exact .inl ⟨rfl, (Option.some.inj hi).symm⟩
    · rw [List.getElem?_set_ne hir] at hi
      exact .inr ⟨fun e => hir e.symm, hi⟩
  have bwd : ∀ {i : Nat} {c : MB}, m[i]? = some c → ∃ c' : MB, (setC m r b off x)[i]? = some c' ∧ c'.rw = c.rw ∧ c'.live = c.live ∧ c'.cs.length = c.cs.length ∧ c'.row = c.row := fun {i c} hi => by
    unfold setC
    by_cases hir : r = i
    · subst hir
      have := Option.some.inj (hr.symm.trans hi)
      subst this
      exact ⟨_, List.getElem?_set_self hrlt, rfl, rfl, by simp, rfl⟩
    · exact ⟨c, by rw [List.getElem?_set_ne hir]; exact hi, rfl, rfl, rfl, rfl⟩
  have hold : ∃ u, w.cell? (at_ bl r off) = some u := ⟨_, h.cell r b off _ hr hlive (List.getElem?_eq_getElem hoff)⟩
  obtain ⟨u, hu⟩ := hold
  have fwd : ∀ {i : Nat} {c : MB}, (setC m r b off x)[i]? = some c → ∃ c0 : MB, m[i]? = some c0 ∧ c.rw = c0.rw ∧ c.live = c0.live ∧ c.cs.length = c0.cs.length ∧ c.row = c0.row ∧ c.solo = c0.solo := fun {i c} hi => by
    rcases get hi with ⟨rfl, rfl⟩ | ⟨_, hm⟩
    · exact ⟨b, hr, rfl, rfl, by simp, rfl, rfl⟩
    · exact ⟨c, hm, rfl, rfl, rfl, rfl, rfl⟩
  refine ⟨h.os, h.tape, h.output, by simpa using h.size, ?_, ?_, ?_, ?_, ?_, ?_, ?_, ?_, ?_, ?_, ?_, ?_⟩
  · intro i c hi
    obtain ⟨c0, hm, _⟩ := fwd hi
    simpa using h.lt i c0 hm
  · intro i c j y hi hl hy
    rcases get hi with ⟨rfl, rfl⟩ | ⟨hne, hm⟩
    · simp only at hy hl
      by_cases hjo : off = j
      · subst hjo
        rw [List.getElem?_set_self hoff] at hy
        rw [World.cell?_setCell_same _ _ _ hu, Option.some.inj hy]
      · rw [List.getElem?_set_ne hjo] at hy
        rw [World.cell?_setCell_other _ _ _ _ (by
          intro he
          apply hjo
          have := congrArg Addr.off he
          simp only [at_] at this
          omega)]
        exact h.cell _ b j y hr hl hy
    · have hj : j < c.cs.length := (List.getElem?_eq_some_iff.1 hy).1
      rw [World.cell?_setCell_other _ _ _ _ (by
        intro he
        have e1 := congrArg Addr.block he
        have e2 := congrArg Addr.off he
        simp only [at_] at e1 e2
        rcases h.sep r i b c (Ne.symm hne) hr hm hrw hlive hl with h1 | h1 | h1
        · exact h1 e1
        · omega
        · omega)]
      exact h.cell i c j y hm hl hy
  · intro i c hi hl y hy
    rw [length_setC]
    rcases get hi with ⟨rfl, rfl⟩ | ⟨_, hm⟩
    · simp only at hy
      rcases List.mem_or_eq_of_mem_set hy with h1 | h1
      · exact h.wf _ b hr hl y h1
      · rw [h1]; exact hx
    · exact h.wf i c hm hl y hy
  · intro i c j hi hl hrw' hj
    obtain ⟨c0, hm, e1, e2, e3, _⟩ := fwd hi
    rw [World.frozen?_setCell]
    exact h.thaw i c0 j hm (e2 ▸ hl) (e1 ▸ hrw') (e3 ▸ hj)
  · intro i k ci ck hik hi hk hr' hli hlk
    obtain ⟨c0, hm, e1, e2, e3, e4, _⟩ := fwd hi
    obtain ⟨k0, hm', f1, f2, f3, f4, _⟩ := fwd hk
    have := h.sep i k c0 k0 hik hm hm' (e1 ▸ hr') (e2 ▸ hli) (f2 ▸ hlk)
    unfold MB.lo at *
    rw [e3, f3, e4, f4]
    exact this
  · intro a ha hn
    have hne : (bl r).1 ≠ a := hn r { b with cs := b.cs.set off x } (by unfold setC; exact List.getElem?_set_self hrlt) hrw
    rw [Below.heap_setCell _ _ _ _ (by simp only [at_]; exact Ne.symm hne)]
    refine h.keep a ha fun i ci hi hr' => ?_
    obtain ⟨c', hc', e1, _⟩ := bwd hi
    exact hn i c' hc' (e1.trans hr')
  · intro a o ha hn
    have hne := hn r { b with cs := b.cs.set off x } (by unfold setC; exact List.getElem?_set_self hrlt) hrw
    rw [World.cell?_setCell_other _ _ _ _ (by
      intro he
      have e1 := congrArg Addr.block he
      have e2 := congrArg Addr.off he
      simp only [at_] at e1 e2
      apply hne
      simp only [List.length_set]
      exact ⟨e1, by omega, by omega⟩)]
    refine h.keepc a o ha fun i ci hi hr' => ?_
    obtain ⟨c', hc', e1, _, e3, e4⟩ := bwd hi
    have := hn i c' hc' (e1.trans hr')
    unfold MB.lo at *
    rwa [e3, e4] at this
  · intro a o ha
    rw [World.frozen?_setCell]
    exact h.keepf a o ha
  · intro i c hi ho
    rcases get hi with ⟨rfl, rfl⟩ | ⟨_, hm⟩
    · exact h.new _ b hr ho
    · exact h.new i c hm ho
  · intro i c hi hl
    obtain ⟨c0, hm, _, e2, _, e4, _⟩ := fwd hi
    have := h.rowb i c0 hm (e2 ▸ hl)
    unfold MB.lo at *
    rw [e4]; exact this
  · intro i c j v hi hl hv
    obtain ⟨c0, hm, _, e2, e3, e4, _⟩ := fwd hi
    have hlo := h.rowb i c0 hm (e2 ▸ hl)
    have hj : j < c0.lo E := by rw [e4] at hv; exact (List.getElem?_eq_some_iff.1 hv).1
    rw [show c.lo E = c0.lo E by unfold MB.lo; rw [e4]]
    rw [World.cell?_setCell_other _ _ _ _ (by
      intro he
      have f1 := congrArg Addr.block he
      have f2 := congrArg Addr.off he
      simp only [at_] at f1 f2
      by_cases hir : r = i
      · subst hir
        omega
      · rcases h.sep r i b c0 hir hr hm hrw hlive (e2 ▸ hl) with h1 | h1 | h1
        · exact h1 f1
        · omega
        · omega)]
    exact h.rowc i c0 j v hm (e2 ▸ hl) (e4 ▸ hv)
  · intro i c hi hl hs
    obtain ⟨c0, hm, _, e2, e3, e4, e5⟩ := fwd hi
    obtain ⟨h1, h2, h3, h4, h5, h6⟩ := h.solo i c0 hm (e2 ▸ hl) (e5 ▸ hs)
    have elo : c.lo E = c0.lo E := by unfold MB.lo; rw [e4]
    refine ⟨by rw [length_setC]; exact h1, by rw [elo]; exact h2, by rw [elo, e3]; exact h3, h4, fun j hj => ?_, fun k bk hk hbk hlk => ?_⟩
    · rw [World.frozen?_setCell]
      refine ⟨?_, (h5 j hj).2⟩
      by_cases he : (⟨(bl i).1, j, none⟩ : Addr) = at_ bl r off
      · rw [he, World.cell?_setCell_same _ _ _ hu]; rfl
      · rw [World.cell?_setCell_other _ _ _ _ (fun e => he e.symm)]; exact (h5 j hj).1
    · obtain ⟨k0, hk0, _, f2, _⟩ := fwd hbk
      exact h6 k k0 hk hk0 (f2 ▸ hlk)

theorem MRel.below (h : MRel E bl w0 m w) (hall : (m.all fun b => !b.rw || b.own) = true) : Below w0.heap.size w0 w := by
  refine ⟨h.os, h.tape, h.output, h.size, fun k hk => h.keep k hk fun i b hi hr he => ?_⟩
  have := List.all_eq_true.1 hall b (List.mem_of_getElem? hi)
  simp only [hr, Bool.not_true, Bool.false_or] at this
  have := h.new i b hi this
  omega
/-- A start without blocks. -/
theorem MRel.nil (E : Env) (bl : Bl) (w : World) : MRel E bl w [] w :=
  ⟨rfl, rfl, rfl, Nat.le_refl _, fun _ _ h => by simp at h, fun _ _ _ _ h => by simp at h, fun _ _ h => by simp at h, fun _ _ _ h => by simp at h, fun _ _ _ _ _ h => by simp at h,
    fun _ _ _ => rfl, fun _ _ _ _ => rfl, fun _ _ _ => rfl, fun _ _ h => by simp at h, fun _ _ h => by simp at h, fun _ _ _ _ h => by simp at h, fun _ _ h => by simp at h⟩
end
end Go.Proofs.YtfilandehjmikaaDoor.Sx
