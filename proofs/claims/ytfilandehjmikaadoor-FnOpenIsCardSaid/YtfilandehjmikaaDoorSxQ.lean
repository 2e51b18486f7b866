/- Memory: each abstract operation on blocks, addresses, slices and aggregates, and that the model's does just that. No condition. -/
import Derived.Test.YtfilandehjmikaaDoorSxP
namespace Go.Proofs.YtfilandehjmikaaDoor.Sx
open Go.RowKit

def aAgg : TypeDesc → Bool
  | .struct _ => true
  | .array _ _ => true
  | _ => false
theorem run_isAgg {P : Program} {t : TypeId} {d : TypeDesc} (h : P.underlying t = some d) (w : World) : (isAgg t).run P w = .ok (aAgg d) w := by
  simp only [isAgg, underlying, Sem.run_bind, run_program, Result.andThen_ok, h, Sem.run_pure]
  cases d <;> rfl
theorem run_under {P : Program} {t : TypeId} {d : TypeDesc} (h : P.underlying t = some d) (w : World) : (underlying t).run P w = .ok d w := by
  simp only [underlying, Sem.run_bind, run_program, Result.andThen_ok, h, Sem.run_pure]
theorem run_size {P : Program} {t : TypeId} {i : TypeInfo} (h : P.info? t = some i) (w : World) : (sizeOf t).run P w = .ok i.size w := by
  simp only [sizeOf, typeInfo, Sem.run_bind, run_program, Result.andThen_ok, h, Sem.run_pure]
theorem run_zero {P : Program} {t : TypeId} {i : TypeInfo} {z : Value} (h : P.info? t = some i) (hz : i.zero = some z) (w : World) : (zeroValue t).run P w = .ok z w := by
  simp only [zeroValue, typeInfo, Sem.run_bind, run_program, Result.andThen_ok, h, hz, Sem.run_pure]

section
variable {E : Env} {bl : Bl} {w0 w : World} {m : List MB}

/-! ### new blocks -/
def aBox (m : List MB) (x : A1) : Option (AC × List MB) :=
  if x.one1 && x.wf m.length then some (.ptr m.length 0, m ++ [⟨x.cells, true, true, true, 0, false⟩]) else none
theorem aBox_run (P : Program) (t : TypeId) (hE : EnvOk E) {x : A1} {r : AC} {m' : List MB} (h : aBox m x = some (r, m')) (hm : MRel E bl w0 m w) :
    ∃ bl' w', (newVar t (x.den E bl)).run P w = .ok ⟨w.heap.size, 0, none⟩ w' ∧ Agree m.length bl bl' ∧ MRel E bl' w0 m' w' ∧ r.den E bl' = .pointer (some ⟨w.heap.size, 0, none⟩) ∧ r.wf m'.length = true ∧ m'.length = m.length + 1 := by
  unfold aBox at h
  split at h
  · rename_i hc
    simp only [Bool.and_eq_true] at hc
    cases h
    refine ⟨addBl bl m.length w.heap.size, _, ?_, addBl_agree _ _ _, hm.alloc x.cells t (A1.cells_wf hc.2), ?_, ?_, by simp⟩
    · unfold newVar newRow
      rw [A1.cells_den E bl x hc.1 hE]
      simp only [Sem.run_bind, run_newObj, Result.andThen_ok, Sem.run_pure]
      rfl
    · simp only [AC.den, at_, addBl_at, Nat.zero_add]
    · simp [AC.wf]
  · cases h
def aAlloc (P : Program) (m : List MB) (t : TypeId) : Option (AC × List MB) :=
  match P.info? t with
  | some i => match i.zero with
    | some z => match litA z with
      | some x => aBox m x
      | none => none
    | none => none
  | none => none
theorem aAlloc_run (P : Program) {t : TypeId} (hE : EnvOk E) {r : AC} {m' : List MB} (h : aAlloc P m t = some (r, m')) (hm : MRel E bl w0 m w) :
    ∃ bl' w', (Instr.alloc t true (.tuple #[])).run P w = .ok (r.den E bl') w' ∧ Agree m.length bl bl' ∧ MRel E bl' w0 m' w' ∧ r.wf m'.length = true ∧ m'.length = m.length + 1 := by
  unfold aAlloc at h
  split at h
  · rename_i i hi
    split at h
    · rename_i z hz
      split at h
      · rename_i x hx
        obtain ⟨e1, _, _⟩ := litA_den (E := E) (bl := bl) hx
        obtain ⟨bl', w', h1, h2, h3, h4, h5, h6⟩ := aBox_run P t hE h hm
        refine ⟨bl', w', ?_, h2, h3, h5, h6⟩
        unfold Instr.alloc
        simp only [Sem.run_bind, run_zero hi hz, Result.andThen_ok]
        rw [← e1, h1, h4]
        rfl
      · cases h
    · cases h
  · cases h

/-! ### loads -/
def aLoad (P : Program) (m : List MB) (t : TypeId) (p : AC) : Option A1 :=
  match P.underlying t with
  | some d =>
    match aAgg d with
    | true =>
      match P.info? t with
      | some i =>
        match p with
        | .ptr b off => match m[b]? with
          | some k => if k.live && Nat.beq ((k.cs.drop off).take i.size).length i.size then some (.a ((k.cs.drop off).take i.size)) else none
          | none => none
        | .v (.pointer (some _)) => if Nat.beq i.size 0 then some (.a []) else none
        | _ => none
      | none => none
    | false => match p with
      | .ptr b off => match m[b]? with
        | some k => if k.live then (k.cs[off]?).map .c else none
        | none => none
      | _ => none
  | none => none
theorem aLoad_run {P : Program} {t : TypeId} {p : AC} {x : A1} (h : aLoad P m t p = some x) (hm : MRel E bl w0 m w) :
    (Instr.loadAt t (p.den E bl)).run P w = .ok (x.den E bl) w ∧ x.wf m.length = true := by
  unfold aLoad at h
  split at h
  · rename_i d hd
    split at h
    · rename_i hag
      split at h
      · rename_i i hi
        split at h
        · rename_i b off
          split at h
          · rename_i k hk
            split at h
            · rename_i hc
              simp only [Bool.and_eq_true, Nat.beq_eq] at hc
              obtain ⟨hl, hlen⟩ := hc
              cases h
              have hcell : ∀ j v, (((k.cs.drop off).take i.size).map (AC.den E bl))[j]? = some v → w.cell? ((at_ bl b off).add j) = some v := fun j v hj => by
                rw [List.getElem?_map] at hj
                cases hx : ((k.cs.drop off).take i.size)[j]? with
                | none => rw [hx] at hj; cases hj
                | some y =>
                  rw [hx] at hj
                  cases hj
                  rw [at_add]
                  refine hm.cell b k (off + j) y hk hl ?_
                  rw [List.getElem?_take] at hx
                  split at hx
                  · rwa [List.getElem?_drop] at hx
                  · cases hx
              have := run_loadCells_list (P := P) w (at_ bl b off) (((k.cs.drop off).take i.size).map (AC.den E bl)) hcell
              rw [List.length_map, hlen] at this
              refine ⟨?_, ?_⟩
              · simp only [Instr.loadAt, Instr.sureAddr, AC.den, Sem.run_bind, Sem.run_pure, Result.andThen_ok, loadVar, run_isAgg hd, hag, if_true, run_size hi, this, A1.den]
              · simp only [A1.wf, List.all_eq_true]
                exact fun y hy => hm.wf b k hk hl y (List.mem_of_mem_drop (List.mem_of_mem_take hy))
            · cases h
          · cases h
        · rename_i a
          split at h
          · rename_i hz
            simp only [Nat.beq_eq] at hz
            cases h
            refine ⟨?_, rfl⟩
            simp only [Instr.loadAt, Instr.sureAddr, AC.den, Sem.run_bind, Sem.run_pure, Result.andThen_ok, loadVar, run_isAgg hd, hag, if_true, run_size hi, hz, A1.den]
            rfl
          · cases h
        · cases h
      · cases h
    · rename_i hag
      split at h
      · rename_i b off
        split at h
        · rename_i k hk
          split at h
          · rename_i hl
            cases hx : k.cs[off]? with
            | none => rw [hx] at h; cases h
            | some y =>
              rw [hx] at h
              cases h
              have hc := hm.cell b k off y hk hl hx
              refine ⟨?_, hm.wf b k hk hl y (List.mem_of_getElem? hx)⟩
              simp only [Instr.loadAt, Instr.sureAddr, AC.den, Sem.run_bind, Sem.run_pure, Result.andThen_ok, loadVar, run_isAgg hd, hag, Bool.false_eq_true, if_false, run_load, hc, A1.den]
          · cases h
        · cases h
      · cases h
  · cases h

/-! ### stores -/
def storeL (m : List MB) (r off : Nat) : List AC → Option (List MB)
  | [] => some m
  | x :: xs => match m[r]? with
    | some b => if b.rw && b.live && Nat.blt off b.cs.length && x.wf m.length && x.one then storeL (setC m r b off x) r (off + 1) xs else none
    | none => none
theorem storeL_run (P : Program) (hE : EnvOk E) (r off : Nat) : ∀ (xs : List AC) (i : Nat) (m m' : List MB) (w : World), storeL m r (off + i) xs = some m' → MRel E bl w0 m w →
    ∃ w', (storeCells (at_ bl r off) (xs.map (AC.den E bl)) i).run P w = .ok () w' ∧ MRel E bl w0 m' w' ∧ m'.length = m.length
  | [], i, m, m', w, h, hm => by
    cases h
    exact ⟨w, rfl, hm, rfl⟩
  | x :: xs, i, m, m', w, h, hm => by
    unfold storeL at h
    split at h
    · rename_i b hb
      split at h
      · rename_i hc
        simp only [Bool.and_eq_true, Nat.blt_eq] at hc
        obtain ⟨⟨⟨⟨h1, h2⟩, h3⟩, h4⟩, h5⟩ := hc
        have hst := hm.store hb h1 h2 h3 h4
        obtain ⟨w', e1, e2, e3⟩ := storeL_run P hE r off xs (i + 1) _ m' _ h hst
        refine ⟨w', ?_, e2, by rw [e3, length_setC]⟩
        have hcell := hm.cell r b (off + i) _ hb h2 (List.getElem?_eq_getElem h3)
        have hfr := hm.thaw r b (off + i) hb h2 h1 h3
        simp only [List.map_cons, storeCells, Sem.run_bind, at_add, run_store P w _ _ _ (AC.den_one hE bl h5), hcell, hfr, Bool.false_eq_true, if_false, Result.andThen_ok]
        exact e1
      · cases h
    · cases h
def aStore (P : Program) (m : List MB) (t : TypeId) (p : AC) (x : A1) : Option (List MB) :=
  match P.info? t with
  | some i =>
    if Nat.beq x.cells.length i.size && x.one1 then
      match p with
      | .ptr b off => storeL m b off x.cells
      | _ => none
    else none
  | none => none
theorem aStore_run {P : Program} {t : TypeId} (hE : EnvOk E) {p : AC} {x : A1} {m' : List MB} (h : aStore P m t p x = some m') (hm : MRel E bl w0 m w) :
    ∃ w', (Instr.storeAt t (p.den E bl) (x.den E bl)).run P w = .ok () w' ∧ MRel E bl w0 m' w' ∧ m'.length = m.length := by
  unfold aStore at h
  split at h
  · rename_i i hi
    split at h
    · rename_i hc
      simp only [Bool.and_eq_true, Nat.beq_eq] at hc
      split at h
      · rename_i b off
        obtain ⟨w', e1, e2, e3⟩ := storeL_run P hE b off x.cells 0 m m' w h hm
        refine ⟨w', ?_, e2, e3⟩
        have hcs := A1.cells_den E bl x hc.2 hE
        have hsz : (x.den E bl).cells.size = i.size := by rw [hcs]; simpa using hc.1
        simp only [Instr.storeAt, Instr.sureAddr, AC.den, Sem.run_bind, Sem.run_pure, Result.andThen_ok, storeVar, run_size hi, ne_eq, hsz, not_true, if_false]
        rw [hcs]
        exact e1
      · cases h
    · cases h
  · cases h

/-! ### addresses -/
def aFieldAddr (P : Program) (s : TypeId) (p : AC) (i : Nat) : Option AC :=
  match P.underlying s with
  | some (.struct fs) => match fs[i]? with
    | some f => match P.info? f.type with
      | some j => if Nat.beq j.size 0 then none else match p with
        | .ptr b off => some (.ptr b (off + f.offset))
        | _ => none
      | none => none
    | none => none
  | _ => none
theorem aFieldAddr_run {P : Program} {s : TypeId} {p r : AC} {i : Nat} (h : aFieldAddr P s p i = some r) (w : World) :
    (Instr.fieldAt s (p.den E bl) i).run P w = .ok (r.den E bl) w ∧ ∀ n, p.wf n = true → r.wf n = true := by
  unfold aFieldAddr at h
  split at h
  · rename_i fs hu
    split at h
    · rename_i f hf
      split at h
      · rename_i j hj
        split at h
        · cases h
        · rename_i hz
          simp only [Nat.beq_eq] at hz
          split at h
          · cases h
            refine ⟨?_, fun n hn => hn⟩
            simp only [Instr.fieldAt, Sem.run_bind, run_under hu, Result.andThen_ok, hf, Instr.sureAddr, AC.den, Sem.run_pure, fieldPlace, run_size hj, hz, if_false, at_add]
          · cases h
      · cases h
    · cases h
  · cases h
def litNat : AC → Option Nat
  | .v (.int _ n) => if 0 ≤ n then some n.toNat else none
  | _ => none
theorem litNat_den {x : AC} {n : Nat} (h : litNat x = some n) : ∃ k, x.den E bl = .int k (n : Int) := by
  unfold litNat at h
  split at h
  · rename_i k n'
    split at h
    · rename_i h0
      cases h
      exact ⟨k, by simp only [AC.den]; congr 1; omega⟩
    · cases h
  · cases h
def aIndexAddr (P : Program) (t : TypeId) (x ix : AC) : Option AC :=
  match litNat ix with
  | some i =>
    match P.underlying t with
    | some (.array len elem) => match P.info? elem with
      | some j => match x with
        | .ptr b off => if Nat.blt i len then some (.ptr b (off + i * j.size)) else none
        | _ => none
      | none => none
    | some (.slice elem) => match P.info? elem with
      | some j => match x with
        | .slc b _ off len cap => if Nat.blt i len.c && Nat.blt 0 cap.c then some (.ptr b (off + i * j.size)) else none
        | .dy b 0 off len => if Nat.blt i len.c then some (.ptr b (off + i * j.size)) else none
        | _ => none
      | none => none
    | _ => none
  | none => none
theorem aIndexAddr_run {P : Program} {t : TypeId} {x ix r : AC} (h : aIndexAddr P t x ix = some r) (w : World) :
    (Instr.indexAt t (x.den E bl) (ix.den E bl)).run P w = .ok (r.den E bl) w ∧ ∀ n, x.wf n = true → r.wf n = true := by
  unfold aIndexAddr at h
  split at h
  · rename_i i hi
    obtain ⟨k, hk⟩ := litNat_den (E := E) (bl := bl) hi
    rw [hk]
    split at h
    · rename_i len elem hu
      split at h
      · rename_i j hj
        split at h
        · split at h
          · rename_i hlt
            simp only [Nat.blt_eq] at hlt
            cases h
            refine ⟨?_, fun n hn => hn⟩
            have hb : (0 : Int) ≤ (i : Int) ∧ (i : Int) < (len : Int) := by omega
            simp only [Instr.indexAt, asIntOf, Sem.run_bind, Sem.run_pure, Result.andThen_ok, run_under hu, Instr.sureAddr, AC.den, hb, and_self, if_true, run_size hj, Int.toNat_natCast, at_add]
          · cases h
        · cases h
      · cases h
    · rename_i elem hu
      split at h
      · rename_i j hj
        split at h
        · rename_i b off0 off len cap
          split at h
          · rename_i hlt
            simp only [Bool.and_eq_true, Nat.blt_eq] at hlt
            cases h
            refine ⟨?_, fun n hn => hn⟩
            have h1 := AN.val_c E len
            have h2 := AN.val_c E cap
            have hb : (0 : Int) ≤ (i : Int) ∧ (i : Int) < (len.val E : Int) := by omega
            have hcap : ¬ cap.val E = 0 := by omega
            simp only [Instr.indexAt, asIntOf, Sem.run_bind, Sem.run_pure, Result.andThen_ok, run_under hu, AC.den, hcap, if_false, hb, and_self, if_true, run_size hj, Int.toNat_natCast, at_add]
          · cases h
        · rename_i b off len
          split at h
          · rename_i hlt
            simp only [Nat.blt_eq] at hlt
            cases h
            refine ⟨?_, fun n hn => by simp only [AC.wf, Nat.blt_eq] at hn ⊢; omega⟩
            have h1 := AN.val_c E len
            have hb : (0 : Int) ≤ (i : Int) ∧ (i : Int) < (len.val E : Int) := by omega
            have hat : (⟨(bl b).1, (bl b).2 + off, none⟩ : Addr) = at_ bl b off := rfl
            simp only [Instr.indexAt, asIntOf, Sem.run_bind, Sem.run_pure, Result.andThen_ok, run_under hu, AC.den, rowOf, List.length_nil, Nat.sub_zero, hb, and_self, if_true, run_size hj, Int.toNat_natCast, hat, at_add]
          · cases h
        · cases h
      · cases h
    · cases h
  · cases h

/-! ### slices -/
def aLo (x : Option AC) : Option AN :=
  match x with
  | none => some ⟨0, 0⟩
  | some v => (litNat v).map fun n => ⟨0, n⟩
def aHi (d : AN) (x : Option AC) : Option AN :=
  match x with
  | none => some d
  | some v => toAN v
theorem run_bound {x : Value} {k : IntKind} {n y : Nat} {code : BoundsCode} (hx : x = .int k (n : Int)) (hn : n ≤ y) (P : Program) (w : World) : (Instr.sliceBound x y code).run P w = .ok n w := by
  subst hx
  have hb : (0 : Int) ≤ (n : Int) ∧ (n : Int) ≤ (y : Int) := by omega
  simp only [Instr.sliceBound, asIntOf, Sem.run_bind, Sem.run_pure, Result.andThen_ok, hb, and_self, if_true, Int.toNat_natCast]
theorem run_bounds {isSlice : Bool} {len cap : Nat} {low high : Option Value} {l h : Nat} (P : Program) (w : World)
    (hh : high = none ∧ h = len ∨ ∃ k, high = some (.int k (h : Int)) ∧ h ≤ cap) (hl : low = none ∧ l = 0 ∨ ∃ k, low = some (.int k (l : Int)) ∧ l ≤ h) :
    (Instr.sliceBounds isSlice len cap low high none).run P w = .ok (l, h, cap) w := by
  unfold Instr.sliceBounds
  rcases hh with ⟨rfl, rfl⟩ | ⟨k, rfl, hh⟩ <;> rcases hl with ⟨rfl, rfl⟩ | ⟨k', rfl, hl⟩
  · simp only [Sem.run_bind, Sem.run_pure, Result.andThen_ok]
  · simp only [Sem.run_bind, Sem.run_pure, Result.andThen_ok, run_bound rfl hl]
  · simp only [Sem.run_bind, Sem.run_pure, Result.andThen_ok, run_bound rfl hh]
  · simp only [Sem.run_bind, Sem.run_pure, Result.andThen_ok, run_bound rfl hh, run_bound rfl hl]
def aSlice (P : Program) (t : TypeId) (x : AC) (lo hi : Option AC) : Option AC :=
  match P.underlying t with
  | some (.array n elem) => match P.info? elem, x, aLo lo, aHi ⟨0, n⟩ hi with
    | some j, .ptr b off, some l, some h =>
      if h.isLit && Nat.ble l.c h.c && Nat.ble h.c n then some (.slc b off (off + l.c * j.size) ⟨0, h.c - l.c⟩ ⟨0, n - l.c⟩) else none
    | _, _, _, _ => none
  | some (.slice elem) => match P.info? elem, x with
    | some j, .slc b off0 off len cap => match aLo lo, aHi len hi with
      | some l, some h =>
        if (hi.isNone || h.le cap) && l.le h && Nat.ble l.c cap.c then
          match h.sub l, cap.sub l with
          | some len', some cap' => if Nat.beq l.c 0 then some (.slc b off0 off len' cap') else some (.slc b off (off + l.c * j.size) len' cap')
          | _, _ => none
        else none
      | _, _ => none
    | _, _ => none
  | _ => none
theorem aLo_den {x : Option AC} {l : AN} (h : aLo x = some l) {hN : Nat} (hl : l.val E ≤ hN) : l.s = 0 ∧ (x.map (AC.den E bl) = none ∧ l.val E = 0 ∨ ∃ k, x.map (AC.den E bl) = some (.int k (l.val E : Int)) ∧ l.val E ≤ hN) := by
  unfold aLo at h
  split at h
  · cases h; exact ⟨rfl, .inl ⟨rfl, rfl⟩⟩
  · rename_i v
    cases hn : litNat v with
    | none => rw [hn] at h; cases h
    | some n =>
      rw [hn] at h; cases h
      obtain ⟨k, hk⟩ := litNat_den (E := E) (bl := bl) hn
      exact ⟨rfl, .inr ⟨k, by simp only [Option.map_some, hk, AN.val], hl⟩⟩
theorem aHi_den {x : Option AC} {d h : AN} {cap : Nat} (hh : aHi d x = some h) (hc : x.isNone = true ∨ h.val E ≤ cap) :
    x.map (AC.den E bl) = none ∧ h.val E = d.val E ∨ ∃ k, x.map (AC.den E bl) = some (.int k (h.val E : Int)) ∧ h.val E ≤ cap := by
  unfold aHi at hh
  split at hh
  · cases hh; exact .inl ⟨rfl, rfl⟩
  · rename_i v
    rcases hc with hc | hc
    · cases hc
    · exact .inr ⟨.i64, by simp only [Option.map_some, toAN_den hh], hc⟩
theorem aSlice_run {P : Program} {t : TypeId} {x r : AC} {lo hi : Option AC} (h : aSlice P t x lo hi = some r) (w : World) :
    (Instr.sliceAt t (x.den E bl) (lo.map (AC.den E bl)) (hi.map (AC.den E bl)) none).run P w = .ok (r.den E bl) w ∧ ∀ n, x.wf n = true → r.wf n = true := by
  unfold aSlice at h
  split at h
  · rename_i n elem hu
    split at h
    · rename_i j b off l hN hj hl hh
      split at h
      · rename_i hc
        simp only [Bool.and_eq_true, Nat.ble_eq] at hc
        obtain ⟨⟨h1, h2⟩, h3⟩ := hc
        have hv : hN.val E = hN.c := AN.val_lit E h1
        have hls : l.s = 0 := by
          unfold aLo at hl
          split at hl
          · cases hl; rfl
          · rename_i v
            cases hn : litNat v with
            | none => rw [hn] at hl; cases hl
            | some n => rw [hn] at hl; cases hl; rfl
        have lv : l.val E = l.c := AN.val_lit E (by simp [AN.isLit, hls])
        obtain ⟨_, hl'⟩ := aLo_den (E := E) (bl := bl) hl (hN := hN.val E) (by omega)
        have hh' := aHi_den (E := E) (bl := bl) (cap := n) hh (.inr (by omega))
        cases h
        have hd : (⟨0, n⟩ : AN).val E = n := rfl
        rw [hd] at hh'
        have hb := run_bounds (isSlice := false) (len := n) (cap := n) P w hh' hl'
        refine ⟨?_, fun _ hx => hx⟩
        simp only [Instr.sliceAt, AC.den, Sem.run_bind, run_under hu, Result.andThen_ok, Instr.sureAddr, Sem.run_pure, hb, run_size hj, at_add]
        have e1 : (⟨0, hN.c - l.c⟩ : AN).val E = hN.val E - l.val E := by rw [hv, lv]; rfl
        have e2 : (⟨0, n - l.c⟩ : AN).val E = n - l.val E := by rw [lv]; rfl
        rw [e1, e2, lv]
        congr 3
        by_cases hnl : n = l.c
        · simp [hnl]
        · rw [if_neg hnl, if_neg (by omega)]
      · cases h
    · cases h
  · rename_i elem hu
    split at h
    · rename_i j b off0 off len cap hj
      split at h
      · rename_i l hN hl hh
        split at h
        · rename_i hc
          simp only [Bool.and_eq_true, Bool.or_eq_true, Nat.ble_eq] at hc
          obtain ⟨⟨h1, h2⟩, h3⟩ := hc
          have hls : l.s = 0 := by
            unfold aLo at hl
            split at hl
            · cases hl; rfl
            · rename_i v
              cases hn : litNat v with
              | none => rw [hn] at hl; cases hl
              | some n => rw [hn] at hl; cases hl; rfl
          have lv : l.val E = l.c := AN.val_lit E (by simp [AN.isLit, hls])
          have hle := AN.le_val E h2
          obtain ⟨_, hl'⟩ := aLo_den (E := E) (bl := bl) hl (hN := hN.val E) hle
          have hh' := aHi_den (E := E) (bl := bl) (cap := cap.val E) hh (h1.imp id (AN.le_val E))
          have hb := run_bounds (isSlice := true) (len := len.val E) (cap := cap.val E) P w hh' hl'
          split at h
          · rename_i len' cap' g1 g2
            have v1 := AN.sub_val E g1
            have v2 := AN.sub_val E g2
            have e1 : hN.val E - l.val E = len'.val E := by omega
            have e2 : cap.val E - l.val E = cap'.val E := by omega
            split at h
            · rename_i hz
              simp only [Nat.beq_eq] at hz
              cases h
              refine ⟨?_, fun _ hx => hx⟩
              simp only [Instr.sliceAt, Instr.slice, AC.den, Sem.run_bind, run_under hu, Result.andThen_ok, Sem.run_pure, hb, run_size hj, e1, e2, Option.map_some]
              have hl0 : l.val E = 0 := by omega
              rw [hl0] at v2 ⊢
              congr 3
              rw [show cap.val E = cap'.val E by omega]
              by_cases hc0 : cap'.val E = 0
              · simp [hc0]
              · simp [hc0, Addr.add]
            · rename_i hz
              simp only [Nat.beq_eq] at hz
              cases h
              refine ⟨?_, fun _ hx => hx⟩
              have hcp := AN.val_c E cap
              have hne : ¬ cap.val E = 0 := by omega
              rw [lv] at e1 e2
              simp only [Instr.sliceAt, Instr.slice, AC.den, Sem.run_bind, run_under hu, Result.andThen_ok, Sem.run_pure, hb, run_size hj, e1, e2, Option.map_some, hne, if_false, at_add, lv]
              congr 2
              by_cases hc0 : cap'.val E = 0
              · rw [if_pos (by omega), if_pos hc0]
              · rw [if_neg (by omega), if_neg hc0]
          · cases h
        · cases h
      · cases h
    · cases h
  · cases h

/-! ### parts of aggregates -/
def aPart (P : Program) (t : TypeId) (cs : List AC) (off : Nat) : Option A1 :=
  match P.underlying t with
  | some d => match aAgg d with
    | true => match P.info? t with
      | some i => some (.a ((cs.drop off).take i.size))
      | none => none
    | false => (cs[off]?).map .c
  | none => none
theorem aPart_run {P : Program} {t : TypeId} {cs : List AC} {off : Nat} {r : A1} (h : aPart P t cs off = some r) (w : World) :
    (part t (cs.map (AC.den E bl)).toArray off).run P w = .ok (r.den E bl) w ∧ ∀ n, cs.all (AC.wf n) = true → r.wf n = true := by
  unfold aPart at h
  split at h
  · rename_i d hd
    split at h
    · rename_i hag
      split at h
      · rename_i i hi
        cases h
        refine ⟨?_, fun n hn => ?_⟩
        · simp only [part, Sem.run_bind, run_isAgg hd, Result.andThen_ok, hag, if_true, run_size hi, Sem.run_pure, A1.den]
          congr 2
          apply Array.ext'
          simp only [Array.toList_extract, List.extract_eq_take_drop, Nat.add_sub_cancel_left]
          simp [List.map_take, List.map_drop]
        · simp only [List.all_eq_true, A1.wf] at *
          exact fun y hy => hn y (List.mem_of_mem_drop (List.mem_of_mem_take hy))
      · cases h
    · rename_i hag
      cases hx : cs[off]? with
      | none => rw [hx] at h; cases h
      | some y =>
        rw [hx] at h
        cases h
        refine ⟨?_, fun n hn => (List.all_eq_true.1 hn) y (List.mem_of_getElem? hx)⟩
        simp only [part, Sem.run_bind, run_isAgg hd, Result.andThen_ok, hag, Bool.false_eq_true, if_false, List.getElem?_toArray, List.getElem?_map, hx, Option.map_some, Sem.run_pure, A1.den]
  · cases h
def aField (P : Program) (t : TypeId) (x : A1) (i : Nat) : Option A1 :=
  match P.underlying t, x with
  | some (.struct fs), .a cs => match fs[i]? with
    | some f => aPart P f.type cs f.offset
    | none => none
  | _, _ => none
theorem aField_run {P : Program} {t : TypeId} {x r : A1} {i : Nat} (h : aField P t x i = some r) (w : World) :
    (Instr.field t (x.den E bl) i).run P w = .ok (r.den E bl) w ∧ ∀ n, x.wf n = true → r.wf n = true := by
  unfold aField at h
  split at h
  · rename_i fs cs hu
    split at h
    · rename_i f hf
      obtain ⟨h1, h2⟩ := aPart_run (E := E) (bl := bl) h w
      refine ⟨?_, h2⟩
      simp only [Instr.field, A1.den, asAgg, Sem.run_bind, run_under hu, Result.andThen_ok, hf, Sem.run_pure, h1]
    · cases h
  · cases h
def aIndex (P : Program) (t : TypeId) (x : A1) (ix : AC) : Option A1 :=
  match P.underlying t, x, litNat ix with
  | some (.array len elem), .a cs, some i => match P.info? elem with
    | some j => if Nat.blt i len then aPart P elem cs (i * j.size) else none
    | none => none
  | _, _, _ => none
theorem aIndex_run {P : Program} {t : TypeId} {x r : A1} {ix : AC} (h : aIndex P t x ix = some r) (w : World) :
    (Instr.index t (x.den E bl) (ix.den E bl)).run P w = .ok (r.den E bl) w ∧ ∀ n, x.wf n = true → r.wf n = true := by
  unfold aIndex at h
  split at h
  · rename_i len elem cs i hu hi
    obtain ⟨k, hk⟩ := litNat_den (E := E) (bl := bl) hi
    split at h
    · rename_i j hj
      split at h
      · rename_i hlt
        simp only [Nat.blt_eq] at hlt
        obtain ⟨h1, h2⟩ := aPart_run (E := E) (bl := bl) h w
        refine ⟨?_, h2⟩
        have hb : (0 : Int) ≤ (i : Int) ∧ (i : Int) < (len : Int) := by omega
        rw [hk]
        simp only [Instr.index, A1.den, asIntOf, Sem.run_bind, run_under hu, Result.andThen_ok, Sem.run_pure, hb, and_self, if_true, run_size hj, Int.toNat_natCast, h1]
      · cases h
    · cases h
  · cases h
end
end Go.Proofs.YtfilandehjmikaaDoor.Sx
