/- One operation of the model over abstract values and memory, and that the model's run does just that. No condition. -/
import Derived.Test.YtfilandehjmikaaDoorSxQ
import Derived.ChangeKeysEq
namespace Go.Proofs.YtfilandehjmikaaDoor.Sx
open Go.RowKit

section
variable {E : Env} {bl : Bl} {w0 w : World} {m : List MB}

/-! ### aggregates out of parts -/
def putAll (cells : List AC) (off : Nat) : List AC → List AC
  | [] => cells
  | x :: xs => putAll (cells.set off x) (off + 1) xs
theorem putAll_length : ∀ (xs : List AC) (cells : List AC) (off : Nat), (putAll cells off xs).length = cells.length
  | [], _, _ => rfl
  | x :: xs, cells, off => by rw [putAll, putAll_length xs]; simp
theorem putAll_den (E : Env) (bl : Bl) (off : Nat) : ∀ (xs cells : List AC) (k : Nat),
    (((xs.map (AC.den E bl)).zipIdx k).foldl (fun cs (p : Value × Nat) => cs.setIfInBounds (off + p.2) p.1) (cells.map (AC.den E bl)).toArray) = ((putAll cells (off + k) xs).map (AC.den E bl)).toArray
  | [], _, _ => rfl
  | x :: xs, cells, k => by
    simp only [List.map_cons, List.zipIdx_cons, List.foldl_cons, putAll]
    have := putAll_den E bl off xs (cells.set (off + k) x) (k + 1)
    rw [Nat.add_assoc, ← this]
    congr 1
    simp
def fillA (place : Nat → Option (Nat × Nat)) (cells : List AC) : List (Nat × A1) → Option (List AC)
  | [] => some cells
  | (i, x) :: rest => match place i with
    | some (off, size) => if Nat.beq x.cells.length size && Nat.ble (off + size) cells.length && x.one1 then fillA place (putAll cells off x.cells) rest else none
    | none => none
theorem fillA_run (hE : EnvOk E) (place : Nat → Option (Nat × Nat)) : ∀ (ps : List (Nat × A1)) (cells r : List AC), fillA place cells ps = some r →
    Instr.fill place (cells.map (AC.den E bl)).toArray (ps.map fun p => (p.1, p.2.den E bl)) = some (r.map (AC.den E bl)).toArray
  | [], cells, r, h => by cases h; rfl
  | (i, x) :: rest, cells, r, h => by
    unfold fillA at h
    split at h
    · rename_i off size hp
      split at h
      · rename_i hc
        simp only [Bool.and_eq_true, Nat.beq_eq, Nat.ble_eq] at hc
        obtain ⟨⟨h1, h2⟩, h3⟩ := hc
        have ih := fillA_run hE place rest _ r h
        have hcs := A1.cells_den E bl x h3 hE
        simp only [List.map_cons, Instr.fill, hp, hcs]
        rw [if_neg (by simp; omega), ← ih]
        congr 1
        rw [← Array.foldl_toList, Array.toList_zipIdx]
        have := putAll_den E bl off x.cells cells 0
        simp only [Nat.add_zero] at this
        rw [← this]
      · cases h
    · cases h
theorem fillA_wf {n : Nat} (place : Nat → Option (Nat × Nat)) : ∀ (ps : List (Nat × A1)) (cells r : List AC), fillA place cells ps = some r → cells.all (AC.wf n) = true → (∀ p ∈ ps, p.2.wf n = true) → r.all (AC.wf n) = true
  | [], cells, r, h, hc, _ => by cases h; exact hc
  | (i, x) :: rest, cells, r, h, hc, hp => by
    have put : ∀ (xs cells : List AC) (off : Nat), cells.all (AC.wf n) = true → xs.all (AC.wf n) = true → (putAll cells off xs).all (AC.wf n) = true := by
      intro xs
      induction xs with
      | nil => exact fun _ _ h _ => h
      | cons y ys ih =>
        intro cells off h1 h2
        simp only [List.all_cons, Bool.and_eq_true] at h2
        refine ih _ _ ?_ h2.2
        simp only [List.all_eq_true] at h1 ⊢
        intro z hz
        rcases List.mem_or_eq_of_mem_set hz with h | h
        · exact h1 z h
        · rw [h]; exact h2.1
    unfold fillA at h
    split at h
    · split at h
      · exact fillA_wf place rest _ r h (put _ _ _ hc (A1.cells_wf (hp (i, x) (by simp)))) fun p hm => hp p (by simp [hm])
      · cases h
    · cases h
def zeroA (P : Program) (t : TypeId) : Option (List AC) :=
  match P.info? t with
  | some it => match it.zero with
    | some z => match litA z with
      | some x => some x.cells
      | none => none
    | none => none
  | none => none
def aBuild (P : Program) (t : TypeId) (ps : List (Nat × A1)) : Option A1 :=
  match zeroA P t, P.underlying t with
  | some z, some (.array _ e) => match P.info? e with
    | some ie => (fillA (fun i => some (i * ie.size, ie.size)) z ps).map .a
    | none => none
  | some z, some (.struct fields) => match fields.toList.mapM (fun f => (P.info? f.type).map fun i => (f.offset, i.size)) with
    | some places => (fillA (places.toArray[·]?) z ps).map .a
    | none => none
  | _, _ => none
theorem zeroA_run {P : Program} (hE : EnvOk E) {t : TypeId} {z : List AC} (h : zeroA P t = some z) : ∃ it zv, P.info? t = some it ∧ it.zero = some zv ∧ zv.cells = (z.map (AC.den E bl)).toArray ∧ ∀ n, z.all (AC.wf n) = true := by
  unfold zeroA at h
  split at h
  · rename_i it hi
    split at h
    · rename_i zv hz
      split at h
      · rename_i x hx
        cases h
        obtain ⟨e1, e2, e3⟩ := litA_den (E := E) (bl := bl) hx
        refine ⟨it, zv, hi, hz, ?_, fun n => A1.cells_wf (e2 n)⟩
        rw [← e1]
        exact A1.cells_den E bl x e3 hE
      · cases h
    · cases h
  · cases h
theorem aBuild_run {P : Program} (hE : EnvOk E) {t : TypeId} {ps : List (Nat × A1)} {r : A1} (h : aBuild P t ps = some r) (w : World) (parts : Array (Nat × Value)) (hps : parts.toList = ps.map fun p => (p.1, p.2.den E bl)) :
    (Instr.build t parts).run P w = .ok (r.den E bl) w ∧ ∀ n, (∀ p ∈ ps, p.2.wf n = true) → r.wf n = true := by
  unfold aBuild at h
  split at h
  · rename_i z n0 e hz hu
    obtain ⟨it, zv, h1, h2, h3, h4⟩ := zeroA_run (bl := bl) hE hz
    split at h
    · rename_i ie hie
      cases hf : fillA (fun i => some (i * ie.size, ie.size)) z ps with
      | none => rw [hf] at h; cases h
      | some cs =>
        rw [hf] at h; cases h
        refine ⟨?_, fun n hn => fillA_wf _ _ _ _ hf (h4 n) hn⟩
        exact run_build w t parts _ (by
          unfold Program.built
          simp only [h1, hu, h2, hie, h3]
          rw [hps]
          exact fillA_run hE _ _ _ _ hf)
    · cases h
  · rename_i z fields hz hu
    obtain ⟨it, zv, h1, h2, h3, h4⟩ := zeroA_run (bl := bl) hE hz
    split at h
    · rename_i places hpl
      cases hf : fillA (places.toArray[·]?) z ps with
      | none => rw [hf] at h; cases h
      | some cs =>
        rw [hf] at h; cases h
        refine ⟨?_, fun n hn => fillA_wf _ _ _ _ hf (h4 n) hn⟩
        exact run_build w t parts _ (by
          unfold Program.built
          simp only [h1, hu, h2, hpl, h3]
          rw [hps]
          exact fillA_run hE _ _ _ _ hf)
    · cases h
  · cases h

/-! ### operations on written-out values -/
def peel (P : Program) {α : Type} : Sem α → Option α
  | .pure a => some a
  | .program k => peel P (k P)
  | _ => none
theorem peel_run {P : Program} {α : Type} : ∀ {s : Sem α} {a : α}, peel P s = some a → ∀ w, s.run P w = .ok a w := by
  intro s
  induction s with
  | pure a => intro b h w; cases h; rfl
  | program k ih => intro b h w; exact ih P h w
  | _ => intro b h; cases h

def Val.beq : Value → Value → Bool
  | .int k a, .int k' b => decide (k = k') && decide (a = b)
  | .bool a, .bool b => a == b
  | .nilIface, .nilIface => true
  | .pointer none, .pointer none => true
  | .tuple a, .tuple b => a.isEmpty && b.isEmpty
  | .slice none a b, .slice none c d => Nat.beq a c && Nat.beq b d
  | _, _ => false
theorem Val.beq_eq {a b : Value} (h : Val.beq a b = true) : a = b := by
  unfold Val.beq at h
  split at h
  · simp only [Bool.and_eq_true, decide_eq_true_eq] at h; rw [h.1, h.2]
  · simp only [beq_iff_eq] at h; rw [h]
  · rfl
  · rfl
  · simp only [Bool.and_eq_true, Array.isEmpty_iff] at h; rw [h.1, h.2]
  · simp only [Bool.and_eq_true, Nat.beq_eq] at h; rw [h.1, h.2]
  · cases h
def AN.beq (a b : AN) : Bool := Nat.beq a.s b.s && Nat.beq a.c b.c
theorem AN.beq_eq {a b : AN} (h : a.beq b = true) : a = b := by
  obtain ⟨s, c⟩ := a
  obtain ⟨s', c'⟩ := b
  simp only [AN.beq, Bool.and_eq_true, Nat.beq_eq] at h
  rw [h.1, h.2]
def AC.beq : AC → AC → Bool
  | .v a, .v b => Val.beq a b
  | .w k s, .w k' t => decide (k = k') && s.beq t
  | .n a, .n b => a.beq b
  | .o i, .o j => Nat.beq i j
  | .ptr b x, .ptr c p => Nat.beq b c && Nat.beq x p
  | .slc b x p l c, .slc b' x' p' l' c' => Nat.beq b b' && Nat.beq x x' && Nat.beq p p' && l.beq l' && c.beq c'
  | .dy b x p l, .dy b' x' p' l' => Nat.beq b b' && Nat.beq x x' && Nat.beq p p' && l.beq l'
  | _, _ => false
theorem AC.beq_eq {a b : AC} (h : a.beq b = true) : a = b := by
  unfold AC.beq at h
  split at h
  · rw [Val.beq_eq h]
  · simp only [Bool.and_eq_true, decide_eq_true_eq] at h; rw [h.1, T.beq_eq h.2]
  · rw [AN.beq_eq h]
  · rw [Nat.eq_of_beq_eq_true h]
  · simp only [Bool.and_eq_true, Nat.beq_eq] at h; rw [h.1, h.2]
  · simp only [Bool.and_eq_true, Nat.beq_eq] at h
    obtain ⟨⟨⟨⟨h1, h2⟩, h3⟩, h4⟩, h5⟩ := h
    rw [h1, h2, h3, AN.beq_eq h4, AN.beq_eq h5]
  · simp only [Bool.and_eq_true, Nat.beq_eq] at h
    obtain ⟨⟨⟨h1, h2⟩, h3⟩, h4⟩ := h
    rw [h1, h2, h3, AN.beq_eq h4]
  · cases h
/-- Operations whose outcome is known beforehand. -/
abbrev Cms := List (BinOp × TypeId × AC × AC × AC)
def CmOk (P : Program) (E : Env) (cm : Cms) : Prop := ∀ p ∈ cm, p.2.2.2.2.wf 0 = true ∧ ∀ (bl : Bl) (w : World) (u v : Operand),
  (do eqGuard p.1 p.2.1 u v (p.2.2.1.den E bl) (p.2.2.2.1.den E bl); binOp p.1 p.2.1 (p.2.2.1.den E bl) (p.2.2.2.1.den E bl) : Sem Value).run P w = .ok (p.2.2.2.2.den E bl) w
def opEq (a b : BinOp) : Bool := decide (a = b)
def lookCm (op : BinOp) (ty : TypeId) (x y : AC) : Cms → Option AC
  | [] => none
  | (o, t, a, b, r) :: l => if opEq o op && Nat.beq t ty && a.beq x && b.beq y then some r else lookCm op ty x y l
theorem lookCm_mem {op : BinOp} {ty : TypeId} {x y r : AC} : ∀ {cm : Cms}, lookCm op ty x y cm = some r → (op, ty, x, y, r) ∈ cm
  | [], h => by cases h
  | (o, t, a, b, q) :: l, h => by
    unfold lookCm at h
    split at h
    · rename_i hc
      simp only [Bool.and_eq_true, opEq, decide_eq_true_eq, Nat.beq_eq] at hc
      obtain ⟨⟨⟨h1, h0⟩, h2⟩, h3⟩ := hc
      cases h
      rw [h1, h0, AC.beq_eq h2, AC.beq_eq h3]
      exact List.mem_cons_self ..
    · exact List.mem_cons_of_mem _ (lookCm_mem h)
/-- Two numbers compared. -/
theorem cm_int {P : Program} {E : Env} {op : BinOp} {ty : TypeId} {x y : AC} {r : Bool} {k : IntKind} {a b : Int} (hx : ∀ bl, x.den E bl = .int k a) (hy : ∀ bl, y.den E bl = .int k b)
    (h : ∀ (w : World), (binOp op ty (.int k a) (.int k b)).run P w = .ok (.bool r) w) : (AC.v (.bool r)).wf 0 = true ∧ ∀ (bl : Bl) (w : World) (u v : Operand),
      (do eqGuard op ty u v (x.den E bl) (y.den E bl); binOp op ty (x.den E bl) (y.den E bl) : Sem Value).run P w = .ok ((AC.v (.bool r)).den E bl) w :=
  ⟨rfl, fun bl w u v => by rw [hx, hy]; simp only [Sem.run_bind, run_eqGuard_int, Result.andThen_ok, h, AC.den]⟩
def aBin (P : Program) (cm : Cms) (op : BinOp) (ty : TypeId) (p q : Operand) (x y : AC) : Option AC :=
  match x, y with
  | .v u, .v v => (peel P (do eqGuard op ty p q u v; binOp op ty u v)).map .v
  | x, y => match lookCm op ty x y cm with
    | some r => some r
    | none => match aWord op x y with
      | some r => some r
      | none => match aShift op x y with
        | some r => some r
        | none => if smallN x then aNum op x y else none
theorem aBin_run {P : Program} (hE : EnvOk E) {cm : Cms} (hcm : CmOk P E cm) {op : BinOp} {ty : TypeId} {p q : Operand} {x y r : AC} (h : aBin P cm op ty p q x y = some r) (w : World) :
    (do eqGuard op ty p q (x.den E bl) (y.den E bl); binOp op ty (x.den E bl) (y.den E bl) : Sem Value).run P w = .ok (r.den E bl) w ∧ ∀ n, r.wf n = true := by
  have two : ∀ {x y r : AC}, (binOp op ty (x.den E bl) (y.den E bl)).run P w = .ok (r.den E bl) w ∧ (∀ p q, (eqGuard op ty p q (x.den E bl) (y.den E bl)).run P w = .ok () w) ∧ (∀ n, r.wf n = true) →
      (do eqGuard op ty p q (x.den E bl) (y.den E bl); binOp op ty (x.den E bl) (y.den E bl) : Sem Value).run P w = .ok (r.den E bl) w ∧ ∀ n, r.wf n = true := fun ⟨h1, h2, h3⟩ => by
    refine ⟨?_, h3⟩
    simp only [Sem.run_bind, h2 p q, Result.andThen_ok, h1]
  unfold aBin at h
  split at h
  · rename_i u v
    cases hp : peel P (do eqGuard op ty p q u v; binOp op ty u v) with
    | none => rw [hp] at h; cases h
    | some z => rw [hp] at h; cases h; exact ⟨peel_run hp w, fun _ => rfl⟩
  · split at h
    · rename_i hr
      cases h
      obtain ⟨e1, e2⟩ := hcm _ (lookCm_mem hr)
      exact ⟨e2 bl w p q, fun n => AC.wf_mono (Nat.zero_le n) e1⟩
    · split at h
      · rename_i hr; cases h; exact two (aWord_run P w hr)
      · split at h
        · rename_i hr; cases h; exact two (aShift_run P w hr)
        · split at h
          · rename_i hs; exact two (aNum_run hE P w h (smallN_spec hs))
          · cases h
def aUn (P : Program) (op : UnOp) (x : AC) : Option AC :=
  match x with
  | .v u => (peel P (Op.unary op u)).map .v
  | .w k t => match op with
    | .xor => if t.fits k then (match k with | .u64 => some (.w k (mkNot t)) | .u8 => some (.w k (mkXor1 (.k 255) t)) | _ => none) else none
    | _ => none
  | _ => none
theorem aUn_run {P : Program} {op : UnOp} {x r : AC} (h : aUn P op x = some r) (w : World) : (Op.unary op (x.den E bl)).run P w = .ok (r.den E bl) w ∧ ∀ n, r.wf n = true := by
  unfold aUn at h
  split at h
  · rename_i u
    cases hp : peel P (Op.unary op u) with
    | none => rw [hp] at h; cases h
    | some z => rw [hp] at h; cases h; exact ⟨peel_run hp w, fun _ => rfl⟩
  · rename_i k t
    split at h
    · split at h
      · rename_i hf
        have hlt := T.fits_lt E hf
        obtain ⟨hB, hw⟩ := T.fits_bits hf
        split at h
        · cases h
          refine ⟨?_, fun _ => rfl⟩
          have := wordBv_width (op := .xor) 64 (by decide) (BitVec.allOnes 64) (t.den E) P w .u64 rfl (.inl rfl) (by decide) (t.den E).isLt (fun n hn => hw n hn)
          simp only [AC.den, Op.unary, mkNot_den]
          have e1 : (if IntKind.u64.signed = true then (-1 : Int) else IntKind.u64.max) = ((BitVec.allOnes 64).toNat : Int) := by decide
          rw [e1, this]
          simp only [wordBv, BitVec.allOnes_xor]
        · cases h
          refine ⟨?_, fun _ => rfl⟩
          have := wordBv_width (op := .xor) 8 (by decide) (255#64) (t.den E) P w .u8 rfl (.inl rfl) (by decide) hlt (fun n hn => hw n hn)
          simp only [AC.den, Op.unary, mkXor1_den, T.den]
          have e1 : (if IntKind.u8.signed = true then (-1 : Int) else IntKind.u8.max) = ((255#64).toNat : Int) := by decide
          rw [e1, this]
          rfl
        · cases h
      · cases h
    · cases h
  · cases h
def aConv (P : Program) (src dst : TypeId) (x : AC) : Option AC :=
  match P.underlying src, P.underlying dst with
  | some _, some (.int d) =>
    match x with
    | .v (.int k n) => (peel P (convert src dst (.int k n))).map .v
    | .w _ t => match d with
      | .u64 => some (.w .u64 t)
      | .u8 => some (.w .u8 (mkByte t 7))
      | .u32 => some (.w .u32 (if t.fits .u32 then t else mkAndK t 4294967295))
      | _ => none
    | .n a => match d with
      | .i64 => if Nat.ble a.c 4611686018427387904 && Nat.ble a.s 100 then some (.n a) else none
      | _ => none
    | _ => none
  | _, _ => none
theorem aConv_run {P : Program} (hE : EnvOk E) {src dst : TypeId} {x r : AC} (h : aConv P src dst x = some r) (w : World) : (convert src dst (x.den E bl)).run P w = .ok (r.den E bl) w ∧ ∀ n, r.wf n = true := by
  unfold aConv at h
  split at h
  · rename_i sd d hs hd
    have hc : ∀ (k : IntKind) (n : Int), (convert src dst (.int k n)).run P w = .ok (.int d (d.wrap n)) w := fun k n => by
      unfold convert
      simp only [Sem.run_bind, run_under hs, run_under hd, Result.andThen_ok]
      cases sd <;> simp [Conv.intToInt]
    split at h
    · rename_i k n
      cases hp : peel P (convert src dst (.int k n)) with
      | none => rw [hp] at h; cases h
      | some z => rw [hp] at h; cases h; exact ⟨peel_run hp w, fun _ => rfl⟩
    · rename_i k t
      simp only [AC.den]
      rw [hc]
      split at h
      · cases h
        refine ⟨?_, fun _ => rfl⟩
        congr 2
        rw [IntKind.wrap_u64]
        have := (t.den E).isLt
        omega
      · cases h
        refine ⟨?_, fun _ => rfl⟩
        congr 2
        rw [IntKind.wrap_u8, mkByte_den E _ _ (by decide)]
        have : byteOf 7 (t.den E) = t.den E &&& 255#64 := by unfold byteOf; simp
        rw [this, BitVec.toNat_and]
        have h2 : (255#64).toNat = 2 ^ 8 - 1 := by decide
        rw [h2, Nat.and_two_pow_sub_one_eq_mod]
        omega
      · cases h
        refine ⟨?_, fun _ => rfl⟩
        congr 2
        rw [IntKind.wrap_u32]
        split
        · rename_i hf
          have := T.fits_lt E hf
          simp only [IntKind.bits] at this
          omega
        rw [mkAndK_den, BitVec.toNat_and]
        have h2 : (BitVec.ofNat 64 4294967295).toNat = 2 ^ 32 - 1 := by decide
        rw [h2, Nat.and_two_pow_sub_one_eq_mod]
        omega
      · cases h
    · rename_i a
      split at h
      · split at h
        · rename_i hsm
          simp only [Bool.and_eq_true, Nat.ble_eq] at hsm
          cases h
          refine ⟨?_, fun _ => rfl⟩
          simp only [AC.den]
          rw [hc]
          congr 2
          have := AN.val_le hE a hsm.2
          exact wrap_small _ (by omega)
        · cases h
      · cases h
    · cases h
  · cases h
def aLen (P : Program) (argTypes : Array TypeId) (x : AC) : Option AC :=
  match argTypes[0]? with
  | some t => match P.underlying t with
    | some (.slice _) => match x with
      | .slc _ _ _ len _ => some (mkN len)
      | .dy _ _ _ len => some (mkN len)
      | .v (.slice _ n _) => some (.v (.int .i64 (n : Int)))
      | _ => none
    | some (.array n _) => some (.v (.int .i64 (n : Int)))
    | _ => none
  | none => none
theorem aLen_run {P : Program} {argTypes : Array TypeId} {x r : AC} {ty : TypeId} (h : aLen P argTypes x = some r) (w : World) (args : Array Value) (ha : args[0]? = some (x.den E bl)) :
    (Builtin.len_ argTypes ty args).run P w = .ok (r.den E bl) w ∧ ∀ n, r.wf n = true := by
  unfold aLen at h
  split at h
  · rename_i t ht
    split at h
    · rename_i e hu
      split at h
      · cases h
        refine ⟨?_, mkN_wf _⟩
        simp only [Builtin.len_, ht, ha, Sem.run_bind, run_under hu, Result.andThen_ok, AC.den, goInt, Sem.run_pure]
        exact congrArg (fun v => Result.ok v w) (mkN_den E bl _).symm
      · cases h
        refine ⟨?_, mkN_wf _⟩
        simp only [Builtin.len_, ht, ha, Sem.run_bind, run_under hu, Result.andThen_ok, AC.den, goInt, Sem.run_pure]
        exact congrArg (fun v => Result.ok v w) (mkN_den E bl _).symm
      · cases h
        refine ⟨?_, fun _ => rfl⟩
        simp only [Builtin.len_, ht, ha, Sem.run_bind, run_under hu, Result.andThen_ok, AC.den, goInt, Sem.run_pure]
      · cases h
    · rename_i n e hu
      cases h
      refine ⟨?_, fun _ => rfl⟩
      simp only [Builtin.len_, ht, ha, Sem.run_bind, run_under hu, Result.andThen_ok, goInt, Sem.run_pure, AC.den]
    · cases h
  · cases h
def aCap (P : Program) (argTypes : Array TypeId) (x : AC) : Option AC :=
  match argTypes[0]? with
  | some t => match P.underlying t with
    | some (.slice _) => match x with
      | .slc _ _ _ _ cap => some (mkN cap)
      | .v (.slice _ _ n) => some (.v (.int .i64 (n : Int)))
      | _ => none
    | _ => none
  | none => none
theorem aCap_run {P : Program} {argTypes : Array TypeId} {x r : AC} {ty : TypeId} (h : aCap P argTypes x = some r) (w : World) (args : Array Value) (ha : args[0]? = some (x.den E bl)) :
    (Builtin.cap_ argTypes ty args).run P w = .ok (r.den E bl) w ∧ ∀ n, r.wf n = true := by
  unfold aCap at h
  split at h
  · rename_i t ht
    split at h
    · rename_i e hu
      split at h
      · cases h
        refine ⟨?_, mkN_wf _⟩
        simp only [Builtin.cap_, ht, ha, Sem.run_bind, run_under hu, Result.andThen_ok, AC.den, goInt, Sem.run_pure]
        exact congrArg (fun v => Result.ok v w) (mkN_den E bl _).symm
      · cases h
        refine ⟨?_, fun _ => rfl⟩
        simp only [Builtin.cap_, ht, ha, Sem.run_bind, run_under hu, Result.andThen_ok, AC.den, goInt, Sem.run_pure]
      · cases h
    · cases h
  · cases h

/-! ### two arrays of words -/
def wsOf (k : IntKind) : List AC → Option (List T)
  | [] => some []
  | x :: l => match toW x, wsOf k l with
    | some (k', t), some r => if k' = k then some (t :: r) else none
    | _, _ => none
theorem wsOf_den {k : IntKind} : ∀ {l : List AC} {r : List T}, wsOf k l = some r → l.map (AC.den E bl) = (r.map (T.den E)).map fun x => Value.int k (x.toNat : Int)
  | [], r, h => by cases h; rfl
  | x :: l, r, h => by
    unfold wsOf at h
    split at h
    · rename_i k' t r' h1 h2
      split at h
      · rename_i hk
        cases h; subst hk
        simp only [List.map_cons, toW_den h1, wsOf_den h2]
      · cases h
    · cases h
def tBeq : List T → List T → Bool
  | [], [] => true
  | a :: l, b :: r => a.beq b && tBeq l r
  | _, _ => false
theorem tBeq_eq : ∀ {a b : List T}, tBeq a b = true → a = b
  | [], [], _ => rfl
  | a :: l, b :: r, h => by
    simp only [tBeq, Bool.and_eq_true] at h
    rw [T.beq_eq h.1, tBeq_eq h.2]
  | [], _ :: _, h => by cases h
  | _ :: _, [], h => by cases h
/-- A pair of lists of words that are known to differ. -/
abbrev Nes := List (List T × List T)
def NeOk (E : Env) (ne : Nes) : Prop := ∀ p ∈ ne, p.1.map (T.den E) ≠ p.2.map (T.den E)
def aEqw (ne : Nes) (a b : List T) : Option Bool :=
  if tBeq a b then some true
  else if ne.any fun p => (tBeq p.1 a && tBeq p.2 b) || (tBeq p.1 b && tBeq p.2 a) then some false else none
theorem aEqw_den {ne : Nes} (hne : NeOk E ne) {a b : List T} {r : Bool} (h : aEqw ne a b = some r) : r = decide (a.map (T.den E) = b.map (T.den E)) := by
  unfold aEqw at h
  split at h
  · rename_i hc; cases h; rw [tBeq_eq hc]; simp
  · split at h
    · rename_i hc
      cases h
      obtain ⟨p, hp, hh⟩ := List.any_eq_true.1 hc
      simp only [Bool.or_eq_true, Bool.and_eq_true] at hh
      have := hne p hp
      rcases hh with ⟨h1, h2⟩ | ⟨h1, h2⟩
      · rw [← tBeq_eq h1, ← tBeq_eq h2]; exact (decide_eq_false this).symm
      · rw [← tBeq_eq h1, ← tBeq_eq h2]; exact (decide_eq_false (Ne.symm this)).symm
    · cases h
def aEql (P : Program) (ne : Nes) (neg : Bool) (t : TypeId) (a b : List AC) : Option AC :=
  match P.underlying t with
  | some (.array n e) => match P.underlying e, P.info? e with
    | some (.int k), some i =>
      if Nat.beq i.size 1 && Nat.beq a.length n && Nat.beq b.length n && !P.eqGuardType P.depth t then
        match wsOf k a, wsOf k b with
        | some x, some y => (aEqw ne x y).map fun r => .v (.bool (if neg then !r else r))
        | _, _ => none
      else none
    | _, _ => none
  | _ => none
theorem run_eqItems_words {P : Program} {e : TypeId} {k : IntKind} (he : P.underlying e = some (.int k)) (w : World) (d : Nat) (x y : List (BitVec 64)) : ∀ is : List Nat, (∀ i ∈ is, i < x.length ∧ i < y.length) →
    (Op.eqItems (d + 1) e 1 (x.map fun v => Value.int k (v.toNat : Int)).toArray (y.map fun v => Value.int k (v.toNat : Int)).toArray is).run P w = .ok (is.all fun i => x[i]? == y[i]?) w
  | [], _ => by simp [Op.eqItems]
  | i :: is, h => by
    obtain ⟨h1, h2⟩ := h i (by simp)
    have ih := run_eqItems_words he w d x y is fun j hj => h j (by simp [hj])
    have p1 : (part e (x.map fun v => Value.int k (v.toNat : Int)).toArray (i * 1)).run P w = .ok (.int k ((x[i]).toNat : Int)) w := by
      simp only [part, Sem.run_bind, run_isAgg he, aAgg, Result.andThen_ok, Bool.false_eq_true, if_false, Nat.mul_one, List.getElem?_toArray, List.getElem?_map, List.getElem?_eq_getElem h1, Option.map_some, Sem.run_pure]
    have p2 : (part e (y.map fun v => Value.int k (v.toNat : Int)).toArray (i * 1)).run P w = .ok (.int k ((y[i]).toNat : Int)) w := by
      simp only [part, Sem.run_bind, run_isAgg he, aAgg, Result.andThen_ok, Bool.false_eq_true, if_false, Nat.mul_one, List.getElem?_toArray, List.getElem?_map, List.getElem?_eq_getElem h2, Option.map_some, Sem.run_pure]
    simp only [Op.eqItems, Sem.run_bind, p1, p2, Result.andThen_ok, run_equalIn_int w d e k k _ _ he]
    have e1 : (((x[i]).toNat : Int) == ((y[i]).toNat : Int)) = (x[i]? == y[i]?) := by
      rw [List.getElem?_eq_getElem h1, List.getElem?_eq_getElem h2, Bool.eq_iff_iff]
      simp only [beq_iff_eq, Option.some.injEq]
      exact ⟨fun h => BitVec.eq_of_toNat_eq (by omega), fun h => by rw [h]⟩
    rw [e1]
    simp only [List.all_cons]
    cases hx : (x[i]? == y[i]?)
    · simp
    · simpa using ih
theorem aEql_run {P : Program} {ne : Nes} (hne : NeOk E ne) {neg : Bool} {t : TypeId} {a b : List AC} {r : AC} (h : aEql P ne neg t a b = some r) (w : World) (p q : Operand) :
    (do eqGuard (if neg then .neq else .eql) t p q (.agg (a.map (AC.den E bl)).toArray) (.agg (b.map (AC.den E bl)).toArray)
        binOp (if neg then .neq else .eql) t (.agg (a.map (AC.den E bl)).toArray) (.agg (b.map (AC.den E bl)).toArray) : Sem Value).run P w = .ok (r.den E bl) w ∧ ∀ n, r.wf n = true := by
  unfold aEql at h
  split at h
  · rename_i n e hu
    split at h
    · rename_i k i he hi
      split at h
      · rename_i hc
        simp only [Bool.and_eq_true, Nat.beq_eq, Bool.not_eq_true'] at hc
        obtain ⟨⟨⟨h1, h2⟩, h3⟩, h4⟩ := hc
        split at h
        · rename_i x y hx hy
          cases hr : aEqw ne x y with
          | none => rw [hr] at h; cases h
          | some b1 =>
            rw [hr] at h
            cases h
            have hb := aEqw_den hne hr
            rw [wsOf_den hx, wsOf_den hy]
            have lx : (x.map (T.den E)).length = n := by
              have := congrArg List.length (wsOf_den (E := E) (bl := bl) hx)
              simp only [List.length_map] at this ⊢
              omega
            have ly : (y.map (T.den E)).length = n := by
              have := congrArg List.length (wsOf_den (E := E) (bl := bl) hy)
              simp only [List.length_map] at this ⊢
              omega
            generalize x.map (T.den E) = X at *
            generalize y.map (T.den E) = Y at *
            have hcs : P.cellsOf e = 1 := by simp [Program.cellsOf, hi, h1]
            have hall : ((List.range n).all fun i => X[i]? == Y[i]?) = b1 := by
              rw [hb, Bool.eq_iff_iff]
              simp only [List.all_eq_true, List.mem_range, beq_iff_eq, decide_eq_true_eq]
              refine ⟨fun h => List.ext_getElem? fun j => ?_, fun h j _ => by rw [h]⟩
              rcases Nat.lt_or_ge j n with hj | hj
              · exact h j hj
              · rw [List.getElem?_eq_none (by omega), List.getElem?_eq_none (by omega)]
            have hrun := run_equalIn_array (P := P) w 9999 (X.map fun v => Value.int k (v.toNat : Int)).toArray (Y.map fun v => Value.int k (v.toNat : Int)).toArray hu hi
            rw [hcs, run_eqItems_words he w 9998 X Y (List.range n) fun j hj => by have := List.mem_range.1 hj; omega, hall] at hrun
            have hgd : ∀ op, (eqGuard op t p q (.agg (X.map fun v => Value.int k (v.toNat : Int)).toArray) (.agg (Y.map fun v => Value.int k (v.toNat : Int)).toArray)).run P w = .ok () w := fun op => by
              unfold eqGuard
              cases op <;> simp [h4]
            refine ⟨?_, fun _ => rfl⟩
            cases neg
            · simp only [Bool.false_eq_true, if_false, Sem.run_bind, hgd, Result.andThen_ok, run_eql_struct]
              rw [show (10000 : Nat) = 9999 + 1 from rfl, hrun]
              rfl
            · simp only [if_true, Sem.run_bind, hgd, Result.andThen_ok, run_neq_struct]
              rw [show (10000 : Nat) = 9999 + 1 from rfl, hrun]
              rfl
        · cases h
      · cases h
    · cases h
  · cases h
end
end Go.Proofs.YtfilandehjmikaaDoor.Sx
