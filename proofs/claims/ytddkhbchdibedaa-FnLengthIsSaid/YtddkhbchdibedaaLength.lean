/- The law FnLengthIs: for every number it answers true and leaves its argument alone. No condition. -/
import Derived.Test.YtddkhbchdibedaaSame
import Derived.Test.YtddkhbchdibedaaSxL
import Derived.Test.YtddkhbchdibedaaRows
namespace Go.Proofs.Ytddkhbchdibedaa
open Go.ChangeShapes Go.WideShapes Go.RowKit Go.Proofs.Ytddkhbchdibedaa.Sx

def by7 (i : Nat) : T := .byte 7 (.s i)
def bt (k i : Nat) : T := if Nat.ble (8 - k) i then by7 i else .k 0
def xOf (k : Nat) : AC := .w .u64 (.cat (bt k 0) (bt k 1) (bt k 2) (bt k 3) (bt k 4) (bt k 5) (bt k 6) (bt k 7))
def okB : AC → Bool
  | .w .u8 t => t.isB
  | .v (.int .u8 (.ofNat n)) => Nat.blt n 256
  | _ => false
def sameK : CallF := fun f args m =>
  if Nat.beq f 4 then match args with
    | [.c x, .c y] => match contOf [] m x, contOf [] m y with
      | some (0, c), some (0, d) => if lBeq c d && c.all okB then some (.one (.c (.v (.bool true))), m) else none
      | _, _ => none
    | _ => none
  else none
theorem okB_den {E : Env} {bl : Bl} {x : AC} (h : okB x = true) : ∃ n : Int, x.den E bl = .int .u8 n ∧ (Lit.int .u8 n).wf = true := by
  unfold okB at h
  split at h
  · rename_i t
    refine ⟨_, rfl, ?_⟩
    have h8 : (t.den E).toNat < 2 ^ 8 := lt_of_bits fun j hj => T.isB_bit E h j hj
    simp [Lit.wf, IntKind.min, IntKind.max, IntKind.signed, IntKind.bits]
    omega
  · rename_i n
    refine ⟨_, rfl, ?_⟩
    simp only [Nat.blt_eq] at h
    simp [Lit.wf, IntKind.min, IntKind.max, IntKind.signed, IntKind.bits]
    omega
  · cases h
theorem okBs_den {E : Env} {bl : Bl} : ∀ {c : List AC}, c.all okB = true → ∃ zs : List Int, c.map (AC.den E bl) = zs.map (Value.int .u8) ∧ ∀ n ∈ zs, (Lit.int .u8 n).wf = true
  | [], _ => ⟨[], rfl, fun _ h => nomatch h⟩
  | x :: c, h => by
    simp only [List.all_cons, Bool.and_eq_true] at h
    obtain ⟨n, e, w⟩ := okB_den (E := E) (bl := bl) h.1
    obtain ⟨zs, e', w'⟩ := okBs_den (E := E) (bl := bl) h.2
    exact ⟨n :: zs, by simp [e, e'], fun m hm => by
      rcases List.mem_cons.1 hm with rfl | hm
      · exact w
      · exact w' m hm⟩
theorem ent4 : Enters Try.prog 4 := fun _ _ => by kernel_rfl
theorem sameK_ok {E : Env} {w0 : World} {G : Cfg} (hE : EnvOk E) : CallOk Try.prog E w0 G sameK := by
  intro f args m r m' h
  unfold sameK at h
  split at h
  · rename_i hf
    have hf' := Nat.eq_of_beq_eq_true hf
    subst hf'
    refine ⟨ent4, ?_⟩
    split at h
    · rename_i x y
      split at h
      · rename_i c d hx hy
        split at h
        · rename_i hc
          simp only [Bool.and_eq_true] at hc
          cases h
          intro bl w hm _ _
          have hcd := lBeq_eq hc.1
          subst hcd
          obtain ⟨zs, e, hwf⟩ := okBs_den (E := E) (bl := bl) hc.2
          have s1 := (contOf_den hE (so := []) (fun _ hp => nomatch hp) hm hx).2
          have s2 := (contOf_den hE (so := []) (fun _ hp => nomatch hp) hm hy).2
          simp only [rowOf, List.nil_append, e] at s1 s2
          refine (same_calls s1 s2 hwf hwf).mono fun e w' ⟨he, hw⟩ => ⟨bl, ?_, Agree.refl _ _, hw ▸ hm, rfl, Nat.le_refl _⟩
          rw [he]; simp [AV.den, A1.den, AC.den]
        · cases h
      · cases h
    · cases h
  · cases h
def cmL (k : Nat) : Cms := (.geq, 22, xOf k, .v (.int .u64 4611686018427387904), .v (.bool false)) :: (.eql, 5, .w .u8 (match k with | 0 => .k 1 | k + 1 => by7 (7 - k)), .v (.int .u8 0), .v (.bool false)) ::
  (.eql, 5, .w .u8 (.k 0), .v (.int .u8 0), .v (.bool true)) ::
  (List.range 9).flatMap fun j => [(.gtr, 3, .o (20 + j), .v (.int .i64 0), .v (.bool (Nat.blt j k))), (.quo, 3, .o (20 + j), .v (.int .i64 256), .o (21 + j))]
def cvL (k : Nat) : Cvs := (22, 3, xOf k, .o 20) :: (List.range 8).map fun j => (3, 5, .o (20 + j), .w .u8 (by7 (7 - j)))
def GL (k : Nat) : Cfg := { cm := cmL k, cv := cvL k }
def GH : Cfg := { cm := [(.geq, 22, .o 0, .v (.int .u64 4611686018427387904), .v (.bool true))] }
noncomputable def lnRun (G : Cfg) (x : AC) : Option (AV × List MB) := runF Try.prog G (callN Try.prog G sameK [5, 6, 7, 8] 200 4) 200 3 [.c x] []
theorem run_h : endsTrue (lnRun GH (.o 0)) = true := by kernel_rfl
theorem run_l : ∀ k, k ≤ 8 → endsTrue (lnRun (GL k) (xOf k)) = true
  | 0, _ => by kernel_rfl
  | 1, _ => by kernel_rfl
  | 2, _ => by kernel_rfl
  | 3, _ => by kernel_rfl
  | 4, _ => by kernel_rfl
  | 5, _ => by kernel_rfl
  | 6, _ => by kernel_rfl
  | 7, _ => by kernel_rfl
  | 8, _ => by kernel_rfl
  | n + 9, h => absurd h (by omega)

/-! ### the number's bytes -/
def lnEnv (X : Nat) : Env := ⟨fun i => BitVec.ofNat 64 (X / 256 ^ (7 - i) % 256), fun _ _ _ _ _ _ _ => 0, fun _ => 0, fun i => if i = 0 then .int .u64 X else if i < 20 then .bool true else .int .i64 ((X / 256 ^ (i - 20) : Nat) : Int), fun _ => []⟩
theorem lnEnv_ok (X : Nat) : EnvOk (lnEnv X) := by
  refine ⟨fun i => ?_, fun _ _ => Nat.zero_le _, fun _ => rfl, fun _ _ h => nomatch h⟩
  simp only [lnEnv]; split
  · rfl
  · split <;> rfl
theorem vl_at (X j : Nat) : (lnEnv X).vl (20 + j) = .int .i64 ((X / 256 ^ j : Nat) : Int) := by simp [lnEnv]
theorem byte_lt (X i : Nat) : X / 256 ^ (7 - i) % 256 < 256 := Nat.mod_lt _ (by decide)
theorem by7_den (X i : Nat) : ((by7 i).den (lnEnv X)).toNat = X / 256 ^ (7 - i) % 256 := by
  have h1 := byte_lt X i
  simp only [by7, T.den, lnEnv, Sx.byteOf, Nat.sub_self, Nat.mul_zero, BitVec.ushiftRight_zero, BitVec.toNat_and, BitVec.toNat_ofNat]
  rw [Nat.mod_eq_of_lt (by omega : X / 256 ^ (7 - i) % 256 < 2 ^ 64), show 255 % 2 ^ 64 = 2 ^ 8 - 1 by decide, Nat.and_two_pow_sub_one_eq_mod, Nat.mod_eq_of_lt h1]
theorem byteOf_nat {X : Nat} (hX : X < 2 ^ 64) (i : Nat) : (Sx.byteOf i (BitVec.ofNat 64 X)).toNat = X / 256 ^ (7 - i) % 256 := by
  simp only [Sx.byteOf, BitVec.toNat_and, BitVec.toNat_ushiftRight, BitVec.toNat_ofNat]
  rw [Nat.mod_eq_of_lt hX, show 255 % 2 ^ 64 = 2 ^ 8 - 1 by decide, Nat.and_two_pow_sub_one_eq_mod, Nat.shiftRight_eq_div_pow, Nat.pow_mul]
theorem bt_den {X k : Nat} (hX : X < 256 ^ k) (h64 : X < 2 ^ 64) {i : Nat} (hi : i ≤ 7) : (bt k i).den (lnEnv X) = Sx.byteOf i (BitVec.ofNat 64 X) := by
  apply BitVec.eq_of_toNat_eq
  rw [byteOf_nat h64 i]
  unfold bt
  split
  · exact by7_den X i
  · rename_i h
    simp only [Nat.ble_eq] at h
    have : X / 256 ^ (7 - i) = 0 := Nat.div_eq_of_lt (Nat.lt_of_lt_of_le hX (Nat.pow_le_pow_right (by decide) (by omega)))
    simp [T.den, this]
theorem xOf_den {X k : Nat} (hX : X < 256 ^ k) (h64 : X < 2 ^ 64) (bl : Bl) : (xOf k).den (lnEnv X) bl = .int .u64 (X : Int) := by
  have b : ∀ i, i ≤ 7 → (bt k i).den (lnEnv X) = Sx.byteOf i (BitVec.ofNat 64 X) := fun i hi => bt_den hX h64 hi
  simp only [xOf, AC.den, T.den, b 0 (by decide), b 1 (by decide), b 2 (by decide), b 3 (by decide), b 4 (by decide), b 5 (by decide), b 6 (by decide), b 7 (by decide), catOf_self, BitVec.toNat_ofNat, Nat.mod_eq_of_lt h64]
theorem gtr_run (P : Program) (w : World) (ty : TypeId) (a b : Int) (r : Bool) (h : (b < a) = (r = true)) : (binOp .gtr ty (.int .i64 a) (.int .i64 b)).run P w = .ok (.bool r) w := by
  show (Op.intCmp .gtr a b).run P w = _
  simp only [Op.intCmp, Sem.run_pure]; congr 2; cases r <;> simp at h ⊢ <;> omega
theorem geq_run (P : Program) (w : World) (ty : TypeId) (a b : Int) (r : Bool) (h : (b ≤ a) = (r = true)) : (binOp .geq ty (.int .u64 a) (.int .u64 b)).run P w = .ok (.bool r) w := by
  show (Op.intCmp .geq a b).run P w = _
  simp only [Op.intCmp, Sem.run_pure]; congr 2; cases r <;> simp at h ⊢ <;> omega
theorem eql_run (w : World) (a b : Int) (r : Bool) (h : (a = b) = (r = true)) : (binOp .eql 5 (.int .u8 a) (.int .u8 b)).run Try.prog w = .ok (.bool r) w := by
  have : (Op.equal 5 (.int .u8 a) (.int .u8 b)).run Try.prog w = .ok (a == b) w := by
    exact run_equalIn_int w _ 5 .u8 .u8 a b bundByte
  show (do pure (Value.bool (← Op.equal 5 (.int .u8 a) (.int .u8 b))) : Sem Value).run Try.prog w = _
  simp only [Sem.run_bind, this, Result.andThen_ok, Sem.run_pure]
  congr 2
  cases r <;> simp at h ⊢ <;> exact h
theorem quo_run (P : Program) (w : World) (a : Nat) (h : a < 2 ^ 63) : (binOp .quo 3 (.int .i64 (a : Int)) (.int .i64 256)).run P w = .ok (.int .i64 ((a / 256 : Nat) : Int)) w := by
  have hl : a / 256 ≤ a := Nat.div_le_self _ _
  have e : ((a : Int).tdiv 256) = ((a / 256 : Nat) : Int) := by
    rw [Int.tdiv_eq_ediv_of_nonneg (by omega)]; rfl
  show (Op.intDiv .quo .i64 (a : Int) 256).run P w = _
  unfold Op.intDiv
  simp only [e]
  rw [show IntKind.i64.wrap ((a / 256 : Nat) : Int) = ((a / 256 : Nat) : Int) by rw [IntKind.wrap_i64]; omega]
  simp
theorem conv_run (w : World) (s d : TypeId) (ks kd : IntKind) (n : Int) (hs : Try.prog.underlying s = some (.int ks)) (hd : Try.prog.underlying d = some (.int kd)) : (convert s d (.int ks n)).run Try.prog w = .ok (.int kd (kd.wrap n)) w := by
  unfold convert
  simp only [Sem.run_bind, run_under hs, run_under hd, Result.andThen_ok]
  simp [Conv.intToInt]
theorem bund22 : Try.prog.underlying 22 = some (.int .u64) := by kernel_rfl
theorem bund3 : Try.prog.underlying 3 = some (.int .i64) := by kernel_rfl
theorem bund4 : Try.prog.underlying 4 = some .bool := by kernel_rfl
theorem div_pow (X j : Nat) : X / 256 ^ j / 256 = X / 256 ^ (j + 1) := by rw [Nat.div_div_eq_div_mul, Nat.pow_succ]
theorem one_bin {E : Env} {op : BinOp} {ty : TypeId} {x y r : AC} {k : IntKind} {a b : Int} {v : Value} (hx : ∀ bl, x.den E bl = .int k a) (hy : ∀ bl, y.den E bl = .int k b) (hr : ∀ bl, r.den E bl = v) (hw : r.wf 0 = true)
    (h : ∀ (w : World), (binOp op ty (.int k a) (.int k b)).run Try.prog w = .ok v w) : r.wf 0 = true ∧ ∀ (bl : Bl) (w : World) (u v : Operand),
      (do eqGuard op ty u v (x.den E bl) (y.den E bl); binOp op ty (x.den E bl) (y.den E bl) : Sem Value).run Try.prog w = .ok (r.den E bl) w :=
  ⟨hw, fun bl w u v' => by rw [hx, hy, hr]; simp only [Sem.run_bind, run_eqGuard_int, Result.andThen_ok, h]⟩
theorem cmL_ok {X k : Nat} (hk : k ≤ 8) (h1 : X < 256 ^ k) (h2 : k = 0 ∨ 256 ^ (k - 1) ≤ X) (h62 : X < 2 ^ 62) : CmOk Try.prog (lnEnv X) (cmL k) := by
  intro p hp
  simp only [cmL, List.mem_cons, List.mem_flatMap, List.mem_range, List.not_mem_nil, or_false] at hp
  rcases hp with rfl | rfl | rfl | ⟨j, hj, rfl | rfl⟩
  · exact cm_int (xOf_den h1 (by omega)) (fun _ => rfl) fun w => geq_run _ _ _ _ _ _ (by simp; omega)
  · cases k with
    | zero => exact cm_int (k := .u8) (fun bl => rfl) (fun _ => rfl) fun w => eql_run _ _ _ _ (by simp [T.den])
    | succ k =>
      refine cm_int (k := .u8) (fun bl => rfl) (fun _ => rfl) fun w => eql_run _ _ _ _ ?_
      simp only [by7_den]
      have hne : X / 256 ^ (7 - (7 - k)) % 256 ≠ 0 := by
        have h2 : 256 ^ k ≤ X := by
          rcases h2 with h2 | h2
          · cases h2
          · simpa using h2
        rw [show 7 - (7 - k) = k by omega]
        have a1 : 1 ≤ X / 256 ^ k := (Nat.le_div_iff_mul_le (Nat.pow_pos (by decide))).2 (by simpa using h2)
        have a2 : X / 256 ^ k < 256 := (Nat.div_lt_iff_lt_mul (Nat.pow_pos (by decide))).2 (by rw [← Nat.pow_succ']; exact h1)
        rw [Nat.mod_eq_of_lt a2]; omega
      generalize X / 256 ^ (7 - (7 - k)) % 256 = q at hne
      simp; omega
  · exact cm_int (k := .u8) (fun bl => rfl) (fun _ => rfl) fun w => eql_run _ _ _ _ (by simp [T.den])
  · refine cm_int (fun bl => vl_at X j) (fun _ => rfl) fun w => gtr_run _ _ _ _ _ _ ?_
    have : 0 < X / 256 ^ j ↔ j < k := by
      constructor
      · intro h
        rcases Nat.lt_or_ge j k with h' | h'
        · exact h'
        · rw [Nat.div_eq_of_lt (Nat.lt_of_lt_of_le h1 (Nat.pow_le_pow_right (by decide) h'))] at h; omega
      · intro h
        refine Nat.div_pos ?_ (Nat.pow_pos (by decide))
        rcases h2 with h2 | h2
        · omega
        · exact Nat.le_trans (Nat.pow_le_pow_right (by decide) (by omega)) h2
    generalize X / 256 ^ j = q at this
    simp only [Nat.blt_eq, eq_iff_iff]
    rw [← this]; omega
  · refine one_bin (v := .int .i64 ((X / 256 ^ j / 256 : Nat) : Int)) (fun bl => vl_at X j) (fun _ => rfl) (fun bl => ?_) rfl fun w => quo_run _ _ _ (by have := Nat.div_le_self X (256 ^ j); omega)
    rw [div_pow, show 21 + j = 20 + (j + 1) by omega]
    exact vl_at X (j + 1)
theorem cvL_ok {X k : Nat} (h1 : X < 256 ^ k) (h62 : X < 2 ^ 62) : CvOk Try.prog (lnEnv X) (cvL k) := by
  intro p hp
  simp only [cvL, List.mem_cons, List.mem_map, List.mem_range] at hp
  rcases hp with rfl | ⟨j, hj, rfl⟩
  · refine ⟨rfl, fun bl w => ?_⟩
    simp only [xOf_den h1 (by omega) bl]
    rw [conv_run w 22 3 .u64 .i64 _ bund22 bund3, show IntKind.i64.wrap (X : Int) = X by rw [IntKind.wrap_i64]; omega]
    have := vl_at X 0
    simp at this
    simp only [AC.den, this]
  · refine ⟨rfl, fun bl w => ?_⟩
    simp only [AC.den, vl_at X j]
    rw [conv_run w 3 5 .i64 .u8 _ bund3 bundByte, by7_den]
    congr 2
    rw [IntKind.wrap_u8, show 7 - (7 - j) = j by omega]
    omega
theorem size_of (X : Nat) (h : X < 2 ^ 62) : ∃ k, k ≤ 8 ∧ X < 256 ^ k ∧ (k = 0 ∨ 256 ^ (k - 1) ≤ X) := by
  have key : ∀ k, X < 256 ^ k → ∃ j, j ≤ k ∧ X < 256 ^ j ∧ (j = 0 ∨ 256 ^ (j - 1) ≤ X) := by
    intro k
    induction k with
    | zero => intro h; exact ⟨0, Nat.le_refl _, h, .inl rfl⟩
    | succ k ih =>
      intro h
      rcases Nat.lt_or_ge X (256 ^ k) with h' | h'
      · obtain ⟨j, h1, h2⟩ := ih h'
        exact ⟨j, by omega, h2⟩
      · exact ⟨k + 1, Nat.le_refl _, h, .inr (by simpa using h')⟩
  exact key 8 (Nat.lt_trans h (by decide))
theorem mixL : Try.prog.follows .mixedOrders = true := by kernel_rfl
theorem entsL : ∀ f ∈ [5, 6, 7, 8], Enters Try.prog f := fun f hf => by
  simp only [List.mem_cons, List.not_mem_nil, or_false] at hf
  rcases hf with rfl | rfl | rfl | rfl <;> exact fun _ _ => by kernel_rfl
theorem length_calls (X : Nat) (W : World) : Calls Try.prog 3 #[.int .u64 (X : Int)] W fun e w' => e = .returned (.bool true) ∧ Below W.heap.size W w' := by
  by_cases hX : X < 2 ^ 62
  · obtain ⟨k, hk, h1, h2⟩ := size_of X hX
    have hG : CfgOk Try.prog (lnEnv X) W (GL k) := ⟨lnEnv_ok X, (fun p hp => by cases hp), (fun p hp => by cases hp), cmL_ok hk h1 h2 hX, (fun p hp => by cases hp), (fun p hp => by cases hp), cvL_ok h1 hX⟩
    refine law_run hG (callN_sound hG (sameK_ok (lnEnv_ok X)) mixL entsL 4) mixL rfl (run_l k hk) rfl ?_
    simp only [List.map, A1.den, xOf_den h1 (show X < 2 ^ 64 by omega)]
  · have hG : CfgOk Try.prog (lnEnv X) W GH := ⟨lnEnv_ok X, (fun p hp => by cases hp), (fun p hp => by cases hp), (fun p hp => by
      rw [show GH.cm = [(.geq, 22, .o 0, .v (.int .u64 4611686018427387904), .v (.bool true))] from rfl, List.mem_singleton] at hp
      subst hp
      exact cm_int (fun bl => (rfl : _ = Value.int .u64 (X : Int))) (fun _ => rfl) fun w => geq_run _ _ _ _ _ _ (by simp; omega)), (fun p hp => by cases hp), (fun p hp => by cases hp), (fun p hp => by cases hp)⟩
    exact law_run hG (callN_sound hG (sameK_ok (lnEnv_ok X)) mixL entsL 4) mixL rfl run_h rfl rfl

/-! ### the row -/
theorem own0 : ownKnob Try.prog.godebug = none := by kernel_rfl
set_option maxRecDepth 100000 in
theorem length_lifted (os : Os) (started : os.Started) (H : Type) (enc : TypeId × Value → H) :
    ReturnsInHanded {} Try.checked os 3 .any (Rows.fnLengthIsSpec.pre6 enc Try.prog Try.f3 Rows.fnLengthIsRow.domain false) (Rows.fnLengthIsSpec.post enc Try.prog Try.f3 Rows.fnLengthIsRow.apart Rows.fnLengthIsRow.fresh Rows.fnLengthIsRow.handsOn Rows.fnLengthIsRow.again) := by
  refine returnsInHanded_of_change (C := Try.checked) own0 started (by kernel_rfl) Try.func3
    (ChangeSpec.witness6 (enc := enc) (C := Try.checked) false ⟨#[], #[.int .u64 0], []⟩ 8 (by kernel_rfl) (by kernel_rfl) (by kernel_rfl) (by kernel_rfl)) ?_
  intro W base args ds gs before hval0 hW _ _
  have hval : ∀ (j : Nat) t v, Try.f3.params[j]? = some t → args[j]? = some v → Value.okWide Try.prog W .any base t v := hval0
  have hW' := hW
  obtain ⟨p, q, hA0, hV, rfl, _, _⟩ := hW
  have hA : DataW.TrodAll enc Try.prog W 0 (fun _ => true) true Try.f3.params.toList args.toList ds p := hA0
  rw [Try.params3] at hA hval
  obtain ⟨v0, d0, rfl, rfl, h0⟩ := trodAll_one hA
  obtain ⟨rfl, rfl⟩ := trodVars_none hV
  obtain ⟨n, rfl⟩ := okWide_int bund22 (hval 0 22 v0 rfl rfl)
  obtain ⟨fu, h1⟩ := h0
  obtain ⟨n', e1, he1, w1⟩ := DataW.trod_int bund22 h1
  simp [Value.cells] at e1
  subst e1
  simp only [Prod.mk.injEq] at he1
  obtain ⟨rfl, rfl⟩ := he1
  clear hA0 hval0
  obtain ⟨X, rfl⟩ : ∃ X : Nat, n = (X : Int) := ⟨n.toNat, by simp [Lit.wf, IntKind.min, IntKind.max, IntKind.signed, IntKind.bits] at w1; omega⟩
  refine (length_calls X W).mono fun e W' ⟨he, hb⟩ => ?_
  subst he
  refine ⟨_, rfl, post_below (pa := []) (pv := []) hW' (fun _ _ _ => trodAll_mk1 (shut_bool bund4 _)) (fun sp _ => ?_) (fun _ _ => rfl) rfl hb (ok_one (by kernel_rfl) rfl (okWide_bool_mk bund4 _))⟩
  rw [show Try.f3.params.toList = [22] by rw [Try.params3]]
  exact trodAll_mk1 (shut_int bund22 w1)
theorem length_holds : Rows.FnLengthIsSaid :=
  OpenClaim.holds_of_wide 3 Try.f3 rfl rfl rfl rfl rfl rfl rfl ⟨rfl, rfl, rfl, rfl, rfl⟩ rfl rfl rfl rfl rfl (by kernel_rfl) Try.func3 (by kernel_rfl)
    (of_decide_eq_true (by kernel_rfl)) (by unfold Func.isWrapper; first | (rw [if_pos (by decide +kernel)]; kernel_rfl) | (rw [if_neg (by decide +kernel)]; exact ⟨rfl, rfl⟩))
    (fun os started H enc _ => length_lifted os started H enc)
end Go.Proofs.Ytddkhbchdibedaa
