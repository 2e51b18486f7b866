/- The law FnSizes over the seat's card: how long nonces and tags are, and that a key of another length is none. -/
import Derived.Test.YtfilandehjmikaaDoorSxB
import Derived.Test.YtfilandehjmikaaDoorSnt
import Derived.Test.YtfilandehjmikaaDoorTie
import Derived.Test.YtfilandehjmikaaDoorCards
import Derived.KernelRfl
namespace Go.Proofs.YtfilandehjmikaaDoor
open Go.WideShapes Go.RowKit Go.Proofs.YtfilandehjmikaaDoor.Sx

/-- The key's bytes as words, the key's row, the opaque values: 0 the key, 1 its length, 2 the mode, 10 and 11 the two errors. -/
noncomputable def szEnv (bs : List Int) (row : List Value) (key e1 e2 : Value) (len mode : Int) : Env :=
  ⟨fun i => BitVec.ofNat 64 (bs.getD i 0).toNat, fun _ _ _ _ _ _ _ => 0, fun i => if i = 0 then row.length else 0,
    fun i => match i with
      | 0 => key
      | 1 => .int .i64 len
      | 2 => .int .i64 mode
      | 10 => e1
      | 11 => e2
      | _ => .bool true,
    fun i => if i = 0 then row else []⟩
theorem szEnv_ok {bs : List Int} {row : List Value} {key e1 e2 : Value} {len mode : Int} (h0 : key.oneCell' = true) (h1 : e1.oneCell' = true) (h2 : e2.oneCell' = true) (hl : row.length ≤ 1099511627776) (hr : ∀ v ∈ row, v.oneCell' = true) :
    EnvOk (szEnv bs row key e1 e2 len mode) := by
  refine ⟨fun i => ?_, fun i => ?_, fun i => ?_, fun i v hv => ?_⟩
  · simp only [szEnv]
    split <;> first | exact h0 | exact h1 | exact h2 | rfl
  · intro _; simp only [szEnv]; split <;> omega
  · simp only [szEnv]; split <;> rfl
  · simp only [szEnv] at hv
    split at hv
    · exact hr v hv
    · cases hv
def byN (n : Nat) : List AC := (List.range n).map fun i => .w .u8 (.byte 7 (.s i))
theorem byte_den {E : Env} {bl : Bl} {i : Nat} {b : Int} (hw : E.wd i = BitVec.ofNat 64 b.toNat) (hb : (Lit.int .u8 b).wf = true) : (AC.w .u8 (.byte 7 (.s i))).den E bl = .int .u8 b := by
  simp [Lit.wf, IntKind.min, IntKind.max, IntKind.signed, IntKind.bits] at hb
  simp only [AC.den, T.den, hw]
  congr 1
  have h1 : b.toNat < 256 := by omega
  have h2 : Sx.byteOf 7 (BitVec.ofNat 64 b.toNat) = BitVec.ofNat 64 b.toNat := by
    unfold Sx.byteOf
    apply BitVec.eq_of_toNat_eq
    simp only [Nat.sub_self, Nat.mul_zero, BitVec.ushiftRight_zero, BitVec.toNat_and, BitVec.toNat_ofNat]
    rw [Nat.mod_eq_of_lt (by omega : b.toNat < 2 ^ 64), show 255 % 2 ^ 64 = 2 ^ 8 - 1 by decide, Nat.and_two_pow_sub_one_eq_mod, Nat.mod_eq_of_lt h1]
  rw [h2, BitVec.toNat_ofNat, Nat.mod_eq_of_lt (by omega)]
  omega
theorem so_bytes {E : Env} {W : World} {n cap : Nat} {a : Addr} {bs : List Int} (hk : E.vl 0 = .slice (some a) n cap) (hle : n ≤ cap) (hcell : ∀ i, i < n → W.cell? (a.add i) = some (.int .u8 (bs.getD i 0)))
    (hw : ∀ i, i < n → E.wd i = BitVec.ofNat 64 (bs.getD i 0).toNat) (hb : ∀ i, i < n → (Lit.int .u8 (bs.getD i 0)).wf = true) : SoOk E W [(0, 0, byN n)] := by
  intro p hp
  rw [List.mem_singleton] at hp
  subst hp
  refine ⟨List.all_eq_true.2 fun x hx => ?_, .inr ⟨a, cap, ?_, by simpa [rowOf, byN] using hle, fun j v hv => ?_⟩⟩
  · obtain ⟨i, _, rfl⟩ := List.mem_map.1 hx; rfl
  · rw [hk]; simp [rowOf, byN]
  · simp only [rowOf, List.nil_append, byN, List.map_map, List.getElem?_map] at hv
    cases hr : (List.range n)[j]? with
    | none => rw [hr] at hv; cases hv
    | some q =>
      rw [hr] at hv
      have hj : j < n := by simpa using (List.getElem?_eq_some_iff.1 hr).1
      have hq : q = j := by simpa [List.getElem?_range hj] using hr.symm
      subst hq
      cases hv
      rw [hcell q hj]
      exact congrArg some (byte_den (hw q hj) (hb q hj)).symm

/-! ### the runs -/
def g2 : List (Nat × Nat) := [(2, 0), (3, 1)]
def m2 : List MB := [⟨[.o 10], false, true, false, 0, false⟩, ⟨[.o 11], false, true, false, 0, false⟩]
def errC : Cms := [(.eql, 55, .o 10, .v .nilIface, .v (.bool false)), (.eql, 55, .o 11, .v .nilIface, .v (.bool false))]
def nilC : Cms := [(.eql, 22, .o 0, .v (.slice none 0 0), .v (.bool false))]
def lenC (k : Int) : Cms := [(.gtr, 3, .n ⟨1, 0⟩, .v (.int .i64 2147483647), .v (.bool false)), (.gtr, 3, .n ⟨1, 0⟩, .v (.int .i64 4096), .v (.bool false)), (.neq, 3, .n ⟨1, 0⟩, .v (.int .i64 k), .v (.bool true))]
def rightG (k : Nat) : Cfg := { g := g2, so := [(0, 0, byN k)], cm := errC }
def wrongG (k : Int) : Cfg := { g := g2, so := [(0, 1, [])], cm := errC ++ nilC ++ lenC k }
def nilG : Cfg := { g := g2, cm := errC }
def longG : Cfg := { ln := [(0, 1)], cm := [(.gtr, 3, .o 1, .v (.int .i64 2147483647), .v (.bool true))] }
def lowG : Cfg := { ln := [(0, 1)], cm := [(.gtr, 3, .o 1, .v (.int .i64 2147483647), .v (.bool false)), (.lss, 3, .o 2, .v (.int .i64 0), .v (.bool true))] }
def highG : Cfg := { ln := [(0, 1)], cm := [(.gtr, 3, .o 1, .v (.int .i64 2147483647), .v (.bool false)), (.lss, 3, .o 2, .v (.int .i64 0), .v (.bool false)), (.gtr, 3, .o 2, .v (.int .i64 2), .v (.bool true))] }
def bigG : Cfg := { ln := [(0, 1)], cm := [(.gtr, 3, .o 1, .v (.int .i64 2147483647), .v (.bool false)), (.lss, 3, .o 2, .v (.int .i64 0), .v (.bool false)), (.gtr, 3, .o 2, .v (.int .i64 2), .v (.bool false)), (.gtr, 3, .o 1, .v (.int .i64 4096), .v (.bool true))] }
noncomputable def szRun (G : Cfg) (mode key : AC) (m : List MB) : Option (AV × List MB) := runF Tryd.prog G (callN Tryd.prog G noK [11, 12, 20, 21, 22, 24, 30, 42, 43, 46] 100 5) 100 3 [.c mode, .c key] m
theorem r_long : endsTrue (szRun longG (.o 2) (.o 0) []) = true := by kernel_rfl
theorem r_low : endsTrue (szRun lowG (.o 2) (.o 0) []) = true := by kernel_rfl
theorem r_high : endsTrue (szRun highG (.o 2) (.o 0) []) = true := by kernel_rfl
theorem r_big : endsTrue (szRun bigG (.o 2) (.o 0) []) = true := by kernel_rfl
theorem r_right0 : endsTrue (szRun (rightG 16) (.v (.int .i64 0)) (.o 0) m2) = true := by kernel_rfl
theorem r_wrong0 : endsTrue (szRun (wrongG 16) (.v (.int .i64 0)) (.o 0) m2) = true := by kernel_rfl
theorem r_nil0 : endsTrue (szRun nilG (.v (.int .i64 0)) (.v (.slice none 0 0)) m2) = true := by kernel_rfl
theorem r_right1 : endsTrue (szRun (rightG 16) (.v (.int .i64 1)) (.o 0) m2) = true := by kernel_rfl
theorem r_wrong1 : endsTrue (szRun (wrongG 16) (.v (.int .i64 1)) (.o 0) m2) = true := by kernel_rfl
theorem r_nil1 : endsTrue (szRun nilG (.v (.int .i64 1)) (.v (.slice none 0 0)) m2) = true := by kernel_rfl
theorem r_right2 : endsTrue (szRun (rightG 20) (.v (.int .i64 2)) (.o 0) m2) = true := by kernel_rfl
theorem r_wrong2 : endsTrue (szRun (wrongG 20) (.v (.int .i64 2)) (.o 0) m2) = true := by kernel_rfl
theorem r_nil2 : endsTrue (szRun nilG (.v (.int .i64 2)) (.v (.slice none 0 0)) m2) = true := by kernel_rfl

/-! ### what the configurations promise -/
theorem ifaceC {E : Env} {k : Nat} {v : Value} (h : E.vl k = .iface 91 v) : (AC.v (.bool false)).wf 0 = true ∧ ∀ (bl : Bl) (w : World) (a b : Operand),
    (do eqGuard .eql 55 a b ((AC.o k).den E bl) ((AC.v .nilIface).den E bl); binOp .eql 55 ((AC.o k).den E bl) ((AC.v .nilIface).den E bl) : Sem Value).run Tryd.prog w = .ok ((AC.v (.bool false)).den E bl) w := by
  refine ⟨rfl, fun bl w a b => ?_⟩
  simp only [AC.den, h]
  unfold eqGuard binOp
  simp only [Sem.run_bind, run_equal_iface Tryd.underlying55, Result.andThen_ok, Sem.run_pure]
  simp [Result.andThen_ok]
theorem errC_ok {E : Env} {v1 v2 : Value} (h1 : E.vl 10 = .iface 91 v1) (h2 : E.vl 11 = .iface 91 v2) : CmOk Tryd.prog E errC := by
  intro p hp
  simp only [errC, List.mem_cons, List.not_mem_nil, or_false] at hp
  rcases hp with rfl | rfl
  · exact ifaceC h1
  · exact ifaceC h2
theorem gtrC (P : Program) (w : World) (ty : TypeId) (a b : Int) (r : Bool) (h : (b < a) = (r = true)) : (binOp .gtr ty (.int .i64 a) (.int .i64 b)).run P w = .ok (.bool r) w := by
  show (Op.intCmp .gtr a b).run P w = _
  simp only [Op.intCmp, Sem.run_pure]; congr 2; cases r <;> simp at h ⊢ <;> omega
theorem lssC (P : Program) (w : World) (ty : TypeId) (a b : Int) (r : Bool) (h : (a < b) = (r = true)) : (binOp .lss ty (.int .i64 a) (.int .i64 b)).run P w = .ok (.bool r) w := by
  show (Op.intCmp .lss a b).run P w = _
  simp only [Op.intCmp, Sem.run_pure]; congr 2; cases r <;> simp at h ⊢ <;> omega
theorem neqC (P : Program) (w : World) (ty : TypeId) (a b : Int) (r : Bool) (h : (a ≠ b) = (r = true)) : (binOp .neq ty (.int .i64 a) (.int .i64 b)).run P w = .ok (.bool r) w := by
  show (Op.intCmp .neq a b).run P w = _
  simp only [Op.intCmp, Sem.run_pure]; congr 2; cases r <;> simp at h ⊢ <;> omega
theorem lenC_ok {E : Env} {k : Int} {L : Nat} (hl : E.nm 0 = L) (h1 : L ≤ 4096) (h2 : (L : Int) ≠ k) : CmOk Tryd.prog E (lenC k) := by
  have hn : ∀ bl : Bl, (AC.n ⟨1, 0⟩).den E bl = .int .i64 (L : Int) := fun bl => by simp only [AC.den, AN.val, hl, Nat.add_zero]
  intro p hp
  simp only [lenC, List.mem_cons, List.not_mem_nil, or_false] at hp
  rcases hp with rfl | rfl | rfl
  · exact cm_int hn (fun _ => rfl) fun w => gtrC _ _ _ _ _ _ (by simp; omega)
  · exact cm_int hn (fun _ => rfl) fun w => gtrC _ _ _ _ _ _ (by simp; omega)
  · exact cm_int hn (fun _ => rfl) fun w => neqC _ _ _ _ _ _ (by simp [h2])
theorem cmAppend {P : Program} {E : Env} {a b : Cms} (ha : CmOk P E a) (hb : CmOk P E b) : CmOk P E (a ++ b) := fun p hp => (List.mem_append.1 hp).elim (ha p) (hb p)
def blG : Bl := fun i => if i = 0 then (2, 0) else (3, 0)
theorem m2_rel {E : Env} {W : World} (h2 : W.cell? ⟨2, 0, none⟩ = some (E.vl 10)) (h3 : W.cell? ⟨3, 0, none⟩ = some (E.vl 11)) (hlt : 3 < W.heap.size) : MRel E blG W m2 W := by
  have get : ∀ {i : Nat} {b : MB}, m2[i]? = some b → (i = 0 ∧ b = ⟨[.o 10], false, true, false, 0, false⟩) ∨ (i = 1 ∧ b = ⟨[.o 11], false, true, false, 0, false⟩) := fun {i b} h => by
    match i, h with
    | 0, h => exact .inl ⟨rfl, (Option.some.inj h).symm⟩
    | 1, h => exact .inr ⟨rfl, (Option.some.inj h).symm⟩
    | i + 2, h => exact nomatch h
  refine MRel.ro (fun i b h => ?_) (fun i b h => ?_) (fun i b j x h hx => ?_) (fun i b h x hx => ?_)
  · rcases get h with ⟨rfl, rfl⟩ | ⟨rfl, rfl⟩ <;> exact ⟨rfl, rfl, rfl, rfl⟩
  · rcases get h with ⟨rfl, rfl⟩ | ⟨rfl, rfl⟩
    · show 2 < _; omega
    · show 3 < _; omega
  · rcases get h with ⟨rfl, rfl⟩ | ⟨rfl, rfl⟩
    · cases j with
      | zero => cases hx; exact h2
      | succ j => simp at hx
    · cases j with
      | zero => cases hx; exact h3
      | succ j => simp at hx
  · rcases get h with ⟨rfl, rfl⟩ | ⟨rfl, rfl⟩
    · rw [List.mem_singleton] at hx; subst hx; rfl
    · rw [List.mem_singleton] at hx; subst hx; rfl
theorem mixD : Tryd.prog.follows .mixedOrders = true := by kernel_rfl
theorem entsD : ∀ f ∈ [11, 12, 20, 21, 22, 24, 30, 42, 43, 46], Enters Tryd.prog f := fun f hf => by
  simp only [List.mem_cons, List.not_mem_nil, or_false] at hf
  rcases hf with rfl | rfl | rfl | rfl | rfl | rfl | rfl | rfl | rfl | rfl <;> exact fun _ _ => by kernel_rfl
/-- One case of the call by its run. -/
theorem sz_go {E : Env} {W : World} {G : Cfg} (hG : CfgOk Tryd.prog E W G) {m : List MB} (hm : MRel E blG W m W) (hg : GOk G.g blG m.length) {mode key : AC} (hw : mode.wf 0 = true) (hw' : key.wf 0 = true) (h : endsTrue (szRun G mode key m) = true)
    {mv kv : Value} (e1 : mode.den E blG = mv) (e2 : key.den E blG = kv) : Calls Tryd.prog 3 #[mv, kv] W fun e w' => e = .returned (.bool true) ∧ Below W.heap.size W w' :=
  law_run_ro hG (callN_sound hG noK_ok mixD entsD 5) mixD hm hg h (by simp [A1.wf, hw, hw']) (by simp only [List.map, A1.den, e1, e2])
/-- Where the length decides, or the mode is none. -/
theorem sz_short {W : World} {G : Cfg} {key : Value} {mode : Int} {ao : Option Addr} {len cap : Nat} (hk : key = .slice ao len cap) (hg : G.g = []) (hr : G.r = []) (hne : G.ne = []) (hso : G.so = []) (hln : G.ln = [(0, 1)])
    (hcm : CmOk Tryd.prog (szEnv [] [] key (.bool true) (.bool true) len mode) G.cm) (h : endsTrue (szRun G (.o 2) (.o 0) []) = true) : Calls Tryd.prog 3 #[.int .i64 mode, key] W fun e w' => e = .returned (.bool true) ∧ Below W.heap.size W w' := by
  have hE : EnvOk (szEnv [] [] key (.bool true) (.bool true) len mode) := szEnv_ok (by subst hk; rfl) rfl rfl (by simp) (by simp)
  refine sz_go (E := szEnv [] [] key (.bool true) (.bool true) len mode) ⟨hE, ?_, ?_, hcm, ?_, ?_⟩ (MRel.nil _ _ _) (fun g i hgi => by rw [hg] at hgi; cases hgi) rfl rfl h rfl rfl
  · rw [hr]; exact fun _ hp => nomatch hp
  · rw [hne]; exact fun _ hp => nomatch hp
  · rw [hso]; exact fun _ hp => nomatch hp
  · rw [hln]
    intro p hp
    rw [List.mem_singleton] at hp
    subst hp
    exact ⟨ao, len, cap, hk, rfl⟩
theorem vlC {E : Env} {i : Nat} {n : Int} (h : E.vl i = .int .i64 n) : ∀ bl : Bl, (AC.o i).den E bl = .int .i64 n := fun _ => h
theorem sz_outer {W : World} {key : Value} {mode : Int} {ao : Option Addr} {len cap : Nat} (hk : key = .slice ao len cap) (h : ¬(0 ≤ mode ∧ mode ≤ 2 ∧ len ≤ 4096)) :
    Calls Tryd.prog 3 #[.int .i64 mode, key] W fun e w' => e = .returned (.bool true) ∧ Below W.heap.size W w' := by
  have l1 : ∀ bl : Bl, (AC.o 1).den (szEnv [] [] key (.bool true) (.bool true) len mode) bl = .int .i64 (len : Int) := vlC rfl
  have l2 : ∀ bl : Bl, (AC.o 2).den (szEnv [] [] key (.bool true) (.bool true) len mode) bl = .int .i64 mode := vlC rfl
  by_cases a1 : 2147483647 < len
  · refine sz_short hk rfl rfl rfl rfl rfl (fun p hp => ?_) r_long
    simp only [longG, List.mem_cons, List.not_mem_nil, or_false] at hp
    subst hp
    exact cm_int l1 (fun _ => rfl) fun w => gtrC _ _ _ _ _ _ (by simp; omega)
  by_cases a2 : mode < 0
  · refine sz_short hk rfl rfl rfl rfl rfl (fun p hp => ?_) r_low
    simp only [lowG, List.mem_cons, List.not_mem_nil, or_false] at hp
    rcases hp with rfl | rfl
    · exact cm_int l1 (fun _ => rfl) fun w => gtrC _ _ _ _ _ _ (by simp; omega)
    · exact cm_int l2 (fun _ => rfl) fun w => lssC _ _ _ _ _ _ (by simp; omega)
  by_cases a3 : 2 < mode
  · refine sz_short hk rfl rfl rfl rfl rfl (fun p hp => ?_) r_high
    simp only [highG, List.mem_cons, List.not_mem_nil, or_false] at hp
    rcases hp with rfl | rfl | rfl
    · exact cm_int l1 (fun _ => rfl) fun w => gtrC _ _ _ _ _ _ (by simp; omega)
    · exact cm_int l2 (fun _ => rfl) fun w => lssC _ _ _ _ _ _ (by simp; omega)
    · exact cm_int l2 (fun _ => rfl) fun w => gtrC _ _ _ _ _ _ (by simp; omega)
  · refine sz_short hk rfl rfl rfl rfl rfl (fun p hp => ?_) r_big
    simp only [bigG, List.mem_cons, List.not_mem_nil, or_false] at hp
    rcases hp with rfl | rfl | rfl | rfl
    · exact cm_int l1 (fun _ => rfl) fun w => gtrC _ _ _ _ _ _ (by simp; omega)
    · exact cm_int l2 (fun _ => rfl) fun w => lssC _ _ _ _ _ _ (by simp; omega)
    · exact cm_int l2 (fun _ => rfl) fun w => gtrC _ _ _ _ _ _ (by simp; omega)
    · exact cm_int l1 (fun _ => rfl) fun w => gtrC _ _ _ _ _ _ (by simp; omega)
theorem nilC_ok {E : Env} {a : Addr} {n c : Nat} (h : E.vl 0 = .slice (some a) n c) : CmOk Tryd.prog E nilC := by
  intro p hp
  rw [nilC, List.mem_singleton] at hp
  subst hp
  refine ⟨rfl, fun bl w u v => ?_⟩
  simp only [AC.den, h]
  unfold eqGuard binOp
  simp only [Sem.run_bind, run_equal_nil Tryd.underlying22, Result.andThen_ok, Sem.run_pure]
  simp [Result.andThen_ok]
end Go.Proofs.YtfilandehjmikaaDoor
