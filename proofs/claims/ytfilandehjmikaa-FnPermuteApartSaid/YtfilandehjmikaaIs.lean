/- The law FnPermuteIs over the seat's row: the code's permutation is the specification's. -/
import Derived.Test.YtfilandehjmikaaSxL
import Derived.Test.YtfilandehjmikaaAscK
import Derived.Test.YtfilandehjmikaaRows
namespace Go.Proofs.Ytfilandehjmikaa
open Go.ChangeShapes Go.WideShapes Go.ChangeAt Go.RowKit Go.Proofs.Ytfilandehjmikaa.Sx Go.Proofs.Ytfilandehjmikaa.Asc

theorem ent5 : Enters Try.prog 5 := fun _ _ => by kernel_rfl
theorem ent7 : Enters Try.prog 7 := fun _ _ => by kernel_rfl
theorem ents57 : ∀ f ∈ [5, 7], Enters Try.prog f := fun f hf => by
  simp only [List.mem_cons, List.not_mem_nil, or_false] at hf
  rcases hf with rfl | rfl
  · exact ent5
  · exact ent7
/-- Two inputs as symbols 0 to 4, 5 to 9. -/
noncomputable def inEnv (x y : St) (n : Int) : Env := ⟨fun k => if k < 5 then x.get k else y.get (k - 5), fun n i a b c d e => (perm n ⟨a, b, c, d, e⟩).get i, fun _ => 0, fun _ => .int .i64 n⟩
theorem inEnv_ok (x y : St) (n : Int) : EnvOk (inEnv x y n) := ⟨fun _ => rfl, fun _ => by show 0 ≤ _; omega⟩
theorem inEnv_ap (x y : St) (n : Int) : ApOk (inEnv x y n) := fun _ _ _ _ _ _ _ => rfl
theorem inEnv_x (x y : St) (n : Int) (bl : Bl) : (c5 0).map (AC.den (inEnv x y n) bl) = x.vals := rfl
theorem inEnv_y (x y : St) (n : Int) (bl : Bl) : (c5 5).map (AC.den (inEnv x y n) bl) = y.vals := rfl
def lowC : Cfg := { cm := [(.lss, .o 0, .v (.int .i64 0), true)] }
def highC : Cfg := { cm := [(.lss, .o 0, .v (.int .i64 0), false), (.gtr, .o 0, .v (.int .i64 12), true)] }
theorem lowC_ok (x y : St) (n : Int) (h : n < 0) : CfgOk (inEnv x y n) lowC := ⟨inEnv_ok x y n, (fun _ hp => nomatch hp), (fun _ hp => nomatch hp), fun p hp bl => by
  simp only [lowC, List.mem_cons, List.not_mem_nil, or_false] at hp
  subst hp
  exact ⟨.i64, n, 0, rfl, rfl, fun P w ty => by
    show (Op.intCmp .lss n 0).run P w = _
    simp only [Op.intCmp, Sem.run_pure]; congr 2; simp; omega⟩⟩
theorem highC_ok (x y : St) (n : Int) (h : 12 < n) : CfgOk (inEnv x y n) highC := ⟨inEnv_ok x y n, (fun _ hp => nomatch hp), (fun _ hp => nomatch hp), fun p hp bl => by
  simp only [highC, List.mem_cons, List.not_mem_nil, or_false] at hp
  rcases hp with rfl | rfl
  · exact ⟨.i64, n, 0, rfl, rfl, fun P w ty => by
      show (Op.intCmp .lss n 0).run P w = _
      simp only [Op.intCmp, Sem.run_pure]; congr 2; simp; omega⟩
  · exact ⟨.i64, n, 12, rfl, rfl, fun P w ty => by
      show (Op.intCmp .gtr n 12).run P w = _
      simp only [Op.intCmp, Sem.run_pure]; congr 2; simp; omega⟩⟩
theorem vals_of {xs : List Int} (hl : xs.length = 5) (hw : ∀ x ∈ xs, (Lit.int .u64 x).wf = true) : ∃ s : St, xs.map (Value.int .u64) = s.vals := by
  match xs, hl, hw with
  | [a, b, c, d, e], _, hw =>
    refine ⟨⟨BitVec.ofNat 64 a.toNat, BitVec.ofNat 64 b.toNat, BitVec.ofNat 64 c.toNat, BitVec.ofNat 64 d.toNat, BitVec.ofNat 64 e.toNat⟩, ?_⟩
    have one : ∀ x ∈ [a, b, c, d, e], Value.int .u64 x = .int .u64 ((BitVec.ofNat 64 x.toNat).toNat : Int) := fun x hx => by
      have := hw x hx
      simp [Lit.wf, IntKind.min, IntKind.max, IntKind.signed, IntKind.bits] at this
      rw [BitVec.toNat_ofNat, Nat.mod_eq_of_lt (by omega)]
      congr 1; omega
    simp only [List.map, St.vals]
    rw [← one a (by simp), ← one b (by simp), ← one c (by simp), ← one d (by simp), ← one e (by simp)]

/-! ### the law's call -/
noncomputable def isRun (G : Cfg) (x : AC) : Option (AV × List MB) := runF Try.prog G (callN Try.prog G permK [5, 7] 100 3) 100 4 [.a (c5 0), .c x] []
theorem is_low : endsTrue (isRun lowC (.o 0)) = true := by kernel_rfl
theorem is_high : endsTrue (isRun highC (.o 0)) = true := by kernel_rfl
theorem is_in : ∀ n : Nat, n ≤ 12 → endsTrue (isRun {} (.v (.int .i64 (Int.ofNat n)))) = true
  | 0, _ => by kernel_rfl
  | 1, _ => by kernel_rfl
  | 2, _ => by kernel_rfl
  | 3, _ => by kernel_rfl
  | 4, _ => by kernel_rfl
  | 5, _ => by kernel_rfl
  | 6, _ => by kernel_rfl
  | 7, _ => by kernel_rfl
  | 8, _ => by kernel_rfl
  | 9, _ => by kernel_rfl
  | 10, _ => by kernel_rfl
  | 11, _ => by kernel_rfl
  | 12, _ => by kernel_rfl
  | n + 13, h => absurd h (by omega)
theorem is_calls (x : St) (n : Int) (W : World) : Calls Try.prog 4 #[.agg x.vals.toArray, .int .i64 n] W fun e w' => e = .returned (.bool true) ∧ Below W.heap.size W w' := by
  have go : ∀ (G : Cfg) (y : AC), CfgOk (inEnv x x n) G → G.g = [] → y.den (inEnv x x n) (fun _ => (0, 0)) = .int .i64 n → y.wf 0 = true → endsTrue (isRun G y) = true →
      Calls Try.prog 4 #[.agg x.vals.toArray, .int .i64 n] W fun e w' => e = .returned (.bool true) ∧ Below W.heap.size W w' := fun G y hG hg hy hwf h => by
    refine law_run (E := inEnv x x n) hG (callN_sound hG (permK_ok (inEnv_ap x x n)) mix ents57 3) mix hg h (by simp only [List.all_cons, List.all_nil, A1.wf, hwf, Bool.and_true]; rfl) ?_
    simp only [List.map, A1.den, hy, inEnv_x]
  by_cases h1 : n < 0
  · exact go lowC (.o 0) (lowC_ok x x n h1) rfl rfl rfl is_low
  · by_cases h2 : 12 < n
    · exact go highC (.o 0) (highC_ok x x n h2) rfl rfl rfl is_high
    · obtain ⟨m, rfl⟩ : ∃ m : Nat, n = Int.ofNat m := ⟨n.toNat, by simp; omega⟩
      exact go {} (.v (.int .i64 (Int.ofNat m))) (cfgOk0 (inEnv_ok _ _ _) fun _ hp => nomatch hp) rfl rfl rfl (is_in m (by simp at h2; omega))

/-! ### the row -/
theorem own0 : ownKnob Try.prog.godebug = none := by kernel_rfl
theorem cells22 : Try.prog.cellsOf 22 = 1 := by kernel_rfl
theorem cells23 : Try.prog.cellsOf 23 = 5 := by kernel_rfl
theorem under23 : Try.prog.underlying 23 = some (.array 5 22) := by kernel_rfl
theorem under22 : Try.prog.underlying 22 = some (.int .u64) := by kernel_rfl
theorem under3 : Try.prog.underlying 3 = some (.int .i64) := by kernel_rfl
theorem under4 : Try.prog.underlying 4 = some .bool := by kernel_rfl

set_option maxRecDepth 100000 in
theorem is_lifted (os : Os) (started : os.Started) (H : Type) (enc : TypeId × Value → H) :
    ReturnsInHanded {} Try.checked os 4 .any (Rows.fnPermuteIsSpec.pre6 enc Try.prog Try.f4 Rows.fnPermuteIsRow.domain false) (Rows.fnPermuteIsSpec.post enc Try.prog Try.f4 Rows.fnPermuteIsRow.apart Rows.fnPermuteIsRow.fresh Rows.fnPermuteIsRow.handsOn Rows.fnPermuteIsRow.again) := by
  refine returnsInHanded_of_change (C := Try.checked) own0 started (by kernel_rfl) Try.func4
    (ChangeSpec.witness6 (enc := enc) (C := Try.checked) false ⟨#[], #[.agg #[.int .u64 0, .int .u64 0, .int .u64 0, .int .u64 0, .int .u64 0], .int .i64 0], []⟩ 8 (by kernel_rfl) (by kernel_rfl) (by kernel_rfl) (by kernel_rfl)) ?_
  intro W base args ds gs before hval0 hW _ _
  have hval : ∀ (j : Nat) t v, Try.f4.params[j]? = some t → args[j]? = some v → Value.okWide Try.prog W .any base t v := hval0
  have hW' := hW
  obtain ⟨p, q, hA0, hV, rfl, _, _⟩ := hW
  have hA : DataW.TrodAll enc Try.prog W 0 (fun _ => true) true Try.f4.params.toList args.toList ds p := hA0
  rw [Try.params4] at hA hval
  obtain ⟨v0, v1, d0, d1, p0, p1, rfl, rfl, rfl, h0, h1⟩ := trodAll_two hA
  obtain ⟨rfl, rfl⟩ := trodVars_none hV
  obtain ⟨xs, hl, rfl, rfl, rfl, hwf⟩ := open_ints under23 under22 cells22 cells23 (hval 0 23 v0 rfl rfl) h0
  obtain ⟨x, hx⟩ := vals_of hl hwf
  obtain ⟨n, rfl⟩ := okWide_int under3 (hval 1 3 v1 rfl rfl)
  obtain ⟨fu, h1⟩ := h1
  obtain ⟨n', e1, he1, w1⟩ := DataW.trod_int under3 h1
  simp [Value.cells] at e1
  subst e1
  simp only [Prod.mk.injEq] at he1
  obtain ⟨rfl, rfl⟩ := he1
  clear hA0 hval0
  simp only [List.append_nil] at hW'
  rw [hx] at hW' hval hA h0 ⊢
  refine (is_calls x n W).mono fun e W' ⟨he, hb⟩ => ?_
  subst he
  refine ⟨_, rfl, post_below (pa := []) (pv := []) hW' (fun _ _ _ => trodAll_mk1 (shut_bool under4 _)) (fun sp _ => ?_) (fun _ _ => rfl) rfl hb (ok_one (by kernel_rfl) rfl (okWide_bool_mk under4 _))⟩
  rw [show Try.f4.params.toList = [23, 3] by rw [Try.params4]]
  refine trodAll_cons_mk (p := []) (p' := []) ?_ (trodAll_mk1 (shut_int under3 w1))
  have := shut_ints (enc := enc) (w := W') (b0 := 0) (sp := sp) (held := true) under23 under22 cells22 cells23 hl hwf
  rwa [hx] at this
theorem holds_is : Rows.FnPermuteIsSaid :=
  OpenClaim.holds_of_wide 4 Try.f4 rfl rfl rfl rfl rfl rfl rfl ⟨rfl, rfl, rfl, rfl, rfl⟩ rfl rfl rfl rfl rfl (by kernel_rfl) Try.func4 (by kernel_rfl)
    (of_decide_eq_true (by kernel_rfl)) (by unfold Func.isWrapper; first | (rw [if_pos (by decide +kernel)]; kernel_rfl) | (rw [if_neg (by decide +kernel)]; exact ⟨rfl, rfl⟩))
    (fun os started H enc _ => is_lifted os started H enc)
end Go.Proofs.Ytfilandehjmikaa
