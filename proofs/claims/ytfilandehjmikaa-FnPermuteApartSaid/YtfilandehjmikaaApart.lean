/- The law FnPermuteApart over the seat's row: different states stay different under the code's permutation. -/
import Derived.Test.YtfilandehjmikaaIs
namespace Go.Proofs.Ytfilandehjmikaa
open Go.ChangeShapes Go.WideShapes Go.ChangeAt Go.RowKit Go.Proofs.Ytfilandehjmikaa.Sx Go.Proofs.Ytfilandehjmikaa.Asc

def t5 (B : Nat) : List T := [.s B, .s (B + 1), .s (B + 2), .s (B + 3), .s (B + 4)]
def p5 (n B : Nat) : List T := [.ap n 0 (.s B) (.s (B + 1)) (.s (B + 2)) (.s (B + 3)) (.s (B + 4)), .ap n 1 (.s B) (.s (B + 1)) (.s (B + 2)) (.s (B + 3)) (.s (B + 4)), .ap n 2 (.s B) (.s (B + 1)) (.s (B + 2)) (.s (B + 3)) (.s (B + 4)),
  .ap n 3 (.s B) (.s (B + 1)) (.s (B + 2)) (.s (B + 3)) (.s (B + 4)), .ap n 4 (.s B) (.s (B + 1)) (.s (B + 2)) (.s (B + 3)) (.s (B + 4))]
def neC (n : Nat) : Cfg := { ne := [(t5 0, t5 5), (p5 n 0, p5 n 5)] }
theorem neC_ok {x y : St} (h : x ≠ y) (n : Nat) (m : Int) : CfgOk (inEnv x y m) (neC n) := ⟨inEnv_ok x y m, (fun _ hp => nomatch hp), fun p hp => by
  simp only [neC, List.mem_cons, List.not_mem_nil, or_false] at hp
  rcases hp with rfl | rfl
  · exact fun e => h (St.list_inj e)
  · exact fun e => h (perm_inj (n := n) (St.list_inj e)), (fun _ hp => nomatch hp)⟩
noncomputable def apRun (G : Cfg) (B : Nat) (x : AC) : Option (AV × List MB) := runF Try.prog G (callN Try.prog G permK [5, 7] 100 3) 100 3 [.a (c5 0), .a (c5 B), .c x] []
theorem ap_low : endsTrue (apRun lowC 5 (.o 0)) = true := by kernel_rfl
theorem ap_high : endsTrue (apRun highC 5 (.o 0)) = true := by kernel_rfl
theorem ap_same : ∀ n : Nat, n ≤ 12 → endsTrue (apRun {} 0 (.v (.int .i64 (Int.ofNat n)))) = true
  | 0, _ => by kernel_rfl
  | 1, _ => by kernel_rfl
  | 2, _ => by kernel_rfl
  | 3, _ => by kernel_rfl
  | 4, _ => by kernel_rfl
  | 5, _ => by kernel_rfl
  | 6, _ => by kernel_rfl
  | 7, _ => by kernel_rfl
  | 8, _ => by kernel_rfl
  | 9, _ => by kernel_rfl
  | 10, _ => by kernel_rfl
  | 11, _ => by kernel_rfl
  | 12, _ => by kernel_rfl
  | n + 13, h => absurd h (by omega)
theorem ap_ne : ∀ n : Nat, n ≤ 12 → endsTrue (apRun (neC n) 5 (.v (.int .i64 (Int.ofNat n)))) = true
  | 0, _ => by kernel_rfl
  | 1, _ => by kernel_rfl
  | 2, _ => by kernel_rfl
  | 3, _ => by kernel_rfl
  | 4, _ => by kernel_rfl
  | 5, _ => by kernel_rfl
  | 6, _ => by kernel_rfl
  | 7, _ => by kernel_rfl
  | 8, _ => by kernel_rfl
  | 9, _ => by kernel_rfl
  | 10, _ => by kernel_rfl
  | 11, _ => by kernel_rfl
  | 12, _ => by kernel_rfl
  | n + 13, h => absurd h (by omega)
theorem ap_calls (x y : St) (n : Int) (W : World) : Calls Try.prog 3 #[.agg x.vals.toArray, .agg y.vals.toArray, .int .i64 n] W fun e w' => e = .returned (.bool true) ∧ Below W.heap.size W w' := by
  have go : ∀ (G : Cfg) (B : Nat) (z : AC), (c5 B).map (AC.den (inEnv x y n) fun _ => (0, 0)) = y.vals → (c5 B).all (AC.wf 0) = true → CfgOk (inEnv x y n) G → G.g = [] → z.den (inEnv x y n) (fun _ => (0, 0)) = .int .i64 n → z.wf 0 = true → endsTrue (apRun G B z) = true →
      Calls Try.prog 3 #[.agg x.vals.toArray, .agg y.vals.toArray, .int .i64 n] W fun e w' => e = .returned (.bool true) ∧ Below W.heap.size W w' := fun G B z hB hBw hG hg hz hwf h => by
    refine law_run (E := inEnv x y n) hG (callN_sound hG (permK_ok (inEnv_ap x y n)) mix ents57 3) mix hg h (by simp only [List.all_cons, List.all_nil, A1.wf, hwf, hBw, Bool.and_true]; rfl) ?_
    simp only [List.map, A1.den, hz, hB, inEnv_x]
  by_cases h1 : n < 0
  · exact go lowC 5 (.o 0) rfl rfl (lowC_ok x y n h1) rfl rfl rfl ap_low
  · by_cases h2 : 12 < n
    · exact go highC 5 (.o 0) rfl rfl (highC_ok x y n h2) rfl rfl rfl ap_high
    · obtain ⟨m, rfl⟩ : ∃ m : Nat, n = Int.ofNat m := ⟨n.toNat, by simp; omega⟩
      have hm : m ≤ 12 := by simp at h2; omega
      by_cases he : x = y
      · subst he
        exact go {} 0 (.v (.int .i64 (Int.ofNat m))) rfl rfl (cfgOk0 (inEnv_ok _ _ _) fun _ hp => nomatch hp) rfl rfl rfl (ap_same m hm)
      · exact go (neC m) 5 (.v (.int .i64 (Int.ofNat m))) rfl rfl (neC_ok he m _) rfl rfl rfl (ap_ne m hm)

set_option maxRecDepth 100000 in
theorem ap_lifted (os : Os) (started : os.Started) (H : Type) (enc : TypeId × Value → H) :
    ReturnsInHanded {} Try.checked os 3 .any (Rows.fnPermuteApartSpec.pre6 enc Try.prog Try.f3 Rows.fnPermuteApartRow.domain false) (Rows.fnPermuteApartSpec.post enc Try.prog Try.f3 Rows.fnPermuteApartRow.apart Rows.fnPermuteApartRow.fresh Rows.fnPermuteApartRow.handsOn Rows.fnPermuteApartRow.again) := by
  refine returnsInHanded_of_change (C := Try.checked) own0 started (by kernel_rfl) Try.func3
    (ChangeSpec.witness6 (enc := enc) (C := Try.checked) false ⟨#[], #[.agg #[.int .u64 0, .int .u64 0, .int .u64 0, .int .u64 0, .int .u64 0], .agg #[.int .u64 0, .int .u64 0, .int .u64 0, .int .u64 0, .int .u64 0], .int .i64 0], []⟩ 8 (by kernel_rfl) (by kernel_rfl) (by kernel_rfl) (by kernel_rfl)) ?_
  intro W base args ds gs before hval0 hW _ _
  have hval : ∀ (j : Nat) t v, Try.f3.params[j]? = some t → args[j]? = some v → Value.okWide Try.prog W .any base t v := hval0
  have hW' := hW
  obtain ⟨p, q, hA0, hV, rfl, _, _⟩ := hW
  have hA : DataW.TrodAll enc Try.prog W 0 (fun _ => true) true Try.f3.params.toList args.toList ds p := hA0
  rw [Try.params3] at hA hval
  obtain ⟨v0, v1, v2, d0, d1, d2, p0, p1, p2, rfl, rfl, rfl, h0, h1, h2⟩ := trodAll_three hA
  obtain ⟨rfl, rfl⟩ := trodVars_none hV
  obtain ⟨xs, hl, rfl, rfl, rfl, hwf⟩ := open_ints under23 under22 cells22 cells23 (hval 0 23 v0 rfl rfl) h0
  obtain ⟨ys, hl', rfl, rfl, rfl, hwf'⟩ := open_ints under23 under22 cells22 cells23 (hval 1 23 v1 rfl rfl) h1
  obtain ⟨x, hx⟩ := vals_of hl hwf
  obtain ⟨y, hy⟩ := vals_of hl' hwf'
  obtain ⟨n, rfl⟩ := okWide_int under3 (hval 2 3 v2 rfl rfl)
  obtain ⟨fu, h2⟩ := h2
  obtain ⟨n', e1, he1, w1⟩ := DataW.trod_int under3 h2
  simp [Value.cells] at e1
  subst e1
  simp only [Prod.mk.injEq] at he1
  obtain ⟨rfl, rfl⟩ := he1
  clear hA0 hval0
  simp only [List.append_nil] at hW'
  rw [hx, hy] at hW' hval hA ⊢
  refine (ap_calls x y n W).mono fun e W' ⟨he, hb⟩ => ?_
  subst he
  refine ⟨_, rfl, post_below (pa := []) (pv := []) hW' (fun _ _ _ => trodAll_mk1 (shut_bool under4 _)) (fun sp _ => ?_) (fun _ _ => rfl) rfl hb (ok_one (by kernel_rfl) rfl (okWide_bool_mk under4 _))⟩
  rw [show Try.f3.params.toList = [23, 23, 3] by rw [Try.params3]]
  have a0 := shut_ints (enc := enc) (w := W') (b0 := 0) (sp := sp) (held := true) under23 under22 cells22 cells23 hl hwf
  have a1 := shut_ints (enc := enc) (w := W') (b0 := 0) (sp := sp) (held := true) under23 under22 cells22 cells23 hl' hwf'
  rw [hx] at a0
  rw [hy] at a1
  exact trodAll_cons_mk (p := []) (p' := []) a0 (trodAll_cons_mk (p := []) (p' := []) a1 (trodAll_mk1 (shut_int under3 w1)))
theorem holds_apart : Rows.FnPermuteApartSaid :=
  OpenClaim.holds_of_wide 3 Try.f3 rfl rfl rfl rfl rfl rfl rfl ⟨rfl, rfl, rfl, rfl, rfl⟩ rfl rfl rfl rfl rfl (by kernel_rfl) Try.func3 (by kernel_rfl)
    (of_decide_eq_true (by kernel_rfl)) (by unfold Func.isWrapper; first | (rw [if_pos (by decide +kernel)]; kernel_rfl) | (rw [if_neg (by decide +kernel)]; exact ⟨rfl, rfl⟩))
    (fun os started H enc _ => ap_lifted os started H enc)
end Go.Proofs.Ytfilandehjmikaa
