/- Comparing two tags: 1 just if they are the same. No condition. -/
import Derived.Test.YtfilandehjmikaaDoorAscH
namespace Go.Proofs.YtfilandehjmikaaDoor.Asc
open Go.RowKit Go.Proofs.YtfilandehjmikaaDoor.Sx

theorem b2u_t (w : World) : (callFunc 56 #[.bool true]).run Tryd.prog w = .ok (.value (.int .u8 1)) w := by kernel_rfl
theorem b2u_f (w : World) : (callFunc 56 #[.bool false]).run Tryd.prog w = .ok (.value (.int .u8 0)) w := by kernel_rfl
set_option maxHeartbeats 400000 in
theorem beq_yes (w : World) : Calls Tryd.prog 55 #[.int .u8 0, .int .u8 0] w fun e w' => e = .returned (.int .i64 1) ∧ w = w' := by
  have h := b2u_t w
  go_enter Tryd.func55, Tryd.ntmps55
  go_wp2
  go_ret
  exact ⟨rfl, rfl⟩
set_option maxHeartbeats 400000 in
theorem beq_no (w : World) (a : Int) (ha : (a == 0) = false) : Calls Tryd.prog 55 #[.int .u8 a, .int .u8 0] w fun e w' => e = .returned (.int .i64 0) ∧ w = w' := by
  have h := b2u_f w
  go_enter Tryd.func55, Tryd.ntmps55
  go_wp2
  go_ret
  exact ⟨rfl, rfl⟩
def difT (i : Nat) : T := mkXor1 (byT i) (byT (20 + i))
def ctT : Nat → T
  | 0 => difT 0
  | n + 1 => mkOr (ctT n) (difT (n + 1))
def ctK (b : Bool) : CallF := fun f args m =>
  if Nat.beq f 55 then match args with
    | [.c (.w .u8 t), .c (.v (.int .u8 0))] => if t.beq (ctT 15) then some (.one (.c (.v (.int .i64 (match b with | true => 1 | false => 0)))), m) else none
    | _ => none
  else none
noncomputable def ctOk (b : Bool) : Bool :=
  endsF [.v (.c (.v (.int .i64 (match b with | true => 1 | false => 0))))] [roB (win 0 16), roB (win 20 16)]
    (runF Tryd.prog {} (callN Tryd.prog {} (ctK b) [51] 100 2) 100 41 [.c (.slc 0 0 0 ⟨0, 16⟩ ⟨201, 16⟩), .c (.slc 1 0 0 ⟨0, 16⟩ ⟨202, 16⟩)] [roB (win 0 16), roB (win 20 16)])
theorem ct_ok : (ctOk true && ctOk false) = true := by kernel_rfl
theorem or_zero (x y : BitVec 64) : x ||| y = 0#64 ↔ x = 0#64 ∧ y = 0#64 := by
  constructor
  · intro h
    have hb : ∀ j, j < 64 → x.getLsbD j = false ∧ y.getLsbD j = false := fun j _ => by
      have := congrArg (BitVec.getLsbD · j) h
      simp only [BitVec.getLsbD_or] at this
      simpa using this
    exact ⟨bv_ext fun j hj => by rw [(hb j hj).1]; simp, bv_ext fun j hj => by rw [(hb j hj).2]; simp⟩
  · rintro ⟨rfl, rfl⟩; rfl
theorem xor_zero (x y : BitVec 64) : x ^^^ y = 0#64 ↔ x = y := by
  constructor
  · intro h
    refine bv_ext fun j _ => ?_
    have := congrArg (BitVec.getLsbD · j) h
    simp only [BitVec.getLsbD_xor] at this
    cases hx : x.getLsbD j <;> cases hy : y.getLsbD j <;> simp [hx, hy] at this ⊢
  · rintro rfl; simp
section
variable {E : Env} {s : St} {a b : List B8}
theorem difT_den (h : SymOk E s (kn a b)) (ha : a.length ≤ 20) {i : Nat} (hi : i < 20) : (difT i).den E = up (a.getD i 0) ^^^ up (b.getD i 0) := by
  rw [difT, mkXor1_den, key_den h ha hi, byT_den h (by omega), kn_nonce ha]
theorem ctT_den (h : SymOk E s (kn a b)) (ha : a.length ≤ 20) : ∀ n, n < 20 → ((ctT n).den E = 0#64 ↔ ∀ i, i ≤ n → a.getD i 0 = b.getD i 0)
  | 0, _ => by
    rw [ctT, difT_den h ha (by decide), xor_zero]
    exact ⟨fun h i hi => by rw [Nat.le_zero.1 hi]; exact up_inj h, fun h => by rw [h 0 (Nat.le_refl _)]⟩
  | n + 1, hn => by
    rw [ctT, mkOr_den, or_zero, ctT_den h ha n (by omega), difT_den h ha (by omega), xor_zero]
    constructor
    · rintro ⟨h1, h2⟩ i hi
      rcases Nat.lt_or_ge n i with h' | h'
      · rw [show i = n + 1 by omega]; exact up_inj h2
      · exact h1 i h'
    · intro h
      exact ⟨fun i hi => h i (by omega), by rw [h (n + 1) (Nat.le_refl _)]⟩
theorem ct_iff (h : SymOk E s (kn a b)) (ha : a.length = 16) (hb : b.length = 16) : (ctT 15).den E = 0#64 ↔ a = b := by
  rw [ctT_den h (by omega) 15 (by decide)]
  constructor
  · intro h
    apply List.ext_getElem (by omega)
    intro i h1 h2
    have := h i (by omega)
    simpa [List.getD, List.getElem?_eq_getElem h1, List.getElem?_eq_getElem h2] using this
  · rintro rfl _ _; rfl
end
theorem entC1 : ∀ f ∈ [51], Enters Tryd.prog f := fun f hf => by
  rw [List.mem_singleton] at hf; subst hf; exact fun _ _ => by kernel_rfl
theorem entBeq : Enters Tryd.prog 55 := fun _ _ => by kernel_rfl
theorem ctK_ok {E : Env} {w0 : World} {G : Cfg} {b : Bool} (hb : ((ctT 15).den E = 0#64) = (b = true)) : CallOk Tryd.prog E w0 G (ctK b) := by
  intro f args m r m' h
  unfold ctK at h
  split at h
  · rename_i hf
    have hf' := Nat.eq_of_beq_eq_true hf
    subst hf'
    refine ⟨entBeq, ?_⟩
    split at h
    · rename_i t
      split at h
      · rename_i ht
        have ht' := T.beq_eq ht
        subst ht'
        cases h
        intro bl w hm _ _
        cases b with
        | true =>
          have hz : (ctT 15).den E = 0#64 := by rw [hb]
          have : ([.c (.w .u8 (ctT 15)), .c (.v (.int .u8 0))] : List A1).map (A1.den E bl) = [.int .u8 0, .int .u8 0] := by simp only [List.map, A1.den, AC.den, hz]; rfl
          rw [this]
          exact (beq_yes w).mono fun e w' ⟨he, hw⟩ => ⟨bl, he, Agree.refl _ _, hw ▸ hm, rfl, Nat.le_refl _⟩
        | false =>
          have hz : ¬ (ctT 15).den E = 0#64 := by rw [hb]; decide
          have : ([.c (.w .u8 (ctT 15)), .c (.v (.int .u8 0))] : List A1).map (A1.den E bl) = [.int .u8 (((ctT 15).den E).toNat : Int), .int .u8 0] := by simp only [List.map, A1.den, AC.den]
          rw [this]
          refine (beq_no w _ (by
            rw [beq_eq_false_iff_ne]
            intro h0
            exact hz (BitVec.eq_of_toNat_eq (by simp; omega)))).mono fun e w' ⟨he, hw⟩ => ⟨bl, he, Agree.refl _ _, hw ▸ hm, rfl, Nat.le_refl _⟩
      · cases h
    · cases h
  · cases h
theorem ctc_calls {w : World} {v u : Value} {a b : List B8} (ha : a.length = 16) (hb : b.length = 16) (hv : SlV w v (vals a)) (hu : SlV w u (vals b)) :
    Calls Tryd.prog 41 #[v, u] w fun e w' => e = .returned (.int .i64 (if a = b then 1 else 0)) ∧ Below w.heap.size w w' := by
  obtain ⟨vb, vo, vc, rfl, hvl, hva, hvs⟩ := hv.cons (fun e => by have := congrArg List.length e; rw [vals_length, ha] at this; cases this)
  obtain ⟨ub, uo, uc, rfl, hul, hua, hus⟩ := hu.cons (fun e => by have := congrArg List.length e; rw [vals_length, hb] at this; cases this)
  rw [vals_length, ha] at hvl
  rw [vals_length, hb] at hul
  have hE0 := envA_ok (st := ⟨0, 0, 0, 0, 0⟩) (blk := kn a b) (rows := rowsN 0 (vc - 16) (uc - 16)) (vl := vl1 (.slice none 0 0) (.slice none 0 0)) (vl1_one rfl rfl) (rowsN_le (by decide)) rowsN_one
  have hsym : SymOk (envA ⟨0, 0, 0, 0, 0⟩ (kn a b) (rowsN 0 (vc - 16) (uc - 16)) (vl1 (.slice none 0 0) (.slice none 0 0))) ⟨0, 0, 0, 0, 0⟩ (kn a b) := envA_sym
  have n1 : (envA ⟨0, 0, 0, 0, 0⟩ (kn a b) (rowsN 0 (vc - 16) (uc - 16)) (vl1 (.slice none 0 0) (.slice none 0 0))).nm 200 = vc - 16 := by simp [envA, rowsN, repl]
  have n2 : (envA ⟨0, 0, 0, 0, 0⟩ (kn a b) (rowsN 0 (vc - 16) (uc - 16)) (vl1 (.slice none 0 0) (.slice none 0 0))).nm 201 = uc - 16 := by simp [envA, rowsN, repl]
  generalize envA ⟨0, 0, 0, 0, 0⟩ (kn a b) (rowsN 0 (vc - 16) (uc - 16)) (vl1 (.slice none 0 0) (.slice none 0 0)) = E at hE0 hsym n1 n2
  have hG : CfgOk Tryd.prog E w {} := cfgOk0 (r := []) hE0 fun p hp => nomatch hp
  have hwa : (win 0 16).map (AC.den E (bl2 (vb, vo) (ub, uo))) = vals a := by
    have := winK (m := 0) hsym (by rw [ha]; rfl) (bl2 (vb, vo) (ub, uo))
    exact this
  have hwb : (win 20 16).map (AC.den E (bl2 (vb, vo) (ub, uo))) = vals b := winN hsym (by omega) hb _
  have hm0 : MRel E (bl2 (vb, vo) (ub, uo)) w [roB (win 0 16), roB (win 20 16)] w := by
    refine MRel.lits (fun i b hi => ?_) (fun i k bi bk hik hi hk hr => ?_)
    · match i, hi with
      | 0, hi => cases hi; exact ⟨rfl, rfl, rfl, win_wf _ _ _, hvs, (by show At w vb vo ((win 0 16).map _); rw [hwa]; exact hva), fun h => nomatch h⟩
      | 1, hi => cases hi; exact ⟨rfl, rfl, rfl, win_wf _ _ _, hus, (by show At w ub uo ((win 20 16).map _); rw [hwb]; exact hua), fun h => nomatch h⟩
      | i + 2, hi => exact nomatch hi
    · match i, hi with
      | 0, hi => cases hi; cases hr
      | 1, hi => cases hi; cases hr
      | i + 2, hi => exact nomatch hi
  have hrun : ctOk (decide (a = b)) = true := by
    have := ct_ok
    simp only [Bool.and_eq_true] at this
    by_cases h : a = b
    · rw [decide_eq_true h]; exact this.1
    · rw [decide_eq_false h]; exact this.2
  have := fn_calls hG (callN_sound hG (ctK_ok (b := decide (a = b)) (by rw [decide_eq_true_eq]; exact propext (ct_iff hsym ha hb))) mix entC1 2) mix hrun hm0 gok0 rfl
  rw [show ([.c (.slc 0 0 0 ⟨0, 16⟩ ⟨201, 16⟩), .c (.slc 1 0 0 ⟨0, 16⟩ ⟨202, 16⟩)] : List A1).map (A1.den E (bl2 (vb, vo) (ub, uo))) = [.slice (some ⟨vb, vo, none⟩) (vals a).length vc, .slice (some ⟨ub, uo, none⟩) (vals b).length uc] by
    have e1 : (AC.slc 0 0 0 ⟨0, 16⟩ ⟨201, 16⟩).den E (bl2 (vb, vo) (ub, uo)) = .slice (some ⟨vb, vo, none⟩) (vals a).length vc := slc_den (E := E) (bl := bl2 (vb, vo) (ub, uo)) (b := 0) (ib := vb) (io := vo) rfl (by show E.nm 200 + _ = _; rw [n1]; omega) (by omega) (by rw [vals_length, ha]; rfl)
    have e2 : (AC.slc 1 0 0 ⟨0, 16⟩ ⟨202, 16⟩).den E (bl2 (vb, vo) (ub, uo)) = .slice (some ⟨ub, uo, none⟩) (vals b).length uc := slc_den (E := E) (bl := bl2 (vb, vo) (ub, uo)) (b := 1) (ib := ub) (io := uo) rfl (by show E.nm 201 + _ = _; rw [n2]; omega) (by omega) (by rw [vals_length, hb]; rfl)
    simp only [List.map, A1.den, e1, e2]] at this
  refine this.mono fun e w' ⟨bl', vs, he, hr, _, hm'⟩ => ?_
  obtain ⟨v', h1, h2⟩ := rsOne hr
  refine ⟨?_, (hm'.chg (R := []) fun i b hi hr => ?_).below⟩
  · rw [he, h1, h2]
    by_cases h : a = b
    · rw [if_pos h, decide_eq_true h]; rfl
    · rw [if_neg h, decide_eq_false h]; rfl
  · match i, hi with
    | 0, hi => cases hi; cases hr
    | 1, hi => cases hi; cases hr
    | i + 2, hi => exact nomatch hi
end Go.Proofs.YtfilandehjmikaaDoor.Asc
