/- Comparing two tags: 1 just if they are the same. The code's Open behind nothing, as a contract. The code's Open behind nothing, as a contract: a full answer. The code's Open behind nothing, as a contract: an empty text. Open over bytes. impl.Open as a contract. No condition. -/
import Derived.Test.YtfilandehjmikaaDoorAscH
import Derived.Lib.SliceRun
namespace Go.Proofs.YtfilandehjmikaaDoor.Asc
open Go.RowKit Go.Proofs.YtfilandehjmikaaDoor.Sx

theorem b2u_t (w : World) : (callFunc 56 #[.bool true]).run Tryd.prog w = .ok (.value (.int .u8 1)) w := by kernel_rfl
theorem b2u_f (w : World) : (callFunc 56 #[.bool false]).run Tryd.prog w = .ok (.value (.int .u8 0)) w := by kernel_rfl
set_option maxHeartbeats 400000 in
theorem beq_yes (w : World) : Calls Tryd.prog 55 #[.int .u8 0, .int .u8 0] w fun e w' => e = .returned (.int .i64 1) ∧ w = w' := by
  have h := b2u_t w
  go_enter Tryd.func55, Tryd.ntmps55
  go_wp2
  go_ret
  exact ⟨rfl, rfl⟩
set_option maxHeartbeats 400000 in
theorem beq_no (w : World) (a : Int) (ha : (a == 0) = false) : Calls Tryd.prog 55 #[.int .u8 a, .int .u8 0] w fun e w' => e = .returned (.int .i64 0) ∧ w = w' := by
  have h := b2u_f w
  go_enter Tryd.func55, Tryd.ntmps55
  go_wp2
  go_ret
  exact ⟨rfl, rfl⟩
def difT (i : Nat) : T := mkXor1 (byT i) (byT (20 + i))
def ctT : Nat → T
  | 0 => difT 0
  | n + 1 => mkOr (ctT n) (difT (n + 1))
def ctK (b : Bool) : CallF := fun f args m =>
  if Nat.beq f 55 then match args with
    | [.c (.w .u8 t), .c (.v (.int .u8 0))] => if t.beq (ctT 15) then some (.one (.c (.v (.int .i64 (match b with | true => 1 | false => 0)))), m) else none
    | _ => none
  else none
noncomputable def ctOk (b : Bool) : Bool :=
  endsF [.v (.c (.v (.int .i64 (match b with | true => 1 | false => 0))))] [roB (win 0 16), roB (win 20 16)]
    (runF Tryd.prog {} (callN Tryd.prog {} (ctK b) [51] 100 2) 100 41 [.c (.slc 0 0 0 ⟨0, 16⟩ ⟨201, 16⟩), .c (.slc 1 0 0 ⟨0, 16⟩ ⟨202, 16⟩)] [roB (win 0 16), roB (win 20 16)])
theorem ct_ok : (ctOk true && ctOk false) = true := by kernel_rfl
theorem or_zero (x y : BitVec 64) : x ||| y = 0#64 ↔ x = 0#64 ∧ y = 0#64 := by
  constructor
  · intro h
    have hb : ∀ j, j < 64 → x.getLsbD j = false ∧ y.getLsbD j = false := fun j _ => by
      have := congrArg (BitVec.getLsbD · j) h
      simp only [BitVec.getLsbD_or] at this
      simpa using this
    exact ⟨bv_ext fun j hj => by rw [(hb j hj).1]; simp, bv_ext fun j hj => by rw [(hb j hj).2]; simp⟩
  · rintro ⟨rfl, rfl⟩; rfl
theorem xor_zero (x y : BitVec 64) : x ^^^ y = 0#64 ↔ x = y := by
  constructor
  · intro h
    refine bv_ext fun j _ => ?_
    have := congrArg (BitVec.getLsbD · j) h
    simp only [BitVec.getLsbD_xor] at this
    cases hx : x.getLsbD j <;> cases hy : y.getLsbD j <;> simp [hx, hy] at this ⊢
  · rintro rfl; simp
section
variable {E : Env} {s : St} {a b : List B8}
theorem difT_den (h : SymOk E s (kn a b)) (ha : a.length ≤ 20) {i : Nat} (hi : i < 20) : (difT i).den E = up (a.getD i 0) ^^^ up (b.getD i 0) := by
  rw [difT, mkXor1_den, key_den h ha hi, byT_den h (by omega), kn_nonce ha]
theorem ctT_den (h : SymOk E s (kn a b)) (ha : a.length ≤ 20) : ∀ n, n < 20 → ((ctT n).den E = 0#64 ↔ ∀ i, i ≤ n → a.getD i 0 = b.getD i 0)
  | 0, _ => by
    rw [ctT, difT_den h ha (by decide), xor_zero]
    exact ⟨fun h i hi => by rw [Nat.le_zero.1 hi]; exact up_inj h, fun h => by rw [h 0 (Nat.le_refl _)]⟩
  | n + 1, hn => by
    rw [ctT, mkOr_den, or_zero, ctT_den h ha n (by omega), difT_den h ha (by omega), xor_zero]
    constructor
    · rintro ⟨h1, h2⟩ i hi
      rcases Nat.lt_or_ge n i with h' | h'
      · rw [show i = n + 1 by omega]; exact up_inj h2
      · exact h1 i h'
    · intro h
      exact ⟨fun i hi => h i (by omega), by rw [h (n + 1) (Nat.le_refl _)]⟩
theorem ct_iff (h : SymOk E s (kn a b)) (ha : a.length = 16) (hb : b.length = 16) : (ctT 15).den E = 0#64 ↔ a = b := by
  rw [ctT_den h (by omega) 15 (by decide)]
  constructor
  · intro h
    apply List.ext_getElem (by omega)
    intro i h1 h2
    have := h i (by omega)
    simpa [List.getD, List.getElem?_eq_getElem h1, List.getElem?_eq_getElem h2] using this
  · rintro rfl _ _; rfl
end
theorem entC1 : ∀ f ∈ [51], Enters Tryd.prog f := fun f hf => by
  rw [List.mem_singleton] at hf; subst hf; exact fun _ _ => by kernel_rfl
theorem entBeq : Enters Tryd.prog 55 := fun _ _ => by kernel_rfl
theorem ctK_ok {E : Env} {w0 : World} {G : Cfg} {b : Bool} (hb : ((ctT 15).den E = 0#64) = (b = true)) : CallOk Tryd.prog E w0 G (ctK b) := by
  intro f args m r m' h
  unfold ctK at h
  split at h
  · rename_i hf
    have hf' := Nat.eq_of_beq_eq_true hf
    subst hf'
    refine ⟨entBeq, ?_⟩
    split at h
    · rename_i t
      split at h
      · rename_i ht
        have ht' := T.beq_eq ht
        subst ht'
        cases h
        intro bl w hm _ _
        cases b with
        | true =>
          have hz : (ctT 15).den E = 0#64 := by rw [hb]
          have : ([.c (.w .u8 (ctT 15)), .c (.v (.int .u8 0))] : List A1).map (A1.den E bl) = [.int .u8 0, .int .u8 0] := by simp only [List.map, A1.den, AC.den, hz]; rfl
          rw [this]
          exact (beq_yes w).mono fun e w' ⟨he, hw⟩ => ⟨bl, he, Agree.refl _ _, hw ▸ hm, rfl, Nat.le_refl _⟩
        | false =>
          have hz : ¬ (ctT 15).den E = 0#64 := by rw [hb]; decide
          have : ([.c (.w .u8 (ctT 15)), .c (.v (.int .u8 0))] : List A1).map (A1.den E bl) = [.int .u8 (((ctT 15).den E).toNat : Int), .int .u8 0] := by simp only [List.map, A1.den, AC.den]
          rw [this]
          refine (beq_no w _ (by
            rw [beq_eq_false_iff_ne]
            intro h0
            exact hz (BitVec.eq_of_toNat_eq (by simp; omega)))).mono fun e w' ⟨he, hw⟩ => ⟨bl, he, Agree.refl _ _, hw ▸ hm, rfl, Nat.le_refl _⟩
      · cases h
    · cases h
  · cases h
theorem ctc_calls {w : World} {v u : Value} {a b : List B8} (ha : a.length = 16) (hb : b.length = 16) (hv : SlV w v (vals a)) (hu : SlV w u (vals b)) :
    Calls Tryd.prog 41 #[v, u] w fun e w' => e = .returned (.int .i64 (if a = b then 1 else 0)) ∧ Below w.heap.size w w' := by
  obtain ⟨vb, vo, vc, rfl, hvl, hva, hvs⟩ := hv.cons (fun e => by have := congrArg List.length e; rw [vals_length, ha] at this; cases this)
  obtain ⟨ub, uo, uc, rfl, hul, hua, hus⟩ := hu.cons (fun e => by have := congrArg List.length e; rw [vals_length, hb] at this; cases this)
  rw [vals_length, ha] at hvl
  rw [vals_length, hb] at hul
  have hE0 := envA_ok (st := ⟨0, 0, 0, 0, 0⟩) (blk := kn a b) (rows := rowsN 0 (vc - 16) (uc - 16)) (vl := vl1 (.slice none 0 0) (.slice none 0 0)) (vl1_one rfl rfl) (rowsN_le (by decide)) rowsN_one
  have hsym : SymOk (envA ⟨0, 0, 0, 0, 0⟩ (kn a b) (rowsN 0 (vc - 16) (uc - 16)) (vl1 (.slice none 0 0) (.slice none 0 0))) ⟨0, 0, 0, 0, 0⟩ (kn a b) := envA_sym
  have n1 : (envA ⟨0, 0, 0, 0, 0⟩ (kn a b) (rowsN 0 (vc - 16) (uc - 16)) (vl1 (.slice none 0 0) (.slice none 0 0))).nm 200 = vc - 16 := by simp [envA, rowsN, repl]
  have n2 : (envA ⟨0, 0, 0, 0, 0⟩ (kn a b) (rowsN 0 (vc - 16) (uc - 16)) (vl1 (.slice none 0 0) (.slice none 0 0))).nm 201 = uc - 16 := by simp [envA, rowsN, repl]
  generalize envA ⟨0, 0, 0, 0, 0⟩ (kn a b) (rowsN 0 (vc - 16) (uc - 16)) (vl1 (.slice none 0 0) (.slice none 0 0)) = E at hE0 hsym n1 n2
  have hG : CfgOk Tryd.prog E w {} := cfgOk0 (r := []) hE0 fun p hp => nomatch hp
  have hwa : (win 0 16).map (AC.den E (bl2 (vb, vo) (ub, uo))) = vals a := by
    have := winK (m := 0) hsym (by rw [ha]; rfl) (bl2 (vb, vo) (ub, uo))
    exact this
  have hwb : (win 20 16).map (AC.den E (bl2 (vb, vo) (ub, uo))) = vals b := winN hsym (by omega) hb _
  have hm0 : MRel E (bl2 (vb, vo) (ub, uo)) w [roB (win 0 16), roB (win 20 16)] w := by
    refine MRel.lits (fun i b hi => ?_) (fun i k bi bk hik hi hk hr => ?_)
    · match i, hi with
      | 0, hi => cases hi; exact ⟨rfl, rfl, rfl, win_wf _ _ _, hvs, (by show At w vb vo ((win 0 16).map _); rw [hwa]; exact hva), fun h => nomatch h⟩
      | 1, hi => cases hi; exact ⟨rfl, rfl, rfl, win_wf _ _ _, hus, (by show At w ub uo ((win 20 16).map _); rw [hwb]; exact hua), fun h => nomatch h⟩
      | i + 2, hi => exact nomatch hi
    · match i, hi with
      | 0, hi => cases hi; cases hr
      | 1, hi => cases hi; cases hr
      | i + 2, hi => exact nomatch hi
  have hrun : ctOk (decide (a = b)) = true := by
    have := ct_ok
    simp only [Bool.and_eq_true] at this
    by_cases h : a = b
    · rw [decide_eq_true h]; exact this.1
    · rw [decide_eq_false h]; exact this.2
  have := fn_calls hG (callN_sound hG (ctK_ok (b := decide (a = b)) (by rw [decide_eq_true_eq]; exact propext (ct_iff hsym ha hb))) mix entC1 2) mix hrun hm0 gok0 rfl
  rw [show ([.c (.slc 0 0 0 ⟨0, 16⟩ ⟨201, 16⟩), .c (.slc 1 0 0 ⟨0, 16⟩ ⟨202, 16⟩)] : List A1).map (A1.den E (bl2 (vb, vo) (ub, uo))) = [.slice (some ⟨vb, vo, none⟩) (vals a).length vc, .slice (some ⟨ub, uo, none⟩) (vals b).length uc] by
    have e1 : (AC.slc 0 0 0 ⟨0, 16⟩ ⟨201, 16⟩).den E (bl2 (vb, vo) (ub, uo)) = .slice (some ⟨vb, vo, none⟩) (vals a).length vc := slc_den (E := E) (bl := bl2 (vb, vo) (ub, uo)) (b := 0) (ib := vb) (io := vo) rfl (by show E.nm 200 + _ = _; rw [n1]; omega) (by omega) (by rw [vals_length, ha]; rfl)
    have e2 : (AC.slc 1 0 0 ⟨0, 16⟩ ⟨202, 16⟩).den E (bl2 (vb, vo) (ub, uo)) = .slice (some ⟨ub, uo, none⟩) (vals b).length uc := slc_den (E := E) (bl := bl2 (vb, vo) (ub, uo)) (b := 1) (ib := ub) (io := uo) rfl (by show E.nm 201 + _ = _; rw [n2]; omega) (by omega) (by rw [vals_length, hb]; rfl)
    simp only [List.map, A1.den, e1, e2]] at this
  refine this.mono fun e w' ⟨bl', vs, he, hr, _, hm'⟩ => ?_
  obtain ⟨v', h1, h2⟩ := rsOne hr
  refine ⟨?_, (hm'.chg (R := []) fun i b hi hr => ?_).below⟩
  · rw [he, h1, h2]
    by_cases h : a = b
    · rw [if_pos h, decide_eq_true h]; rfl
    · rw [if_neg h, decide_eq_false h]; rfl
  · match i, hi with
    | 0, hi => cases hi; cases hr
    | 1, hi => cases hi; cases hr
    | i + 2, hi => exact nomatch hi
end Go.Proofs.YtfilandehjmikaaDoor.Asc
namespace Go.Proofs.YtfilandehjmikaaDoor.Asc
open Go.RowKit Go.Proofs.YtfilandehjmikaaDoor.Sx

def ErrV (v : Value) : Prop := ∃ a, v = .iface 91 (.pointer (some a))
def OShort (w : World) (e : Ending) (w' : World) : Prop := ∃ x, ErrV x ∧ e = .returned (.tuple #[.slice none 0 0, x]) ∧ Below w.heap.size w w'
set_option maxHeartbeats 1000000 in
theorem open_short {w : World} {cp dv : Value} {na sa : Option Addr} {ncap sl scap : Nat} {ea : Addr} (h1 : w.cell? ⟨1, 0, none⟩ = some (.iface 91 (.pointer (some ea)))) (hs : sl < 16) :
    Calls Tryd.prog 29 #[cp, .slice none 0 0, .slice na 16 ncap, .slice sa sl scap, dv] w (OShort w) := by
  go_enter Tryd.func29, Tryd.ntmps29
  go_wp2_with (fail)
  go_quiet (fail)
  go_wp2_with (fail)
  go_ret2
  exact ⟨_, ⟨ea, rfl⟩, rfl, ⟨rfl, rfl, rfl, Nat.le_refl _, fun _ _ => rfl⟩⟩
def IShort (w : World) (e : Ending) (w' : World) : Prop := e = .returned (.tuple #[.slice none 0 0, .bool false]) ∧ Below w.heap.size w w'
set_option maxHeartbeats 1000000 in
theorem iopen_short {m : Nat} (hm : m ≤ 2) {key nonce l data : List B8} {sl : Nat} (hk : key.length = klen m) (hn : nonce.length = 16) (hsl : l.length = sl) (h16 : sl < 16) (hdl : data.length ≤ 1048576) {w : World} {kv nv sv dv : Value} {ea : Addr} (h1 : w.cell? ⟨1, 0, none⟩ = some (.iface 91 (.pointer (some ea))))
    (hkv : SlV w kv (vals key)) (hs : SlV w nv (vals nonce)) (ht : SlV w sv (vals l)) (hd : SlV w dv (vals data)) :
    Calls Tryd.prog 18 #[.int .i64 (m : Int), .slice none 0 0, kv, nv, sv, dv] w (IShort w) := by
  obtain ⟨na, ncap, hnv⟩ := slV_shape hs
  rw [hn] at hnv
  subst hnv
  have h20 := klen_le m
  have Hs := Lib.hid hs; clear hs
  have Ht := Lib.hid ht; clear ht
  have Hd := Lib.hid hd; clear hd
  have Hkv := Lib.hid hkv; clear hkv
  have Hk := Lib.hid hk; clear hk
  have Hn := Lib.hid hn; clear hn
  have Hsl := Lib.hid hsl; clear hsl
  have H1 := Lib.hid h1; clear h1
  go_enter Tryd.func18, Tryd.ntmps18
  go_wp2_with (fail)
  refine (cipher_calls hm Hk.out Hkv.out).mono ?_
  rintro e w1 ⟨cb, co, rfl, hb1, hcb, hc1⟩
  have HB1 := Lib.hid hb1; clear hb1 hc1 hcb
  go_wp2_with (fail)
  refine clone_nil.mono ?_
  rintro e w2 ⟨rfl, hb2⟩
  have HB2 := Lib.hid (HB1.out.trans (hb2.mono HB1.out.size)); clear hb2
  go_wp2_with (fail)
  refine (clone_n Hn.out (by decide) (Hs.out.below HB2.out)).mono ?_
  rintro e w3 ⟨na', ncap', rfl, hb3, _⟩
  have HB3 := Lib.hid (HB2.out.trans (hb3.mono HB2.out.size)); clear hb3
  go_wp2_with (fail)
  refine (clone_n Hsl.out (by omega) (Ht.out.below HB3.out)).mono ?_
  rintro e w4 ⟨ta', tcap', rfl, hb4, _⟩
  have HB4 := Lib.hid (HB3.out.trans (hb4.mono HB3.out.size)); clear hb4
  go_wp2_with (fail)
  refine (clone_sl hdl (Hd.out.below HB4.out)).mono ?_
  rintro e w5 ⟨da', dcap', rfl, hb5, _⟩
  have HB5 := Lib.hid (HB4.out.trans (hb5.mono HB4.out.size)); clear hb5
  go_wp2_with (fail)
  refine (open_short (ea := ea) ((HB5.out.cell (p := ⟨1, 0, none⟩) (cell_lt H1.out)).trans H1.out) h16).mono ?_
  rintro e w6 ⟨x, ⟨a, rfl⟩, rfl, hb6⟩
  have HB6 := Lib.hid (HB5.out.trans (hb6.mono HB5.out.size)); clear hb6
  go_wp2_with (fail)
  go_ret2
  exact ⟨rfl, HB6.out⟩
def ISizes (w : World) (e : Ending) (w' : World) : Prop := e = .returned (.tuple #[.int .i64 16, .int .i64 16, .bool true]) ∧ Below w.heap.size w w'
set_option maxHeartbeats 1000000 in
theorem isizes {m : Nat} (hm : m ≤ 2) {key : List B8} (hk : key.length = klen m) {w : World} {kv : Value} (hkv : SlV w kv (vals key)) : Calls Tryd.prog 11 #[.int .i64 (m : Int), kv] w (ISizes w) := by
  have Hkv := Lib.hid hkv; clear hkv
  have Hk := Lib.hid hk; clear hk
  go_enter Tryd.func11, Tryd.ntmps11
  go_wp2_with (fail)
  refine (cipher_calls hm Hk.out Hkv.out).mono ?_
  rintro e w1 ⟨cb, co, rfl, hb1, hcb, hc1⟩
  have HB1 := Lib.hid hb1; clear hb1 hc1 hcb
  go_wp2_with (go_in)
  exact bodyPost_ret (v := .tuple #[.int .i64 16, .int .i64 16, .bool true]) (by simp [results, Tryd.results11, go_sem]) rfl ⟨rfl, HB1.out⟩
end Go.Proofs.YtfilandehjmikaaDoor.Asc
namespace Go.Proofs.YtfilandehjmikaaDoor.Asc
open Go.RowKit Go.Proofs.YtfilandehjmikaaDoor.Sx

def tagC : List Value := zer 16
theorem newTS (w1 w2 : World) (nq : Nat) (t u : TypeId) (he : w2 = ((w1.drewN nq).alloc (.cells (zer 16).toArray t)).alloc (.cells zSt.vals.toArray u)) : Below w1.heap.size w1 w2 ∧ w2.heap.size = w1.heap.size + 2 ∧
    At w2 w1.heap.size 0 (zer 16) ∧ Thaw w2 w1.heap.size 0 16 ∧ At w2 (w1.heap.size + 1) 0 zSt.vals ∧ Thaw w2 (w1.heap.size + 1) 0 5 := by
  subst he
  have hz : (w1.drewN nq).heap.size = w1.heap.size := rfl
  have hz2 : ((w1.drewN nq).alloc (.cells (zer 16).toArray t)).heap.size = w1.heap.size + 1 := by simp [World.alloc]
  have hb : Below w1.heap.size w1 ((w1.drewN nq).alloc (.cells (zer 16).toArray t)) := ⟨rfl, rfl, rfl, by simp, fun k hk => by rw [Below.heap_alloc _ _ _ (by rw [hz]; exact hk)]; rfl⟩
  have h1 : At ((w1.drewN nq).alloc (.cells (zer 16).toArray t)) w1.heap.size 0 (zer 16) := fun j v hv => by
    rw [Nat.zero_add, ← hz, World.cell?_alloc_new]
    simpa using hv
  have h1b : Below (w1.heap.size + 1) ((w1.drewN nq).alloc (.cells (zer 16).toArray t)) (((w1.drewN nq).alloc (.cells (zer 16).toArray t)).alloc (.cells zSt.vals.toArray u)) := (Below.refl _ _).alloc (by rw [hz2]; exact Nat.le_refl _) _
  have h2 : Thaw ((w1.drewN nq).alloc (.cells (zer 16).toArray t)) w1.heap.size 0 16 := fun j _ => by
    rw [Nat.zero_add, ← hz]
    exact World.frozen?_alloc_new _ _ _ _
  refine ⟨hb.trans (h1b.mono (by omega)), by simp [World.alloc], ?_, ?_, ?_, ?_⟩
  · exact (Chg.of_below (R := []) (h1b.mono (by rw [hz2]; exact Nat.le_refl _))).at h1 (fun r hr => nomatch hr)
  · exact (Chg.of_below (R := []) (h1b.mono (by rw [hz2]; exact Nat.le_refl _))).thaw (by rw [hz2]; omega) h2
  · intro j v hv
    rw [Nat.zero_add, ← hz2, World.cell?_alloc_new]
    simpa using hv
  · intro j _
    rw [Nat.zero_add, ← hz2]
    exact World.frozen?_alloc_new _ _ _ _
theorem below_cells {B : Nat} {a : World} (b : Nat) (hb : B ≤ b) : ∀ (vs : List Value) (o : Nat) (w : World), Below B a w → Below B a (w.setCells b o vs)
  | [], _, _, h => h
  | v :: vs, o, _, h => below_cells b hb vs (o + 1) _ (h.setCell (p := ⟨b, o, none⟩) hb v)
theorem run_clear {w : World} {g n : Nat} (h0 : 0 < n) {vs : List Value} (hl : vs.length = n) (ha : At w g 0 vs) (ht : Thaw w g 0 n) :
    Sem.run Tryd.prog (Builtin.clear_ #[22] 0 #[.slice (some ⟨g, 0, none⟩) n n]) w = .ok (.tuple #[]) (w.setCells g 0 (List.replicate n (.int .u8 0))) :=
  Lib.run_clear_slice w 22 5 0 (.int .u8 0) (by kernel_rfl) (fun w => by rfl) rfl rfl g 0 n n h0 (fun j hj => by
    rw [ha j vs[j] (by simp [hl, hj])]; rfl) (fun j hj => ht j hj)
def OpenP (w : World) (m : Nat) (key nonce c t data : List B8) (e : Ending) (w' : World) : Prop :=
  (t = tagS m key (crypt (mdOf m) true (dataSt (mdOf m) (beginS m key nonce) data) c).2 → ∃ g, e = .returned (.tuple #[.slice (some ⟨g, 0, none⟩) c.length c.length, .nilIface]) ∧ Below w.heap.size w w' ∧ w.heap.size ≤ g ∧ At w' g 0 (vals (crypt (mdOf m) true (dataSt (mdOf m) (beginS m key nonce) data) c).1)) ∧
  (t ≠ tagS m key (crypt (mdOf m) true (dataSt (mdOf m) (beginS m key nonce) data) c).2 → OShort w e w')
set_option maxHeartbeats 1000000 in
theorem open_row {m : Nat} (hm : m ≤ 2) {key nonce data c t : List B8} (hk : key.length = klen m) (hn : nonce.length = 16) (h16 : t.length = 16) (hnl : c.length ≤ 1048576) (h0 : 0 < c.length) (hdl : data.length ≤ 1048576) {w : World} {cb co ncap sb so scap : Nat} {na : Option Addr} {dv : Value} {ea : Addr} (he1 : w.cell? ⟨1, 0, none⟩ = some (.iface 91 (.pointer (some ea))))
    (hc : At w cb co (cVals m key)) (hs : SlV w (.slice na 16 ncap) (vals nonce)) (ht : At w sb so (vals c ++ vals t)) (hcap : c.length + 16 ≤ scap) (hd : SlV w dv (vals data)) :
    Calls Tryd.prog 29 #[ptrTo cb co, .slice none 0 0, .slice na 16 ncap, .slice (some ⟨sb, so, none⟩) (c.length + 16) scap, dv] w (OpenP w m key nonce c t data) := by
  have He1 := Lib.hid he1; clear he1
  have Hk := Lib.hid hk; clear hk
  have Hn := Lib.hid hn; clear hn
  have Hc := Lib.hid hc; clear hc
  have Hs := Lib.hid hs; clear hs
  have Ht := Lib.hid (At.append.1 ht); clear ht
  have Hd := Lib.hid hd; clear hd
  have H16 := Lib.hid h16; clear h16
  go_enter Tryd.func29, Tryd.ntmps29
  go_wp2_with (fail)
  refine (sfa_row (n := c.length) (by omega) h0 _ rfl).mono ?_
  rintro e w1 ⟨rfl, hrow⟩
  have H1 := Lib.hid hrow; clear hrow
  go_wp2_with (fail)
  go_quiet (fail)
  go_wp2_with (fail)
  generalize hW : World.alloc (World.alloc (w1.drewN nq) _) _ = w2
  have HN := Lib.hid (newTS w1 w2 nq 71 47 hW.symm); clear hW
  have hb12 : Below w.heap.size w w2 := H1.out.1.trans (HN.out.1.mono H1.out.1.size)
  have hlt1 : w.heap.size < w1.heap.size := H1.out.2.2.2
  have hz2 : w2.heap.size = w1.heap.size + 2 := HN.out.2.1
  have hcb : cb < w.heap.size := at_lt Hc.out (by simp [cVals])
  refine (init_calls hm Hk.out Hn.out (Hc.out.below hb12) (Hs.out.below hb12) HN.out.2.2.2.2.1 HN.out.2.2.2.2.2 (by omega) (notAt_new Hs.out (by omega))).mono ?_
  have HB := Lib.hid hb12; clear hb12
  rintro e w3 ⟨rfl, hc3, ha3⟩
  have H3 := Lib.hid hc3; clear hc3
  have HA3 := Lib.hid ha3; clear ha3
  go_wp2_with (fail)
  have hb13 : Below w.heap.size w w3 := chg_below ((Chg.of_below HB.out).trans H3.out) (by simp; omega)
  refine (data_calls hm (by omega) rfl rfl rfl (Hc.out.below hb13) (Hd.out.below hb13) (notAt_new Hd.out (by omega)) HA3.out (H3.out.thaw (by omega) HN.out.2.2.2.2.2)).mono ?_
  have HB3 := Lib.hid hb13; clear hb13
  rintro e w4 ⟨rfl, hc4, ha4⟩
  have H4 := Lib.hid hc4; clear hc4
  have HA4 := Lib.hid ha4; clear ha4
  go_wp2_with (fail)
  have hch : Chg w2 w4 [(w1.heap.size + 1, 0, 5)] := H3.out.trans H4.out
  have hb14 : Below w.heap.size w w4 := chg_below (((Chg.of_below HB.out).trans H3.out).trans H4.out) (by simp; omega)
  have hz4 : At w4 w.heap.size 0 (zer c.length) := hch.at (H1.out.2.1.below HN.out.1) fun r hr => .inl (by rw [List.mem_singleton] at hr; subst hr; show w1.heap.size + 1 ≠ _; omega)
  have ht4 : Thaw w4 w.heap.size 0 c.length := hch.thaw (by omega) ((Chg.of_below (R := []) HN.out.1).thaw hlt1 H1.out.2.2.1)
  have hts4 : Thaw w4 (w1.heap.size + 1) 0 5 := hch.thaw (by omega) HN.out.2.2.2.2.2
  have htg4 : At w4 w1.heap.size 0 (zer 16) := hch.at HN.out.2.2.1 fun r hr => .inl (by rw [List.mem_singleton] at hr; subst hr; show w1.heap.size + 1 ≠ _; omega)
  have htt4 : Thaw w4 w1.heap.size 0 16 := hch.thaw (by omega) HN.out.2.2.2.1
  have hs4 : w2.heap.size ≤ w4.heap.size := hch.size
  have hout := outRow (k := 0) (n := c.length) (by exact hz4) (by exact ht4)
  have hsrc : SlV w (.slice (some ⟨sb, so, none⟩) c.length scap) (vals c) := .inr ⟨⟨sb, so, none⟩, scap, by rw [vals_length], by rw [vals_length]; omega, fun j x hx => by rw [Addr.add_lit]; exact Ht.out.1 j x hx⟩
  have htagv : SlV w (.slice (some ⟨sb, so + c.length, none⟩) 16 (scap - c.length)) (vals t) := .inr ⟨⟨sb, so + c.length, none⟩, scap - c.length, by rw [vals_length, H16.out], by rw [vals_length, H16.out]; omega, fun j x hx => by
    have := Ht.out.2 j x hx
    rw [vals_length] at this
    rw [Addr.add_lit]; exact this⟩
  refine (text_calls hm true (by omega) rfl rfl rfl (Hc.out.below hb14) ⟨hsrc.below hb14, hout, notAt_new hsrc (by omega), notAt_new hsrc (Nat.le_refl _), fun _ => by omega, HA4.out, hts4⟩).mono ?_
  have HB4 := Lib.hid hb14; clear hb14
  have HC4 := Lib.hid hch; clear hch
  have HTA := Lib.hid htg4; clear htg4
  have HTT := Lib.hid htt4; clear htt4
  have HT4 := Lib.hid ht4; clear ht4
  have HS4 := Lib.hid hts4; clear hts4
  have HTV := Lib.hid htagv; clear htagv
  clear hout hz4 hsrc
  rintro e w5 ⟨rfl, hc5, ha5, ho5⟩
  have H5 := Lib.hid hc5; clear hc5
  have HA5 := Lib.hid ha5; clear ha5
  have HO5 := Lib.hid ho5; clear ho5
  go_wp2_with (fail)
  have hb25 : Below w1.heap.size w1 w2 := HN.out.1
  have hch : Chg w w5 [(w1.heap.size + 1, 0, 5), (w.heap.size, 0, c.length)] := (chg_sub ((Chg.of_below HB.out).trans HC4.out) fun r hr => by rw [List.mem_singleton] at hr; subst hr; exact List.mem_cons_self ..).trans H5.out
  have hb15 : Below w.heap.size w w5 := chg_below hch fun r hr => by
    simp only [List.mem_cons, List.not_mem_nil, or_false] at hr
    rcases hr with rfl | rfl
    · show w.heap.size ≤ w1.heap.size + 1; omega
    · exact Nat.le_refl _
  have htg : At w5 w1.heap.size 0 (zer 16) := H5.out.at HTA.out fun r hr => by
    simp only [List.mem_cons, List.not_mem_nil, or_false] at hr
    rcases hr with rfl | rfl
    · exact .inl (by show w1.heap.size + 1 ≠ _; omega)
    · exact .inl (by show w.heap.size ≠ _; omega)
  have htt : Thaw w5 w1.heap.size 0 16 := H5.out.thaw (by omega) HTT.out
  have hs5 : w4.heap.size ≤ w5.heap.size := H5.out.size
  refine (fin_calls hm Hk.out (Hc.out.below hb15) htg (by simp [zer]) (fun x hx => by rw [(List.mem_replicate.1 hx).2]; rfl) htt (Nat.le_refl _) HA5.out (H5.out.thaw (by omega) HS4.out) (by omega) (by omega) (by omega)).mono ?_
  have HC5 := Lib.hid hch; clear hch
  have HB5 := Lib.hid hb15; clear hb15
  clear htg htt hb25
  rintro e w6 ⟨rfl, hc6, ho6⟩
  have H6 := Lib.hid hc6; clear hc6
  have HO6 := Lib.hid ho6; clear ho6
  go_wp2_with (fail)
  have hs6 : w5.heap.size ≤ w6.heap.size := H6.out.size
  have hb16 : Below w.heap.size w w6 := chg_below (R := [(w1.heap.size + 1, 0, 5), (w.heap.size, 0, c.length), (w1.heap.size, 0, 16)]) ((chg_sub HC5.out fun r hr => by
    simp only [List.mem_cons, List.not_mem_nil, or_false] at hr ⊢
    rcases hr with rfl | rfl
    · exact .inl rfl
    · exact .inr (.inl rfl)).trans (chg_sub H6.out fun r hr => by
    simp only [List.mem_cons, List.not_mem_nil, or_false] at hr ⊢
    rcases hr with rfl | rfl
    · exact .inl rfl
    · exact .inr (.inr rfl))) fun r hr => by
    simp only [List.mem_cons, List.not_mem_nil, or_false] at hr
    rcases hr with rfl | rfl | rfl
    · show w.heap.size ≤ w1.heap.size + 1; omega
    · exact Nat.le_refl _
    · show w.heap.size ≤ w1.heap.size; omega
  have hrow6 : At w6 w.heap.size 0 (vals (crypt (mdOf m) true (dataSt (mdOf m) (beginS m key nonce) data) c).1) := H6.out.at HO5.out fun r hr => by
    simp only [List.mem_cons, List.not_mem_nil, or_false] at hr
    rcases hr with rfl | rfl
    · exact .inl (by show w1.heap.size + 1 ≠ _; omega)
    · exact .inl (by show w1.heap.size ≠ _; omega)
  have HR6 := Lib.hid hrow6; clear hrow6
  refine (ctc_calls H16.out (tagS_length ..) (HTV.out.below hb16) (b := tagS m key (crypt (mdOf m) true (dataSt (mdOf m) (beginS m key nonce) data) c).2) (.inr ⟨⟨w1.heap.size, 0, none⟩, 16, rfl, Nat.le_refl _, fun j x hx => by rw [Addr.add_lit]; exact HO6.out j x hx⟩)).mono ?_
  have HB6 := Lib.hid hb16; clear hb16
  rintro e w7 ⟨rfl, hb7⟩
  have hz6 : w.heap.size < w6.heap.size := by omega
  have HB7 := Lib.hid hb7; clear hb7
  by_cases he : t = tagS m key (crypt (mdOf m) true (dataSt (mdOf m) (beginS m key nonce) data) c).2
  · rw [if_pos he]
    have He := Lib.hid he; clear he
    go_wp2_with (fail)
    go_ret2
    refine ⟨fun _ => ⟨w.heap.size, rfl, HB6.out.trans (HB7.out.mono HB6.out.size), Nat.le_refl _, HR6.out.below HB7.out⟩, fun h => absurd He.out h⟩
  · rw [if_neg he]
    have He := Lib.hid he; clear he
    go_wp2_with (fail)
    rw [run_clear h0 (by rw [vals_length, crypt_length]) (HR6.out.below HB7.out) ((Chg.of_below (R := []) HB7.out).thaw hz6 (H6.out.thaw (by omega) (H5.out.thaw (by omega) HT4.out)))]
    have HB8 := Lib.hid (below_cells w.heap.size (Nat.le_refl _) (List.replicate c.length (.int .u8 0)) 0 w7 (HB6.out.trans (HB7.out.mono HB6.out.size)))
    generalize w7.setCells w.heap.size 0 _ = w8 at HB8 ⊢
    have hE : w8.cell? ⟨1, 0, none⟩ = some (.iface 91 (.pointer (some ea))) := (HB8.out.cell (p := ⟨1, 0, none⟩) (cell_lt He1.out)).trans He1.out
    go_wp2_with (fail)
    go_quiet (fail)
    go_wp2_with (fail)
    go_ret2
    exact ⟨fun h => absurd h He.out, fun _ => ⟨_, ⟨ea, rfl⟩, rfl, HB8.out.trans ⟨rfl, rfl, rfl, Nat.le_refl _, fun _ _ => rfl⟩⟩⟩
end Go.Proofs.YtfilandehjmikaaDoor.Asc
namespace Go.Proofs.YtfilandehjmikaaDoor.Asc
open Go.RowKit Go.Proofs.YtfilandehjmikaaDoor.Sx

def OpenZ (w : World) (m : Nat) (key nonce t data : List B8) (e : Ending) (w' : World) : Prop :=
  (t = tagS m key (crypt (mdOf m) true (dataSt (mdOf m) (beginS m key nonce) data) []).2 → e = .returned (.tuple #[.slice none 0 0, .nilIface]) ∧ Below w.heap.size w w') ∧
  (t ≠ tagS m key (crypt (mdOf m) true (dataSt (mdOf m) (beginS m key nonce) data) []).2 → OShort w e w')
set_option maxHeartbeats 1000000 in
theorem open_zero {m : Nat} (hm : m ≤ 2) {key nonce data t : List B8} (hk : key.length = klen m) (hn : nonce.length = 16) (h16 : t.length = 16) (hdl : data.length ≤ 1048576) {w : World} {cb co ncap sb so scap : Nat} {na : Option Addr} {dv : Value} {ea : Addr} (he1 : w.cell? ⟨1, 0, none⟩ = some (.iface 91 (.pointer (some ea))))
    (hc : At w cb co (cVals m key)) (hs : SlV w (.slice na 16 ncap) (vals nonce)) (ht : At w sb so (vals t)) (hcap : 16 ≤ scap) (hd : SlV w dv (vals data)) :
    Calls Tryd.prog 29 #[ptrTo cb co, .slice none 0 0, .slice na 16 ncap, .slice (some ⟨sb, so, none⟩) 16 scap, dv] w (OpenZ w m key nonce t data) := by
  have He1 := Lib.hid he1; clear he1
  have Hk := Lib.hid hk; clear hk
  have Hn := Lib.hid hn; clear hn
  have Hc := Lib.hid hc; clear hc
  have Hs := Lib.hid hs; clear hs
  have Ht := Lib.hid ht; clear ht
  have Hd := Lib.hid hd; clear hd
  have H16 := Lib.hid h16; clear h16
  go_enter Tryd.func29, Tryd.ntmps29
  go_wp2_with (fail)
  refine sfa_nil.mono ?_
  rintro e w1 ⟨rfl, rfl⟩
  go_wp2_with (fail)
  go_quiet (fail)
  go_wp2_with (fail)
  generalize hW : World.alloc (World.alloc (w.drewN nq) _) _ = w2
  have HN := Lib.hid (newTS w w2 nq 71 47 hW.symm); clear hW
  have hb12 : Below w.heap.size w w2 := HN.out.1
  have hz2 : w2.heap.size = w.heap.size + 2 := HN.out.2.1
  have hcb : cb < w.heap.size := at_lt Hc.out (by simp [cVals])
  refine (init_calls hm Hk.out Hn.out (Hc.out.below hb12) (Hs.out.below hb12) HN.out.2.2.2.2.1 HN.out.2.2.2.2.2 (by omega) (notAt_new Hs.out (by omega))).mono ?_
  have HB := Lib.hid hb12; clear hb12
  rintro e w3 ⟨rfl, hc3, ha3⟩
  have H3 := Lib.hid hc3; clear hc3
  have HA3 := Lib.hid ha3; clear ha3
  go_wp2_with (fail)
  have hb13 : Below w.heap.size w w3 := chg_below ((Chg.of_below HB.out).trans H3.out) (by simp)
  refine (data_calls hm (by omega) rfl rfl rfl (Hc.out.below hb13) (Hd.out.below hb13) (notAt_new Hd.out (by omega)) HA3.out (H3.out.thaw (by omega) HN.out.2.2.2.2.2)).mono ?_
  have HB3 := Lib.hid hb13; clear hb13
  rintro e w4 ⟨rfl, hc4, ha4⟩
  have H4 := Lib.hid hc4; clear hc4
  have HA4 := Lib.hid ha4; clear ha4
  go_wp2_with (fail)
  have hch : Chg w2 w4 [(w.heap.size + 1, 0, 5)] := H3.out.trans H4.out
  have hb14 : Below w.heap.size w w4 := chg_below (((Chg.of_below HB.out).trans H3.out).trans H4.out) (by simp)
  have hts4 : Thaw w4 (w.heap.size + 1) 0 5 := hch.thaw (by omega) HN.out.2.2.2.2.2
  have htg4 : At w4 w.heap.size 0 (zer 16) := hch.at HN.out.2.2.1 fun r hr => .inl (by rw [List.mem_singleton] at hr; subst hr; show w.heap.size + 1 ≠ _; omega)
  have htt4 : Thaw w4 w.heap.size 0 16 := hch.thaw (by omega) HN.out.2.2.2.1
  have hs4 : w2.heap.size ≤ w4.heap.size := hch.size
  have hsrc : SlV w (.slice (some ⟨sb, so, none⟩) 0 scap) (vals []) := .inr ⟨⟨sb, so, none⟩, scap, rfl, Nat.zero_le _, fun j x hx => nomatch hx⟩
  have htagv : SlV w (.slice (some ⟨sb, so, none⟩) 16 scap) (vals t) := .inr ⟨⟨sb, so, none⟩, scap, by rw [vals_length, H16.out], by rw [vals_length, H16.out]; omega, fun j x hx => by
    have := Ht.out j x hx
    rw [Addr.add_lit]; exact this⟩
  refine (text_calls (ob := w.heap.size) (oo := 0) hm true (Nat.zero_le _) rfl rfl rfl (Hc.out.below hb14) ⟨hsrc.below hb14, .inl ⟨rfl, .inl ⟨rfl, rfl⟩⟩, notAt_new hsrc (by omega), notAt_new hsrc (Nat.le_refl _), fun h => absurd rfl h, HA4.out, hts4⟩).mono ?_
  have HB4 := Lib.hid hb14; clear hb14
  have HC4 := Lib.hid hch; clear hch
  have HTA := Lib.hid htg4; clear htg4
  have HTT := Lib.hid htt4; clear htt4
  have HS4 := Lib.hid hts4; clear hts4
  have HTV := Lib.hid htagv; clear htagv
  clear hsrc
  rintro e w5 ⟨rfl, hc5, ha5, ho5⟩
  have H5 := Lib.hid hc5; clear hc5
  have HA5 := Lib.hid ha5; clear ha5
  have HO5 := Lib.hid ho5; clear ho5
  go_wp2_with (fail)
  have hch : Chg w w5 [(w.heap.size + 1, 0, 5), (w.heap.size, 0, 0)] := (chg_sub ((Chg.of_below HB.out).trans HC4.out) fun r hr => by rw [List.mem_singleton] at hr; subst hr; exact List.mem_cons_self ..).trans H5.out
  have hb15 : Below w.heap.size w w5 := chg_below hch fun r hr => by
    simp only [List.mem_cons, List.not_mem_nil, or_false] at hr
    rcases hr with rfl | rfl
    · show w.heap.size ≤ w.heap.size + 1; omega
    · exact Nat.le_refl _
  have htg : At w5 w.heap.size 0 (zer 16) := H5.out.at HTA.out fun r hr => by
    simp only [List.mem_cons, List.not_mem_nil, or_false] at hr
    rcases hr with rfl | rfl
    · exact .inl (by show w.heap.size + 1 ≠ _; omega)
    · exact .inr (.inl (Nat.le_refl _))
  have htt : Thaw w5 w.heap.size 0 16 := H5.out.thaw (by omega) HTT.out
  have hs5 : w4.heap.size ≤ w5.heap.size := H5.out.size
  refine (fin_calls hm Hk.out (Hc.out.below hb15) htg (by simp [zer]) (fun x hx => by rw [(List.mem_replicate.1 hx).2]; rfl) htt (Nat.le_refl _) HA5.out (H5.out.thaw (by omega) HS4.out) (by omega) (by omega) (by omega)).mono ?_
  have HC5 := Lib.hid hch; clear hch
  have HB5 := Lib.hid hb15; clear hb15
  clear htg htt
  rintro e w6 ⟨rfl, hc6, ho6⟩
  have H6 := Lib.hid hc6; clear hc6
  have HO6 := Lib.hid ho6; clear ho6
  go_wp2_with (fail)
  have hs6 : w5.heap.size ≤ w6.heap.size := H6.out.size
  have hb16 : Below w.heap.size w w6 := chg_below (R := [(w.heap.size + 1, 0, 5), (w.heap.size, 0, 0), (w.heap.size, 0, 16)]) ((chg_sub HC5.out fun r hr => by
    simp only [List.mem_cons, List.not_mem_nil, or_false] at hr ⊢
    rcases hr with rfl | rfl
    · exact .inl rfl
    · exact .inr (.inl rfl)).trans (chg_sub H6.out fun r hr => by
    simp only [List.mem_cons, List.not_mem_nil, or_false] at hr ⊢
    rcases hr with rfl | rfl
    · exact .inl rfl
    · exact .inr (.inr rfl))) fun r hr => by
    simp only [List.mem_cons, List.not_mem_nil, or_false] at hr
    rcases hr with rfl | rfl | rfl
    · show w.heap.size ≤ w.heap.size + 1; omega
    · exact Nat.le_refl _
    · show w.heap.size ≤ w.heap.size; omega
  refine (ctc_calls H16.out (tagS_length ..) (HTV.out.below hb16) (b := tagS m key (crypt (mdOf m) true (dataSt (mdOf m) (beginS m key nonce) data) []).2) (.inr ⟨⟨w.heap.size, 0, none⟩, 16, rfl, Nat.le_refl _, fun j x hx => by rw [Addr.add_lit]; exact HO6.out j x hx⟩)).mono ?_
  have HB6 := Lib.hid hb16; clear hb16
  rintro e w7 ⟨rfl, hb7⟩
  have hz6 : w.heap.size < w6.heap.size := by omega
  have HB7 := Lib.hid hb7; clear hb7
  by_cases he : t = tagS m key (crypt (mdOf m) true (dataSt (mdOf m) (beginS m key nonce) data) []).2
  · rw [if_pos he]
    have He := Lib.hid he; clear he
    go_wp2_with (fail)
    go_ret2
    exact ⟨fun _ => ⟨rfl, HB6.out.trans (HB7.out.mono HB6.out.size)⟩, fun h => absurd He.out h⟩
  · rw [if_neg he]
    have He := Lib.hid he; clear he
    go_wp2_with (fail)
    rw [show Sem.run Tryd.prog (Builtin.clear_ #[22] 0 #[.slice none 0 0]) w7 = .ok (.tuple #[]) w7 by rfl]
    have HB8 := Lib.hid (HB6.out.trans (HB7.out.mono HB6.out.size))
    have hE : w7.cell? ⟨1, 0, none⟩ = some (.iface 91 (.pointer (some ea))) := (HB8.out.cell (p := ⟨1, 0, none⟩) (cell_lt He1.out)).trans He1.out
    go_wp2_with (fail)
    go_quiet (fail)
    go_wp2_with (fail)
    go_ret2
    exact ⟨fun h => absurd h He.out, fun _ => ⟨_, ⟨ea, rfl⟩, rfl, HB8.out.trans ⟨rfl, rfl, rfl, Nat.le_refl _, fun _ _ => rfl⟩⟩⟩
end Go.Proofs.YtfilandehjmikaaDoor.Asc
namespace Go.Proofs.YtfilandehjmikaaDoor.Asc
open Go.RowKit Go.Proofs.YtfilandehjmikaaDoor.Sx

def openCT (m : Nat) (key nonce c t data : List B8) : Option (List B8) :=
  if t = tagS m key (crypt (mdOf m) true (dataSt (mdOf m) (beginS m key nonce) data) c).2 then some (crypt (mdOf m) true (dataSt (mdOf m) (beginS m key nonce) data) c).1 else none
theorem openCT_seal (m : Nat) (key nonce text data : List B8) : openCT m key nonce (crypt (mdOf m) false (dataSt (mdOf m) (beginS m key nonce) data) text).1 (tagS m key (crypt (mdOf m) false (dataSt (mdOf m) (beginS m key nonce) data) text).2) data = some text := by
  unfold openCT
  rw [crypt_back, if_pos rfl]
theorem openCT_turned {m : Nat} {key nonce text data t : List B8} (h : t ≠ tagS m key (crypt (mdOf m) false (dataSt (mdOf m) (beginS m key nonce) data) text).2) : openCT m key nonce (crypt (mdOf m) false (dataSt (mdOf m) (beginS m key nonce) data) text).1 t data = none := by
  unfold openCT
  rw [crypt_back, if_neg h]
def OpenA (w : World) (m : Nat) (key nonce c t data : List B8) (e : Ending) (w' : World) : Prop :=
  match openCT m key nonce c t data with
  | some p => ∃ v, e = .returned (.tuple #[v, .nilIface]) ∧ Below w.heap.size w w' ∧ SlV w' v (vals p)
  | none => OShort w e w'
theorem open_calls {m : Nat} (hm : m ≤ 2) {key nonce data c t : List B8} (hk : key.length = klen m) (hn : nonce.length = 16) (h16 : t.length = 16) (hnl : c.length ≤ 1048576) (hdl : data.length ≤ 1048576) {w : World} {cb co ncap : Nat} {na : Option Addr} {v dv : Value} {ea : Addr} (he1 : w.cell? ⟨1, 0, none⟩ = some (.iface 91 (.pointer (some ea))))
    (hc : At w cb co (cVals m key)) (hs : SlV w (.slice na 16 ncap) (vals nonce)) (ht : SlV w v (vals (c ++ t))) (hd : SlV w dv (vals data)) :
    Calls Tryd.prog 29 #[ptrTo cb co, .slice none 0 0, .slice na 16 ncap, v, dv] w (OpenA w m key nonce c t data) := by
  obtain ⟨sb, so, scap, rfl, h2, ha, _⟩ := ht.cons (fun e => by have := congrArg List.length e; rw [vals_length, List.length_append, h16] at this; simp at this)
  rw [vals_length, List.length_append, h16] at h2 ⊢
  rw [vals_append] at ha
  rcases Nat.eq_zero_or_pos c.length with h0 | h0
  · obtain rfl := List.length_eq_zero_iff.1 h0
    rw [show ([] : List B8).length + 16 = 16 from rfl] at h2 ⊢
    refine (open_zero hm hk hn h16 hdl he1 hc hs ha h2 hd).mono fun e w' ⟨h3, h4⟩ => ?_
    unfold OpenA openCT
    split
    · rename_i p hp
      split at hp
      · rename_i hq
        obtain ⟨h5, h6⟩ := h3 hq
        cases hp
        refine ⟨_, h5, h6, .inl ⟨rfl, ?_⟩⟩
        rw [List.length_eq_zero_iff.1 (crypt_length (mdOf m) true [] _)]; rfl
      · cases hp
    · rename_i hp
      split at hp
      · cases hp
      · rename_i hq; exact h4 hq
  · refine (open_row hm hk hn h16 hnl h0 hdl he1 hc hs ha h2 hd).mono fun e w' ⟨h3, h4⟩ => ?_
    unfold OpenA openCT
    split
    · rename_i p hp
      split at hp
      · rename_i hq
        obtain ⟨g, h5, h6, _, h7⟩ := h3 hq
        cases hp
        refine ⟨_, h5, h6, ?_⟩
        have := SlV.mk (cap := c.length) h7 (by rw [vals_length, crypt_length]; exact Nat.le_refl _)
        rwa [vals_length, crypt_length] at this
      · cases hp
    · rename_i hp
      split at hp
      · cases hp
      · rename_i hq; exact h4 hq
end Go.Proofs.YtfilandehjmikaaDoor.Asc
namespace Go.Proofs.YtfilandehjmikaaDoor.Asc
open Go.RowKit Go.Proofs.YtfilandehjmikaaDoor.Sx

def IOpen (w : World) (m : Nat) (key nonce c t data : List B8) (e : Ending) (w' : World) : Prop :=
  match openCT m key nonce c t data with
  | some p => ∃ v, e = .returned (.tuple #[v, .bool true]) ∧ Below w.heap.size w w' ∧ SlV w' v (vals p)
  | none => e = .returned (.tuple #[.slice none 0 0, .bool false]) ∧ Below w.heap.size w w'
set_option maxHeartbeats 1000000 in
theorem iopen_calls {m : Nat} (hm : m ≤ 2) {key nonce data c t : List B8} (hk : key.length = klen m) (hn : nonce.length = 16) (h16 : t.length = 16) (hnl : c.length + 16 ≤ 1048576) (hdl : data.length ≤ 1048576) {w : World} {kv nv sv dv : Value} {ea : Addr} (h1 : w.cell? ⟨1, 0, none⟩ = some (.iface 91 (.pointer (some ea))))
    (hkv : SlV w kv (vals key)) (hs : SlV w nv (vals nonce)) (ht : SlV w sv (vals (c ++ t))) (hd : SlV w dv (vals data)) :
    Calls Tryd.prog 18 #[.int .i64 (m : Int), .slice none 0 0, kv, nv, sv, dv] w (IOpen w m key nonce c t data) := by
  obtain ⟨na, ncap, hnv⟩ := slV_shape hs
  rw [hn] at hnv
  subst hnv
  have h20 := klen_le m
  obtain ⟨n, hln⟩ : ∃ n, (c ++ t).length = n := ⟨_, rfl⟩
  have hnm : n ≤ 1048576 := by rw [← hln, List.length_append, h16]; exact hnl
  have HLN := Lib.hid hln; clear hln
  have Hs := Lib.hid hs; clear hs
  have Ht := Lib.hid ht; clear ht
  have Hd := Lib.hid hd; clear hd
  have Hkv := Lib.hid hkv; clear hkv
  have Hk := Lib.hid hk; clear hk
  have Hn := Lib.hid hn; clear hn
  have H16 := Lib.hid h16; clear h16
  have H1 := Lib.hid h1; clear h1
  go_enter Tryd.func18, Tryd.ntmps18
  go_wp2_with (fail)
  refine (cipher_calls hm Hk.out Hkv.out).mono ?_
  rintro e w1 ⟨cb, co, rfl, hb1, hcb, hc1⟩
  have HB1 := Lib.hid hb1; have HC1 := Lib.hid hc1; clear hb1 hc1 hcb
  go_wp2_with (fail)
  refine clone_nil.mono ?_
  rintro e w2 ⟨rfl, hb2⟩
  have B2 := Lib.hid hb2
  have HB2 := Lib.hid (HB1.out.trans (hb2.mono HB1.out.size)); clear hb2
  go_wp2_with (fail)
  refine (clone_n Hn.out (by decide) (Hs.out.below HB2.out)).mono ?_
  rintro e w3 ⟨na', ncap', rfl, hb3, hs3⟩
  have B3 := Lib.hid hb3; have S3 := Lib.hid hs3; clear hs3
  have HB3 := Lib.hid (HB2.out.trans (hb3.mono HB2.out.size)); clear hb3
  go_wp2_with (fail)
  refine (clone_n HLN.out hnm (Ht.out.below HB3.out)).mono ?_
  rintro e w4 ⟨ta', tcap', rfl, hb4, hs4⟩
  have B4 := Lib.hid hb4; have S4 := Lib.hid hs4; clear hs4
  have HB4 := Lib.hid (HB3.out.trans (hb4.mono HB3.out.size)); clear hb4
  go_wp2_with (fail)
  refine (clone_sl hdl (Hd.out.below HB4.out)).mono ?_
  rintro e w5 ⟨da', dcap', rfl, hb5, hs5⟩
  have B5 := Lib.hid hb5; have S5 := Lib.hid hs5; clear hs5
  have HB5 := Lib.hid (HB4.out.trans (hb5.mono HB4.out.size)); clear hb5
  go_wp2_with (fail)
  refine (open_calls (ea := ea) hm Hk.out Hn.out H16.out (by omega) hdl ((HB5.out.cell (p := ⟨1, 0, none⟩) (cell_lt H1.out)).trans H1.out) ((((HC1.out.below B2.out).below B3.out).below B4.out).below B5.out) ((S3.out.below B4.out).below B5.out) (S4.out.below B5.out) S5.out).mono ?_
  rintro e w6 h6
  unfold OpenA at h6
  cases ho : openCT m key nonce c t data with
  | some p =>
    rw [ho] at h6
    obtain ⟨v, rfl, hb6, hv⟩ := h6
    have HB6 := Lib.hid (HB5.out.trans (hb6.mono HB5.out.size)); clear hb6
    have HV := Lib.hid hv; clear hv
    have HO := Lib.hid ho; clear ho
    go_wp2_with (fail)
    go_ret2
    unfold IOpen
    rw [HO.out]
    exact ⟨v, rfl, HB6.out, HV.out⟩
  | none =>
    rw [ho] at h6
    obtain ⟨x, ⟨a, rfl⟩, rfl, hb6⟩ := h6
    have HB6 := Lib.hid (HB5.out.trans (hb6.mono HB5.out.size)); clear hb6
    have HO := Lib.hid ho; clear ho
    go_wp2_with (fail)
    go_ret2
    unfold IOpen
    rw [HO.out]
    exact ⟨rfl, HB6.out⟩
end Go.Proofs.YtfilandehjmikaaDoor.Asc
