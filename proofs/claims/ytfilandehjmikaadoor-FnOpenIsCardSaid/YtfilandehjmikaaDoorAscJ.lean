/- The code's cipher, initialize and finalize as contracts. No condition. -/
import Derived.Test.YtfilandehjmikaaDoorAscI
namespace Go.Proofs.YtfilandehjmikaaDoor.Asc
open Go.RowKit Go.Proofs.YtfilandehjmikaaDoor.Sx

def ciphA (m : Nat) : List AC := wsA [k0T m, k1T m, k2T m] ++ [.v (.int .i64 (cmode m))]
def ciphB (m : Nat) : List AC := match m with
  | 2 => ciphA m
  | _ => [.v (.int .u64 0), .w .u64 (k1T m), .w .u64 (k2T m), .v (.int .i64 (cmode m))]
def tagG (m : Nat) : Cfg := match m with
  | 2 => { r := [(.or (.shl (k0T 2) 32) (.shr (k1T 2) 32), cat8T byT 0), (.or (.shl (k1T 2) 32) (.shr (k2T 2) 32), cat8T byT 8), (.shl (k2T 2) 32, mkCat ⟨byT 16, byT 17, byT 18, byT 19, .k 0, .k 0, .k 0, .k 0⟩)] }
  | _ => {}
theorem tagG_g (m : Nat) : (tagG m).g = [] := by unfold tagG; split <;> rfl
noncomputable def iniOk (m : Nat) : Bool :=
  endsF [] [roB (ciphA m), roB (win 20 16), rwB (wsA (beginT m))]
    (runF Tryd.prog {} (KC {}) 100 32 [.c (.ptr 0 0), .c (.slc 1 0 0 ⟨0, 16⟩ ⟨201, 16⟩), .c (.ptr 2 0)] [roB (ciphA m), roB (win 20 16), rwB (wsA [sT 0, sT 1, sT 2, sT 3, sT 4])])
theorem ini_all : ([0, 1, 2].all iniOk) = true := by kernel_rfl
noncomputable def finOk (m : Nat) : Bool :=
  endsF [] [roB (ciphA m), rwB (tagA m), rwB (permA 12 (preT m))]
    (runF Tryd.prog (tagG m) (KC (tagG m)) 100 35 [.c (.ptr 0 0), .c (.slc 1 0 0 ⟨0, 16⟩ ⟨201, 16⟩), .c (.ptr 2 0)] [roB (ciphA m), rwB (oldA 16), rwB (wsA [sT 0, sT 1, sT 2, sT 3, sT 4])])
theorem fin_all : ([0, 1, 2].all finOk) = true := by kernel_rfl
def mkG (m : Nat) : Cfg := { so := [(0, 0, win 0 (klen m))] }
def fsM : List FuncId := [24, 30, 42, 43, 46]
noncomputable def mkOk (m : Nat) : Bool :=
  endsF [.v (.c (.ptr 4 0)), .v (.c (.v (.bool true)))] [⟨[], true, false, true, 0, true⟩, capMB, newMB 0 (win 0 (klen m)), capMB, owB (ciphB m)]
    (runF Tryd.prog (mkG m) (callN Tryd.prog (mkG m) noK fsM 100 4) 100 20 [.c (.v (.int .i64 (m : Int))), .c (.o 0)] [])
theorem mk_all : ([0, 1, 2].all mkOk) = true := by kernel_rfl
theorem in3 {m : Nat} (hm : m ≤ 2) : m ∈ [0, 1, 2] := by simp; omega
theorem shl32 (a b c d e f g h : BitVec 64) : catOf a b c d e f g h <<< 32 = catOf e f g h 0 0 0 0 := bv_ext fun j hj => by
  rw [BitVec.getLsbD_shiftLeft, catOf_bit _ _ _ _ _ _ _ _ _ hj]
  by_cases h32 : j < 32
  · have hq : j / 8 = 0 ∨ j / 8 = 1 ∨ j / 8 = 2 ∨ j / 8 = 3 := by omega
    rcases hq with hq | hq | hq | hq <;> rw [hq] <;> simp [h32, sel8]
  · rw [catOf_bit _ _ _ _ _ _ _ _ _ (by omega : j - 32 < 64), show (j - 32) % 8 = j % 8 by omega]
    have hq : j / 8 = 4 ∨ j / 8 = 5 ∨ j / 8 = 6 ∨ j / 8 = 7 := by omega
    rcases hq with hq | hq | hq | hq
    · rw [hq, show (j - 32) / 8 = 0 by omega]; simp [h32, hj, sel8]
    · rw [hq, show (j - 32) / 8 = 1 by omega]; simp [h32, hj, sel8]
    · rw [hq, show (j - 32) / 8 = 2 by omega]; simp [h32, hj, sel8]
    · rw [hq, show (j - 32) / 8 = 3 by omega]; simp [h32, hj, sel8]
theorem shr32 (a b c d e f g h : BitVec 64) : catOf a b c d e f g h >>> 32 = catOf 0 0 0 0 a b c d := bv_ext fun j hj => by
  rw [BitVec.getLsbD_ushiftRight, catOf_bit _ _ _ _ _ _ _ _ _ hj]
  by_cases h32 : j < 32
  · rw [catOf_bit _ _ _ _ _ _ _ _ _ (by omega : 32 + j < 64), show (32 + j) % 8 = j % 8 by omega]
    have hq : j / 8 = 0 ∨ j / 8 = 1 ∨ j / 8 = 2 ∨ j / 8 = 3 := by omega
    rcases hq with hq | hq | hq | hq
    · rw [hq, show (32 + j) / 8 = 4 by omega]; rfl
    · rw [hq, show (32 + j) / 8 = 5 by omega]; rfl
    · rw [hq, show (32 + j) / 8 = 6 by omega]; rfl
    · rw [hq, show (32 + j) / 8 = 7 by omega]; rfl
  · have hq : j / 8 = 4 ∨ j / 8 = 5 ∨ j / 8 = 6 ∨ j / 8 = 7 := by omega
    rw [BitVec.getLsbD_of_ge _ _ (by omega)]
    rcases hq with hq | hq | hq | hq <;> rw [hq] <;> simp [sel8]
theorem tagG_ok {E : Env} (hE : EnvOk E) {w : World} (m : Nat) : CfgOk Tryd.prog E w (tagG m) := by
  unfold tagG
  split
  · refine cfgOk0 hE fun p hp => ?_
    simp only [List.mem_cons, List.not_mem_nil, or_false] at hp
    have hk0 : (k0T 2).den E = catOf 0 0 0 0 ((byT 0).den E) ((byT 1).den E) ((byT 2).den E) ((byT 3).den E) := by
      show (mkCat ⟨.k 0, .k 0, .k 0, .k 0, byT 0, byT 1, byT 2, byT 3⟩ : T).den E = _
      rw [mkCat_den]; rfl
    have hc : ∀ o, (cat8T byT o).den E = catOf ((byT o).den E) ((byT (o + 1)).den E) ((byT (o + 2)).den E) ((byT (o + 3)).den E) ((byT (o + 4)).den E) ((byT (o + 5)).den E) ((byT (o + 6)).den E) ((byT (o + 7)).den E) := fun o => by unfold cat8T; rw [mkCat_den]; rfl
    have hk1 : (k1T 2).den E = _ := hc 4
    have hk2 : (k2T 2).den E = _ := hc 12
    rcases hp with rfl | rfl | rfl
    · simp only [T.den, hk0, hk1, hc, shl32, shr32, ← catOf_or]
      simp
    · simp only [T.den, hk1, hk2, hc, shl32, shr32, ← catOf_or]
      simp
    · rw [mkCat_den]
      simp only [T.den, hk2, shl32]
      rfl
  · exact cfgOk0 (r := []) hE fun p hp => nomatch hp
theorem ciphA_den {E : Env} {s : St} {key nonce : List B8} (h : SymOk E s (kn key nonce)) (hk : key.length ≤ 20) (m : Nat) (bl : Bl) : (ciphA m).map (AC.den E bl) = cVals m key := by
  simp only [ciphA, wsA, List.map, List.cons_append, List.nil_append, AC.den, k0_den h hk, k1_den h hk, k2_den h hk, cVals]
theorem ciphB_den {E : Env} {s : St} {key nonce : List B8} (h : SymOk E s (kn key nonce)) (hk : key.length ≤ 20) (m : Nat) (bl : Bl) : (ciphB m).map (AC.den E bl) = cVals m key := by
  unfold ciphB
  split
  · exact ciphA_den h hk 2 bl
  · rename_i h2
    simp only [List.map, AC.den, k1_den h hk, k2_den h hk, cVals]
    congr 2
    unfold k0W
    split
    · exact absurd rfl h2
    · rfl
theorem winK {E : Env} {s : St} {key nonce : List B8} (h : SymOk E s (kn key nonce)) {m : Nat} (hk : key.length = klen m) (bl : Bl) : (win 0 (klen m)).map (AC.den E bl) = vals key := by
  have h20 := klen_le m
  apply List.ext_getElem?
  intro j
  simp only [win, vals, List.map_map, List.getElem?_map]
  by_cases hj : j < klen m
  · rw [List.getElem?_range hj, List.getElem?_eq_getElem (by omega)]
    simp only [Option.map_some, Function.comp, Nat.zero_add]
    congr 1
    refine byte_val bl ((key_den h (by omega) (by omega)).trans ?_)
    rw [List.getD, List.getElem?_eq_getElem (by omega)]; rfl
  · rw [List.getElem?_eq_none (by simpa using hj), List.getElem?_eq_none (by omega)]; rfl
theorem winN {E : Env} {s : St} {key nonce : List B8} (h : SymOk E s (kn key nonce)) (hk : key.length ≤ 20) (hn : nonce.length = 16) (bl : Bl) : (win 20 16).map (AC.den E bl) = vals nonce := by
  apply List.ext_getElem?
  intro j
  simp only [win, vals, List.map_map, List.getElem?_map]
  by_cases hj : j < 16
  · rw [List.getElem?_range hj, List.getElem?_eq_getElem (by omega)]
    simp only [Option.map_some, Function.comp]
    congr 1
    refine byte_val bl ((byT_den h (by omega)).trans ?_)
    rw [kn_nonce hk, List.getD, List.getElem?_eq_getElem (by omega)]; rfl
  · rw [List.getElem?_eq_none (by simpa using hj), List.getElem?_eq_none (by omega)]; rfl
theorem entsM : ∀ f ∈ fsM, Enters Tryd.prog f := fun f hf => by
  simp only [fsM, List.mem_cons, List.not_mem_nil, or_false] at hf
  rcases hf with rfl | rfl | rfl | rfl | rfl <;> exact fun _ _ => by kernel_rfl
/-- A cipher is made. -/
theorem cipher_calls {m : Nat} (hm : m ≤ 2) {key : List B8} (hk : key.length = klen m) {w : World} {v : Value} (hs : SlV w v (vals key)) :
    Calls Tryd.prog 20 #[.int .i64 (m : Int), v] w fun e w' => ∃ cb co, e = .returned (.tuple #[ptrTo cb co, .bool true]) ∧ Below w.heap.size w w' ∧ w.heap.size ≤ cb ∧ At w' cb co (cVals m key) := by
  have h20 := klen_le m
  have hE0 := envA_ok (st := ⟨0, 0, 0, 0, 0⟩) (blk := kn key []) (rows := rowsN 0 0 0) (vl := vl1 v (.slice none 0 0)) (vl1_one (slV_one hs) rfl) (rowsN_le (by decide)) rowsN_one
  have hsym : SymOk (envA ⟨0, 0, 0, 0, 0⟩ (kn key []) (rowsN 0 0 0) (vl1 v (.slice none 0 0))) ⟨0, 0, 0, 0, 0⟩ (kn key []) := envA_sym
  have e0 : (envA ⟨0, 0, 0, 0, 0⟩ (kn key []) (rowsN 0 0 0) (vl1 v (.slice none 0 0))).vl 0 = v := rfl
  generalize envA ⟨0, 0, 0, 0, 0⟩ (kn key []) (rowsN 0 0 0) (vl1 v (.slice none 0 0)) = E at hE0 hsym e0
  have hG : CfgOk Tryd.prog E w (mkG m) := ⟨hE0, (fun p hp => nomatch hp), (fun p hp => nomatch hp), (fun p hp => nomatch hp), (fun p hp => by
    have hp' : p = (0, 0, win 0 (klen m)) := by simpa [mkG] using hp
    subst hp'
    refine ⟨win_wf _ _ _, ?_⟩
    show SlV w (E.vl 0) ([] ++ (win 0 (klen m)).map _)
    rw [List.nil_append, winK hsym hk, e0]
    exact hs), (fun p hp => nomatch hp), (fun p hp => nomatch hp)⟩
  have hrun := List.all_eq_true.1 mk_all m (in3 hm)
  have := fn_calls (bl := fun _ => (0, 0)) hG (callN_sound hG noK_ok mix entsM 4) mix hrun (MRel.nil E _ w) gok0 rfl
  rw [show ([.c (.v (.int .i64 (m : Int))), .c (.o 0)] : List A1).map (A1.den E fun _ => (0, 0)) = [.int .i64 (m : Int), v] by simp only [List.map, A1.den, AC.den, e0]] at this
  refine this.mono fun e w' ⟨bl', vs, he, hr, _, hm'⟩ => ?_
  cases hr with
  | cons h1 hr => cases hr with
    | cons h2 hr => cases hr with
      | nil =>
        simp only [RS.ok, A1.den, AC.den] at h1 h2
        subst h1; subst h2
        refine ⟨(bl' 4).1, (bl' 4).2, he, (hm'.chg (R := []) fun i b hi hr => ?_).below, hm'.new 4 (owB (ciphB m)) rfl rfl, ?_⟩
        · match i, hi with
          | 0, hi => cases hi; exact .inl rfl
          | 1, hi => cases hi; cases hr
          | 2, hi => cases hi; exact .inl rfl
          | 3, hi => cases hi; cases hr
          | 4, hi => cases hi; exact .inl rfl
          | i + 5, hi => exact nomatch hi
        · have := hm'.at (i := 4) (b := owB (ciphB m)) rfl rfl
          rw [← ciphB_den hsym (by omega) m bl']
          exact this
theorem startRRW {E : Env} {w : World} {x y z : Nat × Nat} {p q s : List AC} (hp : p.all (AC.wf 0) = true) (hq : q.all (AC.wf 0) = true) (hs : s.all (AC.wf 0) = true) (h1 : x.1 < w.heap.size) (h2 : y.1 < w.heap.size) (h3 : z.1 < w.heap.size)
    (a1 : At w x.1 x.2 (p.map (AC.den E (bl3 x y z)))) (a2 : At w y.1 y.2 (q.map (AC.den E (bl3 x y z)))) (a3 : At w z.1 z.2 (s.map (AC.den E (bl3 x y z)))) (t3 : Thaw w z.1 z.2 s.length)
    (n13 : z.1 ≠ x.1) (n23 : z.1 ≠ y.1) : MRel E (bl3 x y z) w [roB p, roB q, rwB s] w := by
  refine MRel.lits (fun i b hi => ?_) (fun i k bi bk hik hi hk hr => ?_)
  · match i, hi with
    | 0, hi => cases hi; exact ⟨rfl, rfl, rfl, hp, h1, a1, fun h => nomatch h⟩
    | 1, hi => cases hi; exact ⟨rfl, rfl, rfl, hq, h2, a2, fun h => nomatch h⟩
    | 2, hi => cases hi; exact ⟨rfl, rfl, rfl, hs, h3, a3, fun _ => t3⟩
    | i + 3, hi => exact nomatch hi
  · match i, k, hi, hk with
    | 0, _, hi, _ => cases hi; cases hr
    | 1, _, hi, _ => cases hi; cases hr
    | 2, 0, hi, hk => exact .inl n13
    | 2, 1, hi, hk => exact .inl n23
    | 2, 2, _, _ => exact absurd rfl hik
    | 2, k + 3, _, hk => exact nomatch hk
    | i + 3, _, hi, _ => exact nomatch hi
theorem rsNil {E : Env} {w0 w : World} {bl : Bl} {m : List MB} {vs : List Value} (h : RsAll E w0 w bl m [] vs) : packV vs = .tuple #[] := by cases h; rfl
theorem init_calls {m : Nat} (hm : m ≤ 2) {key nonce : List B8} (hk : key.length = klen m) (hn : nonce.length = 16) {w : World} {cb co sb so : Nat} {v : Value} {st : St} (hc : At w cb co (cVals m key)) (hs : SlV w v (vals nonce)) (ha : At w sb so st.vals) (ht : Thaw w sb so 5)
    (hcs : cb ≠ sb) (hns : NotAt v sb) :
    Calls Tryd.prog 32 #[ptrTo cb co, v, ptrTo sb so] w fun e w' => e = .returned (.tuple #[]) ∧ Chg w w' [(sb, so, 5)] ∧ At w' sb so (beginS m key nonce).vals := by
  have h20 := klen_le m
  obtain ⟨nb, no, cap, rfl, hle, hat, hnb⟩ := hs.cons (fun e => by have := congrArg List.length e; rw [vals_length, hn] at this; cases this)
  rw [vals_length, hn] at hle
  have hne : sb ≠ nb := Ne.symm (hns nb no _ cap rfl (by rw [vals_length, hn]; decide))
  have hE0 := envA_ok (st := st) (blk := kn key nonce) (rows := rowsN 0 (cap - 16) 0) (vl := vl1 (.slice none 0 0) (.slice none 0 0)) (vl1_one rfl rfl) (rowsN_le (by decide)) rowsN_one
  have hsym : SymOk (envA st (kn key nonce) (rowsN 0 (cap - 16) 0) (vl1 (.slice none 0 0) (.slice none 0 0))) st (kn key nonce) := envA_sym
  have hap : ApOk (envA st (kn key nonce) (rowsN 0 (cap - 16) 0) (vl1 (.slice none 0 0) (.slice none 0 0))) := envA_ap
  have n2 : (envA st (kn key nonce) (rowsN 0 (cap - 16) 0) (vl1 (.slice none 0 0) (.slice none 0 0))).nm 200 = cap - 16 := by simp [envA, rowsN, repl]
  generalize envA st (kn key nonce) (rowsN 0 (cap - 16) 0) (vl1 (.slice none 0 0) (.slice none 0 0)) = E at hE0 hsym hap n2
  have hG : CfgOk Tryd.prog E w {} := cfgOk0 (r := []) hE0 fun p hp => nomatch hp
  have hm0 : MRel E (bl3 (cb, co) (nb, no) (sb, so)) w [roB (ciphA m), roB (win 20 16), rwB (wsA [sT 0, sT 1, sT 2, sT 3, sT 4])] w :=
    startRRW (by unfold ciphA; rfl) (win_wf _ _ _) rfl (at_lt hc (by simp [cVals])) hnb (at_lt ha (by simp [St.vals])) (by rw [ciphA_den hsym (by omega)]; exact hc) (by rw [winN hsym (by omega) hn]; exact hat) (by rw [(sT5 hsym).vals]; exact ha) ht (Ne.symm hcs) hne
  have := fn_calls hG (KC_ok hG hap) mix (List.all_eq_true.1 ini_all m (in3 hm)) hm0 gok0 rfl
  rw [show ([.c (.ptr 0 0), .c (.slc 1 0 0 ⟨0, 16⟩ ⟨201, 16⟩), .c (.ptr 2 0)] : List A1).map (A1.den E (bl3 (cb, co) (nb, no) (sb, so))) = [ptrTo cb co, .slice (some ⟨nb, no, none⟩) (vals nonce).length cap, ptrTo sb so] by
    have e1 : (AC.slc 1 0 0 ⟨0, 16⟩ ⟨201, 16⟩).den E (bl3 (cb, co) (nb, no) (sb, so)) = .slice (some ⟨nb, no, none⟩) (vals nonce).length cap :=
      slc_den (E := E) (bl := bl3 (cb, co) (nb, no) (sb, so)) (b := 1) (ib := nb) (io := no) rfl (by show E.nm 200 + _ = _; rw [n2]; omega) (by omega) (by rw [vals_length, hn]; rfl)
    simp only [List.map, A1.den, e1]
    rfl] at this
  refine this.mono fun e w' ⟨bl', vs, he, hr, hag, hm'⟩ => ?_
  rw [rsNil hr] at he
  have hb : bl' 2 = (sb, so) := hag 2 (by show 2 < 3; decide)
  refine ⟨he, hm'.chg fun i b hi hr => ?_, ?_⟩
  · match i, hi with
    | 0, hi => cases hi; cases hr
    | 1, hi => cases hi; cases hr
    | 2, hi => cases hi; right; rw [hb]; simp [rwB, MB.lo, rowOf, wsA, beginT]
    | i + 3, hi => exact nomatch hi
  · have := hm'.at (i := 2) (b := rwB (wsA (beginT m))) rfl rfl
    rw [hb] at this
    rw [← (beginT_den hsym hap (by omega) m).vals bl']
    exact this
theorem fin_calls {m : Nat} (hm : m ≤ 2) {key : List B8} (hk : key.length = klen m) {w : World} {cb co sb so tb to cap : Nat} {st : St} {os : List Value} (hc : At w cb co (cVals m key)) (ho : At w tb to os) (hol : os.length = 16) (hone : ∀ x ∈ os, x.oneCell' = true) (hot : Thaw w tb to 16) (hcap : 16 ≤ cap)
    (ha : At w sb so st.vals) (ht : Thaw w sb so 5) (hcs : sb ≠ cb) (hct : tb ≠ cb) (hst : sb ≠ tb) :
    Calls Tryd.prog 35 #[ptrTo cb co, .slice (some ⟨tb, to, none⟩) 16 cap, ptrTo sb so] w fun e w' => e = .returned (.tuple #[]) ∧ Chg w w' [(sb, so, 5), (tb, to, 16)] ∧ At w' tb to (vals (tagS m key st)) := by
  have h20 := klen_le m
  have hE0 := envA_ok (st := st) (blk := kn key []) (rows := rowsN 0 (cap - 16) 0) (vl := vlT (.slice none 0 0) (.slice none 0 0) os) (vlT_one rfl rfl hone) (rowsN_le (by decide)) rowsN_one
  have hsym : SymOk (envA st (kn key []) (rowsN 0 (cap - 16) 0) (vlT (.slice none 0 0) (.slice none 0 0) os)) st (kn key []) := envA_sym
  have hap : ApOk (envA st (kn key []) (rowsN 0 (cap - 16) 0) (vlT (.slice none 0 0) (.slice none 0 0) os)) := envA_ap
  have n2 : (envA st (kn key []) (rowsN 0 (cap - 16) 0) (vlT (.slice none 0 0) (.slice none 0 0) os)).nm 200 = cap - 16 := by simp [envA, rowsN, repl]
  have vo : ∀ i, (envA st (kn key []) (rowsN 0 (cap - 16) 0) (vlT (.slice none 0 0) (.slice none 0 0) os)).vl (10 + i) = os.getD i (.bool true) := fun i => by
    show vlT _ _ _ (10 + i) = _
    unfold vlT
    rw [if_neg (by omega), if_neg (by omega), if_pos (by omega), show 10 + i - 10 = i by omega]
  generalize envA st (kn key []) (rowsN 0 (cap - 16) 0) (vlT (.slice none 0 0) (.slice none 0 0) os) = E at hE0 hsym hap n2 vo
  have hG : CfgOk Tryd.prog E w (tagG m) := tagG_ok hE0 m
  have hm0 : MRel E (bl3 (cb, co) (tb, to) (sb, so)) w [roB (ciphA m), rwB (oldA 16), rwB (wsA [sT 0, sT 1, sT 2, sT 3, sT 4])] w :=
    start3 (by unfold ciphA; rfl) (oldA_wf _ _) rfl (at_lt hc (by simp [cVals])) (at_lt ho (by intro e; rw [e] at hol; cases hol)) (at_lt ha (by simp [St.vals])) (by rw [ciphA_den hsym (by omega)]; exact hc) (by rw [← hol, oldA_den vo]; exact ho) (by rw [(sT5 hsym).vals]; exact ha)
      (by rw [oldA_len]; exact hot) ht (.inl hct) (.inl hcs) (.inl hst)
  have := fn_calls hG (KC_ok hG hap) mix (List.all_eq_true.1 fin_all m (in3 hm)) hm0 (by rw [tagG_g]; exact gok0) rfl
  rw [show ([.c (.ptr 0 0), .c (.slc 1 0 0 ⟨0, 16⟩ ⟨201, 16⟩), .c (.ptr 2 0)] : List A1).map (A1.den E (bl3 (cb, co) (tb, to) (sb, so))) = [ptrTo cb co, .slice (some ⟨tb, to, none⟩) 16 cap, ptrTo sb so] by
    have e1 : (AC.slc 1 0 0 ⟨0, 16⟩ ⟨201, 16⟩).den E (bl3 (cb, co) (tb, to) (sb, so)) = .slice (some ⟨tb, to, none⟩) 16 cap :=
      slc_den (E := E) (bl := bl3 (cb, co) (tb, to) (sb, so)) (b := 1) (ib := tb) (io := to) rfl (by show E.nm 200 + _ = _; rw [n2]; omega) (by omega) rfl
    simp only [List.map, A1.den, e1]
    rfl] at this
  refine this.mono fun e w' ⟨bl', vs, he, hr, hag, hm'⟩ => ?_
  rw [rsNil hr] at he
  obtain ⟨h1, h2, _⟩ := end3 hm' (hag 1 (by show 1 < 3; decide)) (hag 2 (by show 2 < 3; decide))
  have hl5 : (permA 12 (preT m)).length = 5 := by unfold preT; split <;> rfl
  rw [hl5] at h1
  refine ⟨he, h1, ?_⟩
  rw [tagA_den hsym hap (by omega)] at h2
  exact h2
end Go.Proofs.YtfilandehjmikaaDoor.Asc
