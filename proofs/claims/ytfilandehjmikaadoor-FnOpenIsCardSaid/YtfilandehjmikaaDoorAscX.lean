/- What the code's assocData does to the state behind its pointer. No condition. -/
import Derived.Test.YtfilandehjmikaaDoorAscU
import Derived.Test.YtfilandehjmikaaDoorSxZ
namespace Go.Proofs.YtfilandehjmikaaDoor.Asc
open Go.RowKit Go.Proofs.YtfilandehjmikaaDoor.Sx

def envA (st : St) (blk : List B8) (rows : Nat → List Value) (vl : Nat → Value) : Env :=
  ⟨fun i => if i < 100 then up (blk.getD i 0) else st.get (i - 100), fun n i a b c d e => (perm n ⟨a, b, c, d, e⟩).get i, fun i => (rows i).length, vl, rows⟩
theorem envA_ok {st : St} {blk : List B8} {rows : Nat → List Value} {vl : Nat → Value} (h1 : ∀ i, (vl i).oneCell' = true) (h2 : ∀ i, i < 100 → (rows i).length ≤ 1099511627776) (h3 : ∀ i, ∀ v ∈ rows i, v.oneCell' = true) : EnvOk (envA st blk rows vl) :=
  ⟨h1, h2, fun _ => rfl, h3⟩
theorem envA_ap {st : St} {blk : List B8} {rows : Nat → List Value} {vl : Nat → Value} : ApOk (envA st blk rows vl) := fun _ _ _ _ _ _ _ => rfl
theorem envA_sym {st : St} {blk : List B8} {rows : Nat → List Value} {vl : Nat → Value} : SymOk (envA st blk rows vl) st blk := by
  refine ⟨fun j _ => ?_, fun i hi => if_pos hi⟩
  show (if _ then _ else _) = _
  rw [if_neg (by omega), show 100 + j - 100 = j by omega]
def repl (n : Nat) : List Value := List.replicate n (.bool true)
/-- Rows of which only the lengths count: how many bytes are left, and how much room there is. -/
def rowsN (n c d : Nat) : Nat → List Value := fun i => if i = 0 then repl n else if i = 200 then repl c else if i = 201 then repl d else []
theorem rowsN_le {n c d : Nat} (h : n ≤ 1099511627776) : ∀ i, i < 100 → (rowsN n c d i).length ≤ 1099511627776 := fun i hi => by
  unfold rowsN
  split
  · simpa [repl] using h
  · rw [if_neg (by omega), if_neg (by omega)]; simp
theorem rowsN_one {n c d : Nat} : ∀ i, ∀ v ∈ rowsN n c d i, v.oneCell' = true := fun i v hv => by
  unfold rowsN at hv
  split at hv
  · rw [(List.mem_replicate.1 hv).2]; rfl
  · split at hv
    · rw [(List.mem_replicate.1 hv).2]; rfl
    · split at hv
      · rw [(List.mem_replicate.1 hv).2]; rfl
      · cases hv
theorem entsC : ∀ f ∈ fsC, Enters Tryd.prog f := fun f hf => by
  simp only [fsC, List.mem_cons, List.not_mem_nil, or_false] at hf
  rcases hf with rfl | rfl | rfl | rfl | rfl | rfl | rfl <;> exact fun _ _ => by kernel_rfl
theorem KC_ok {E : Env} {w0 : World} {G : Cfg} (hE : CfgOk Tryd.prog E w0 G) (hap : ApOk E) : CallOk Tryd.prog E w0 G (KC G) := callN_sound hE (permK_ok hap) mix entsC 4
/-- A slice that is not empty does not lie in this block. -/
def NotAt (v : Value) (sb : Nat) : Prop := ∀ (b o n c : Nat), v = .slice (some ⟨b, o, none⟩) n c → 0 < n → b ≠ sb
theorem vals_length (l : List B8) : (vals l).length = l.length := List.length_map _
theorem vals_append (x y : List B8) : vals (x ++ y) = vals x ++ vals y := List.map_append
theorem gok0 {bl : Bl} {n : Nat} : GOk [] bl n := fun _ _ h => nomatch h
/-- Two blocks: one that is read, one that turns. -/
def bl2 (x y : Nat × Nat) : Bl := fun i => if i = 0 then x else y
theorem start2 {E : Env} {w : World} {ib io sb so : Nat} {p q : List AC} (hp : p.all (AC.wf 0) = true) (hq : q.all (AC.wf 0) = true) (hib : ib < w.heap.size) (hsb : sb < w.heap.size) (h1 : At w ib io (p.map (AC.den E (bl2 (ib, io) (sb, so))))) (h2 : At w sb so (q.map (AC.den E (bl2 (ib, io) (sb, so)))))
    (ht : Thaw w sb so q.length) (hne : sb ≠ ib ∨ so + q.length ≤ io) : MRel E (bl2 (ib, io) (sb, so)) w [roB p, rwB q] w := by
  refine MRel.lits (fun i b hi => ?_) (fun i k bi bk hik hi hk hr => ?_)
  · match i, hi with
    | 0, hi => cases hi; exact ⟨rfl, rfl, rfl, hp, hib, h1, fun h => nomatch h⟩
    | 1, hi => cases hi; exact ⟨rfl, rfl, rfl, hq, hsb, h2, fun _ => ht⟩
    | i + 2, hi => exact nomatch hi
  · match i, k, hi, hk with
    | 0, _, hi, _ => cases hi; cases hr
    | 1, 0, hi, hk =>
      cases hi; cases hk
      rcases hne with h | h
      · exact .inl h
      · exact .inr (.inl h)
    | 1, 1, _, _ => exact absurd rfl hik
    | 1, k + 2, _, hk => exact nomatch hk
    | i + 2, _, hi, _ => exact nomatch hi
theorem end2 {E : Env} {bl : Bl} {w w' : World} {sb so : Nat} {p q : List AC} (hm : MRel E bl w [roB p, rwB q] w') (hbl : bl 1 = (sb, so)) : Chg w w' [(sb, so, q.length)] ∧ At w' sb so (q.map (AC.den E bl)) := by
  refine ⟨hm.chg fun i b hi hr => ?_, ?_⟩
  · match i, hi with
    | 0, hi => cases hi; cases hr
    | 1, hi => cases hi; right; rw [hbl]; simp [rwB, MB.lo, rowOf]
    | i + 2, hi => exact nomatch hi
  · have := hm.at (i := 1) (b := rwB q) rfl rfl
    rw [hbl] at this
    exact this
theorem sT5 {E : Env} {s : St} {l : List B8} (h : SymOk E s l) : Is5 E [sT 0, sT 1, sT 2, sT 3, sT 4] s := by
  simp only [Is5, List.map, sT_den h (show 0 < 5 by decide), sT_den h (show 1 < 5 by decide), sT_den h (show 2 < 5 by decide), sT_den h (show 3 < 5 by decide), sT_den h (show 4 < 5 by decide)]
  rfl
theorem win0 {E : Env} {s : St} {l : List B8} (h : SymOk E s l) (bl : Bl) (hl : l.length ≤ 100) : (win 0 l.length).map (AC.den E bl) = vals l := by
  rw [win_den h bl (by omega) (by simp)]; simp
theorem win_wf (o n k : Nat) : (win o n).all (AC.wf k) = true := List.all_eq_true.2 fun x hx => by
  obtain ⟨i, _, rfl⟩ := List.mem_map.1 hx; rfl
theorem vals5 (s : St) : s.vals.length = 5 := rfl
def vl1 (v u : Value) : Nat → Value := fun i => if i = 0 then v else if i = 1 then u else .bool true
theorem slV_one {w : World} {v : Value} {vs : List Value} (h : SlV w v vs) : v.oneCell' = true := by
  rcases h with ⟨rfl, _⟩ | ⟨a, cap, rfl, _⟩ <;> rfl
theorem vl1_one {v u : Value} (h : v.oneCell' = true) (h' : u.oneCell' = true) (i : Nat) : (vl1 v u i).oneCell' = true := by
  unfold vl1
  split
  · exact h
  · split
    · exact h'
    · rfl
theorem leftG_ok {E : Env} (hE : EnvOk E) {w : World} {k : Nat} (h0 : k = 0 → SlV w (E.vl 0) []) (h1 : k = 0 → SlV w (E.vl 1) []) : CfgOk Tryd.prog E w (leftG k) := by
  cases k with
  | zero =>
    refine ⟨hE, (fun p hp => nomatch hp), (fun p hp => nomatch hp), (fun p hp => nomatch hp), fun p hp => ?_, (fun p hp => nomatch hp), (fun p hp => nomatch hp)⟩
    simp only [leftG, emG, List.mem_cons, List.not_mem_nil, or_false] at hp
    rcases hp with rfl | rfl
    · exact ⟨rfl, h0 rfl⟩
    · exact ⟨rfl, h1 rfl⟩
  | succ k => exact cfgOk0 (r := []) hE fun p hp => nomatch hp
theorem leftG_g (k : Nat) : (leftG k).g = [] := by cases k <;> rfl

/-! ### assocData -/
def aV (v p : Value) (two : Bool) (r : Nat) : List (Nat × Value) := [(1, v), (2, p), (6, .int .i64 (Int.ofNat (rate two))), (7, .int .i64 (Int.ofNat r))]
abbrev ptrTo (b o : Nat) : Value := .pointer (some ⟨b, o, none⟩)
/-- A start at what is left, less than a block. -/
theorem data_left {l : List B8} {st : St} {v : Value} {w : World} {sb so : Nat} {two : Bool} (hl : l.length < rate two) (hs : SlV w v (vals l)) (hn : NotAt v sb) (ha : At w sb so st.vals) (ht : Thaw w sb so 5) :
    ∃ E bl, SymOk E st l ∧ ApOk E ∧ CfgOk Tryd.prog E w (leftG l.length) ∧ bl 1 = (sb, so) ∧ MRel E bl w [roB (win 0 l.length), rwB (wsA [sT 0, sT 1, sT 2, sT 3, sT 4])] w ∧ ∀ bl' : Bl, bl' 0 = bl 0 → (leftV l.length).den E bl' = v := by
  have h16 := rate_le two
  have hsb : sb < w.heap.size := at_lt ha (by simp [St.vals])
  cases l with
  | nil =>
    have hE := envA_ok (st := st) (blk := []) (rows := rowsN 0 0 0) (vl := vl1 v (.slice none 0 0)) (vl1_one (slV_one hs) rfl) (rowsN_le (by decide)) rowsN_one
    refine ⟨envA st [] (rowsN 0 0 0) (vl1 v (.slice none 0 0)), bl2 (sb, so + 5) (sb, so), envA_sym, envA_ap, leftG_ok hE (fun _ => hs) (fun _ => .inl ⟨rfl, rfl⟩), rfl, ?_, fun _ _ => rfl⟩
    exact start2 rfl rfl hsb hsb (fun j v hv => nomatch hv) (by rw [(sT5 envA_sym).vals]; exact ha) ht (.inr (Nat.le_refl _))
  | cons x l =>
    obtain ⟨ib, io, cap, rfl, hle, hat, hib⟩ := hs.cons (by simp [vals])
    rw [vals_length] at hle
    have hE := envA_ok (st := st) (blk := x :: l) (rows := rowsN 0 (cap - (x :: l).length) 0) (vl := vl1 (.slice none 0 0) (.slice none 0 0)) (vl1_one rfl rfl) (rowsN_le (by decide)) rowsN_one
    refine ⟨envA st (x :: l) (rowsN 0 (cap - (x :: l).length) 0) (vl1 (.slice none 0 0) (.slice none 0 0)), bl2 (ib, io) (sb, so), envA_sym, envA_ap, leftG_ok hE (fun h => nomatch h) (fun h => nomatch h), rfl, ?_, fun bl' hb => ?_⟩
    · have hne := hn ib io _ cap rfl (by simp [vals])
      exact start2 (win_wf _ _ _) rfl hib hsb (by rw [win0 envA_sym _ (by omega)]; exact hat) (by rw [(sT5 envA_sym).vals]; exact ha) ht (.inl (Ne.symm hne))
    · show Value.slice (some (if _ then _ else _)) _ _ = _
      have hc : (⟨201, (x :: l).length⟩ : AN).val (envA st (x :: l) (rowsN 0 (cap - (x :: l).length) 0) (vl1 (.slice none 0 0) (.slice none 0 0))) = cap := by
        show (rowsN _ _ _ 200).length + _ = _
        simp only [rowsN, repl]
        simp
        simp at hle
        omega
      rw [hc, if_neg (by simp at hle; omega), vals_length]
      simp only [at_, hb, bl2, if_true, Nat.add_zero]
      rfl
theorem aL_keys (x : AV) (n r : Nat) : KeysOk (aL x n r) := by
  intro p hp
  simp only [aL, List.mem_cons, List.not_mem_nil, or_false] at hp
  rcases hp with rfl | rfl | rfl | rfl <;> rfl
theorem leftV_wf (k n : Nat) : (leftV k).wf (n + 1) = true := by cases k <;> simp [leftV, opV, slV, AV.wf, A1.wf, AC.wf]
theorem aL_wf {x : AV} (hx : x.wf 2 = true) (n r : Nat) : ((aL x n r).all fun p => p.2.wf 2) = true := by
  simp only [aL, List.all_cons, hx]; rfl
theorem aL_den {E : Env} {bl : Bl} {x : AV} {v : Value} {sb so r : Nat} {two : Bool} (hx : x.den E bl = v) (hb : bl 1 = (sb, so)) : denL E bl (aL x (rate two) r) = aV v (ptrTo sb so) two r := by
  have hp : (ptV 1).den E bl = ptrTo sb so := by simp only [ptV, AV.den, A1.den, AC.den, at_, hb, Nat.add_zero]
  simp only [denL, aL, aV, List.map, hx, hp]
  rfl
theorem data_rounds {two : Bool} {r : Nat} (hR : aRound two r = true) (hX : ∀ k, k < rate two → aExit two r k = true) {sb so : Nat} {Q : Exit → Act → World → Prop} :
    ∀ (N : Nat) (l : List B8) (st : St) (v : Value) (a : Act) (w : World), l.length ≤ N → l.length ≤ 1099511627776 → Fr 99 a (aV v (ptrTo sb so) two r) → SlV w v (vals l) → NotAt v sb → At w sb so st.vals → Thaw w sb so 5 →
      (∀ (l' : List B8) (st' : St) (v' : Value) (a' : Act) (w' : World), dataGo ⟨two, r⟩ st' l' = dataGo ⟨two, r⟩ st l → l'.length < rate two → Fr 99 a' (aV v' (ptrTo sb so) two r) → SlV w' v' (vals l') → NotAt v' sb → At w' sb so st'.vals → Thaw w' sb so 5 →
        Chg w w' [(sb, so, 5)] → Q (.exit 0) a' w') → Code.rounds Tryd.prog aLp Q (N + 1) a w := by
  have h16 := rate_le two
  have hp := rate_pos two
  have short : ∀ (N : Nat) (l : List B8) (st : St) (v : Value) (a : Act) (w : World), l.length < rate two → Fr 99 a (aV v (ptrTo sb so) two r) → SlV w v (vals l) → NotAt v sb → At w sb so st.vals → Thaw w sb so 5 →
      (∀ (l' : List B8) (st' : St) (v' : Value) (a' : Act) (w' : World), dataGo ⟨two, r⟩ st' l' = dataGo ⟨two, r⟩ st l → l'.length < rate two → Fr 99 a' (aV v' (ptrTo sb so) two r) → SlV w' v' (vals l') → NotAt v' sb → At w' sb so st'.vals → Thaw w' sb so 5 →
        Chg w w' [(sb, so, 5)] → Q (.exit 0) a' w') → Code.rounds Tryd.prog aLp Q (N + 1) a w := by
    intro N l st v a w hl hf hs hn ha ht hq
    have hsb : sb < w.heap.size := at_lt ha (by simp [St.vals])
    rw [rounds_succ]
    obtain ⟨E, bl, hsym, hap, hE, hb1, hm, hv⟩ := data_left (two := two) hl hs hn ha ht
    refine piece hE (KC_ok hE hap) mix (hX l.length hl) (aL_keys _ _ _) (aL_wf (leftV_wf _ _) _ _) (Nat.le_refl _) (by rw [aL_den (hv bl rfl) hb1]; exact hf) hm (by rw [leftG_g]; exact gok0) fun bl' a' w' hag hf' hm' => ?_
    have hb1' : bl' 1 = (sb, so) := by rw [hag 1 (by show 1 < 2; decide)]; exact hb1
    rw [aL_den (hv bl' (hag 0 (by show 0 < 2; decide))) hb1'] at hf'
    obtain ⟨hc, hat⟩ := end2 hm' hb1'
    rw [(sT5 hsym).vals] at hat
    refine hq l st v a' w' rfl hl hf' ?_ hn hat (hc.thaw hsb ht) hc
    cases l with
    | nil =>
      rcases hs with h | ⟨q, cap, h1, h2, _⟩
      · exact .inl h
      · exact .inr ⟨q, cap, h1, h2, fun j x hx => nomatch hx⟩
    | cons x l =>
      obtain ⟨ib, io, cap, rfl, hle, hat, hib⟩ := hs.cons (by simp [vals])
      exact SlV.mk (hc.at hat fun q hq => by
        rw [List.mem_singleton] at hq
        subst hq
        exact .inl (Ne.symm (hn ib io _ cap rfl (by simp [vals])))) hle
  intro N
  induction N with
  | zero => intro l st v a w hN _ hf hs hn ha ht hq; exact short 0 l st v a w (by omega) hf hs hn ha ht hq
  | succ N ih =>
    intro l st v a w hN hbig hf hs hn ha ht hq
    by_cases hlen : rate two ≤ l.length
    · have hsb : sb < w.heap.size := at_lt ha (by simp [St.vals])
      have hne : vals l ≠ [] := fun e => by have := congrArg List.length e; rw [vals_length, List.length_nil] at this; omega
      obtain ⟨ib, io, cap, rfl, hle, hat, hib⟩ := hs.cons hne
      rw [vals_length] at hle
      have hsi : sb ≠ ib := Ne.symm (hn ib io _ cap rfl (by rw [vals_length]; omega))
      have hsplit : vals l = vals (l.take (rate two)) ++ vals (l.drop (rate two)) := by rw [← vals_append, List.take_append_drop]
      have htl : (l.take (rate two)).length = rate two := by simp; omega
      obtain ⟨hat1, hat2⟩ := At.append.1 (hsplit ▸ hat)
      rw [vals_length, htl] at hat2
      have hE0 := envA_ok (st := st) (blk := l.take (rate two)) (rows := rowsN (l.length - rate two) (cap - rate two) 0) (vl := vl1 (.slice none 0 0) (.slice none 0 0)) (vl1_one rfl rfl) (rowsN_le (by omega)) rowsN_one
      have hsym : SymOk (envA st (l.take (rate two)) (rowsN (l.length - rate two) (cap - rate two) 0) (vl1 (.slice none 0 0) (.slice none 0 0))) st (l.take (rate two)) := envA_sym
      have hap : ApOk (envA st (l.take (rate two)) (rowsN (l.length - rate two) (cap - rate two) 0) (vl1 (.slice none 0 0) (.slice none 0 0))) := envA_ap
      have n0 : (envA st (l.take (rate two)) (rowsN (l.length - rate two) (cap - rate two) 0) (vl1 (.slice none 0 0) (.slice none 0 0))).nm 0 = l.length - rate two := by simp [envA, rowsN, repl]
      have n2 : (envA st (l.take (rate two)) (rowsN (l.length - rate two) (cap - rate two) 0) (vl1 (.slice none 0 0) (.slice none 0 0))).nm 200 = cap - rate two := by simp [envA, rowsN, repl]
      generalize envA st (l.take (rate two)) (rowsN (l.length - rate two) (cap - rate two) 0) (vl1 (.slice none 0 0) (.slice none 0 0)) = E at hE0 hsym hap n0 n2
      have hE : CfgOk Tryd.prog E w {} := cfgOk0 (r := []) hE0 fun p hp => nomatch hp
      have hm : MRel E (bl2 (ib, io) (sb, so)) w [roB (win 0 (rate two)), rwB (wsA [sT 0, sT 1, sT 2, sT 3, sT 4])] w := by
        refine start2 (win_wf _ _ _) rfl hib hsb ?_ (by rw [(sT5 hsym).vals]; exact ha) ht (.inl hsi)
        have := win0 hsym (bl2 (ib, io) (sb, so)) (by omega)
        rw [htl] at this
        rw [this]; exact hat1
      rw [rounds_succ]
      refine piece hE (KC_ok hE hap) mix hR (aL_keys _ _ _) (aL_wf rfl _ _) (Nat.le_refl _) (by
        rw [aL_den (v := .slice (some ⟨ib, io, none⟩) (vals l).length cap) (sb := sb) (so := so) ?_ rfl]
        · exact hf
        · show Value.slice (some (if _ then _ else _)) _ _ = _
          have e1 : (⟨1, rate two⟩ : AN).val E = l.length := by show E.nm 0 + _ = _; rw [n0]; omega
          have e2 : (⟨201, rate two⟩ : AN).val E = cap := by show E.nm 200 + _ = _; rw [n2]; omega
          rw [e1, e2, if_neg (by omega), vals_length]
          rfl) hm gok0 fun bl' a' w' hag hf' hm' => ?_
      have hb0 : bl' 0 = (ib, io) := hag 0 (by show 0 < 2; decide)
      have hb1 : bl' 1 = (sb, so) := hag 1 (by show 1 < 2; decide)
      obtain ⟨hc, hat'⟩ := end2 hm' hb1
      rw [(absT_den hsym two).perm hap] at hat'
      have hlen5 : (permA r (absT two)).length = 5 := by cases two <;> rfl
      rw [hlen5] at hc
      have key : ∀ r ∈ [(sb, so, 5)], r.1 ≠ ib ∨ r.2.1 + r.2.2 ≤ io + rate two ∨ io + rate two + (vals (l.drop (rate two))).length ≤ r.2.1 := fun q hq => by
        rw [List.mem_singleton] at hq; subst hq; exact .inl hsi
      have hdrop : At w' ib (io + rate two) (vals (l.drop (rate two))) := hc.at hat2 key
      let v' : Value := .slice (some (if cap - rate two = 0 then ⟨ib, io, none⟩ else ⟨ib, io + rate two, none⟩)) (l.length - rate two) (cap - rate two)
      have hv' : (AV.one (.c (.slc 0 0 (rate two) ⟨1, 0⟩ ⟨201, 0⟩))).den E bl' = v' := by
        show Value.slice (some (if _ then _ else _)) _ _ = _
        have e1 : (⟨1, 0⟩ : AN).val E = l.length - rate two := by show E.nm 0 + _ = _; rw [n0]; rfl
        have e2 : (⟨201, 0⟩ : AN).val E = cap - rate two := by show E.nm 200 + _ = _; rw [n2]; rfl
        rw [e1, e2]
        simp only [at_, hb0, Nat.add_zero, v']
      rw [aL_den hv' hb1] at hf'
      have hsl : SlV w' v' (vals (l.drop (rate two))) := by
        refine .inr ⟨_, _, by simp only [v', vals_length, List.length_drop]; rfl, by rw [vals_length, List.length_drop]; omega, fun j x hx => ?_⟩
        have hj := (List.getElem?_eq_some_iff.1 hx).1
        rw [vals_length, List.length_drop] at hj
        rw [if_neg (by omega), Addr.add_lit]
        exact hdrop j x hx
      refine ih (l.drop (rate two)) (perm r (absorb two st (l.take (rate two)))) v' a' w' (by simp only [List.length_drop]; omega) (by simp only [List.length_drop]; omega) hf' hsl (fun b o n c e hpos => ?_) hat' (hc.thaw hsb ht) fun l' st' v'' a'' w'' h1 h2 h3 h4 h5 h6 h7 h8 => hq l' st' v'' a'' w'' ?_ h2 h3 h4 h5 h6 h7 (hc.trans h8)
      · simp only [v', Value.slice.injEq, Option.some.injEq] at e
        have : b = ib := by
          have := e.1
          split at this <;> (injection this with h _ _; exact h.symm)
        rw [this]; exact Ne.symm hsi
      · rw [h1]
        conv => rhs; rw [dataGo]
        rw [if_pos hlen]
    · exact short (N + 1) l st v a w (by omega) hf hs hn ha ht hq
theorem res_nil {P : Program} {fn : Func} (h : fn.results = #[]) (tmps : Array Value) (w : World) : (results fn tmps).run P w = .ok (.tuple #[]) w := by
  rw [results_eq, h]
  simp [Sem.run_pure]
/-- One block that is read. -/
theorem start1 {E : Env} {w : World} {cb co : Nat} {p : List AC} (hp : p.all (AC.wf 0) = true) (hcb : cb < w.heap.size) (h1 : At w cb co (p.map (AC.den E fun _ => (cb, co)))) : MRel E (fun _ => (cb, co)) w [roB p] w := by
  refine MRel.lits (fun i b hi => ?_) (fun i k bi bk hik hi hk hr => ?_)
  · match i, hi with
    | 0, hi => cases hi; exact ⟨rfl, rfl, rfl, hp, hcb, h1, fun h => nomatch h⟩
    | i + 1, hi => exact nomatch hi
  · match i, hi with
    | 0, hi => cases hi; cases hr
    | i + 1, hi => exact nomatch hi
/-- One block that turns. -/
theorem startW {E : Env} {w : World} {sb so : Nat} {q : List AC} (hq : q.all (AC.wf 0) = true) (hsb : sb < w.heap.size) (h2 : At w sb so (q.map (AC.den E fun _ => (sb, so)))) (ht : Thaw w sb so q.length) : MRel E (fun _ => (sb, so)) w [rwB q] w := by
  refine MRel.lits (fun i b hi => ?_) (fun i k bi bk hik hi hk hr => ?_)
  · match i, hi with
    | 0, hi => cases hi; exact ⟨rfl, rfl, rfl, hq, hsb, h2, fun _ => ht⟩
    | i + 1, hi => exact nomatch hi
  · match i, k, hi, hk with
    | 0, 0, _, _ => exact absurd rfl hik
    | 0, k + 1, _, hk => exact nomatch hk
    | i + 1, _, hi, _ => exact nomatch hi
theorem endW {E : Env} {bl : Bl} {w w' : World} {sb so : Nat} {q : List AC} (hm : MRel E bl w [rwB q] w') (hbl : bl 0 = (sb, so)) : Chg w w' [(sb, so, q.length)] ∧ At w' sb so (q.map (AC.den E bl)) := by
  refine ⟨hm.chg fun i b hi hr => ?_, ?_⟩
  · match i, hi with
    | 0, hi => cases hi; right; rw [hbl]; simp [rwB, MB.lo, rowOf]
    | i + 1, hi => exact nomatch hi
  · have := hm.at (i := 0) (b := rwB q) rfl rfl
    rw [hbl] at this
    exact this
def vlP (v p : Value) (n : Nat) (c0 c1 c2 : Value) : Nat → Value := fun i => match i with
  | 0 => v
  | 1 => p
  | 2 => .int .i64 (n : Int)
  | 20 => c0
  | 21 => c1
  | 22 => c2
  | _ => .bool true
theorem preG_ok {E : Env} (hE : EnvOk E) {w : World} {v : Value} {l : List B8} (hs : SlV w v (vals l)) (h0 : E.vl 0 = v) (h2 : E.vl 2 = .int .i64 (l.length : Int)) : CfgOk Tryd.prog E w (preG (decide (0 < l.length))) := by
  refine ⟨hE, (fun p hp => nomatch hp), (fun p hp => nomatch hp), fun p hp => ?_, (fun p hp => nomatch hp), fun p hp => ?_, (fun p hp => nomatch hp)⟩
  · simp only [preG, List.mem_singleton] at hp
    subst hp
    refine cm_int (k := .i64) (a := (l.length : Int)) (fun _ => h2) (fun _ => rfl) fun w => ?_
    show (Op.intCmp .gtr (l.length : Int) 0).run _ w = _
    simp only [Op.intCmp, Sem.run_pure]
    congr 2
    simp
  · simp only [preG, List.mem_singleton] at hp
    subst hp
    rcases hs with ⟨rfl, h⟩ | ⟨a, cap, rfl, _⟩
    · have : l.length = 0 := by have := congrArg List.length h; rw [vals_length] at this; exact this
      exact ⟨none, 0, 0, h0, by rw [h2, this]⟩
    · exact ⟨some a, l.length, cap, by rw [h0, vals_length], h2⟩
theorem ciph_at {E : Env} {w : World} {cb co m : Nat} {c0 c1 c2 : Value} (h0 : E.vl 20 = c0) (h1 : E.vl 21 = c1) (h2 : E.vl 22 = c2) (hc : At w cb co [c0, c1, c2, .int .i64 (cmode m)]) : MRel E (fun _ => (cb, co)) w [ciph m] w := by
  refine start1 rfl (at_lt hc (by simp)) ?_
  show At w cb co [E.vl 20, E.vl 21, E.vl 22, .int .i64 (cmode m)]
  rw [h0, h1, h2]; exact hc
theorem endR {E : Env} {bl : Bl} {w w' : World} {p : List AC} (hm : MRel E bl w [roB p] w') : Below w.heap.size w w' := (hm.chg (R := []) fun i b hi hr => by
  match i, hi with
  | 0, hi => cases hi; cases hr
  | i + 1, hi => exact nomatch hi).below
theorem SlV.chg {w w' : World} {v : Value} {l : List B8} {sb so n : Nat} (hs : SlV w v (vals l)) (hn : NotAt v sb) (hc : Chg w w' [(sb, so, n)]) : SlV w' v (vals l) := by
  cases l with
  | nil =>
    rcases hs with h | ⟨q, cap, h1, h2, _⟩
    · exact .inl h
    · exact .inr ⟨q, cap, h1, h2, fun j x hx => nomatch hx⟩
  | cons x l =>
    obtain ⟨ib, io, cap, rfl, hle, hat, hib⟩ := hs.cons (by simp [vals])
    exact SlV.mk (hc.at hat fun q hq => by
      rw [List.mem_singleton] at hq
      subst hq
      exact .inl (Ne.symm (hn ib io _ cap rfl (by simp [vals])))) hle
theorem data_calls {m : Nat} (hm : m ≤ 2) {l : List B8} (hl : l.length ≤ 1099511627776) {w : World} {cb co sb so : Nat} {v : Value} {st : St} {c0 c1 c2 : Value} (hc0 : c0.oneCell' = true) (hc1 : c1.oneCell' = true) (hc2 : c2.oneCell' = true)
    (hc : At w cb co [c0, c1, c2, .int .i64 (cmode m)]) (hs : SlV w v (vals l)) (hn : NotAt v sb) (ha : At w sb so st.vals) (ht : Thaw w sb so 5) :
    Calls Tryd.prog 33 #[ptrTo cb co, v, ptrTo sb so] w fun e w' => e = .returned (.tuple #[]) ∧ Chg w w' [(sb, so, 5)] ∧ At w' sb so (dataSt (mdOf m) st l).vals := by
  have hsb : sb < w.heap.size := at_lt ha (by simp [St.vals])
  have hmd := mdOf_is m
  have h16 := rate_le (mdOf m).two
  obtain ⟨fn, hfn, hbody, hnt, hres⟩ : ∃ fn, Tryd.prog.funcs[33]? = some fn ∧ fn.body = some a33 ∧ fn.ntmps = 99 ∧ fn.results = #[] := ⟨_, rfl, rfl, rfl, rfl⟩
  refine calls_of_wp hfn hbody ?_
  rw [hnt, a33_eq]
  have hE0 := envA_ok (st := st) (blk := []) (rows := rowsN 0 0 0) (vl := vlP v (ptrTo sb so) l.length c0 c1 c2) (fun i => by
    unfold vlP; split <;> first | exact slV_one hs | exact hc0 | exact hc1 | exact hc2 | rfl) (rowsN_le (by decide)) rowsN_one
  have hap : ApOk (envA st [] (rowsN 0 0 0) (vlP v (ptrTo sb so) l.length c0 c1 c2)) := envA_ap
  have e0 : (envA st [] (rowsN 0 0 0) (vlP v (ptrTo sb so) l.length c0 c1 c2)).vl 0 = v := rfl
  have e1 : (envA st [] (rowsN 0 0 0) (vlP v (ptrTo sb so) l.length c0 c1 c2)).vl 1 = ptrTo sb so := rfl
  have e2 : (envA st [] (rowsN 0 0 0) (vlP v (ptrTo sb so) l.length c0 c1 c2)).vl 2 = .int .i64 (l.length : Int) := rfl
  have hm0 := ciph_at (E := envA st [] (rowsN 0 0 0) (vlP v (ptrTo sb so) l.length c0 c1 c2)) rfl rfl rfl hc
  generalize envA st [] (rowsN 0 0 0) (vlP v (ptrTo sb so) l.length c0 c1 c2) = E at hE0 hap e0 e1 e2 hm0
  have hE := preG_ok hE0 hs e0 e2
  have hpre := aPre_at hm (decide (0 < l.length))
  simp only [aPre, Bool.and_eq_true] at hpre
  obtain ⟨⟨p0, p1⟩, p2⟩ := hpre
  have hst := start_rel (E := E) (w0 := w) (G := preG (decide (0 < l.length))) (nt := 99) (args := [.c (.ptr 0 0), .c (.o 0), .c (.o 1)]) hm0 gok0 (show ∀ x ∈ ([.c (.ptr 0 0), .c (.o 0), .c (.o 1)] : List A1), A1.wf 1 x = true by decide) (by decide)
  have hargs : ([.c (.ptr 0 0), .c (.o 0), .c (.o 1)] : List A1).map (A1.den E fun _ => (cb, co)) = [ptrTo cb co, v, ptrTo sb so] := by
    simp only [List.map, A1.den, AC.den, e0, e1]; rfl
  rw [hargs] at hst
  refine wp_seq (code_wp hE (KC_ok hE hap) mix p0 (Nat.le_refl _) hst fun bl1 a1 w1 g1 h1 => ?_)
  refine wp_seq (code_wp hE (KC_ok hE hap) mix p1 (Nat.le_refl _) h1 fun bl2 a2 w2 g2 h2 => ?_)
  refine wp_seq (wp_seq (code_wp hE (KC_ok hE hap) mix p2 (Nat.le_refl _) h2 fun bl3 a3 w3 g3 h3 => ?_))
  have hf3 := h3.fr (by
    intro p hp
    simp only [pL3, List.mem_cons, List.not_mem_nil, or_false] at hp
    rcases hp with rfl | rfl | rfl | rfl | rfl <;> rfl)
  have hb3 := endR h3.mem
  have hf3' : Fr 99 a3 (aV v (ptrTo sb so) (mdOf m).two (mdOf m).r) := ⟨hf3.defers, hf3.size, fun p hp => by
    simp only [aV, List.mem_cons, List.not_mem_nil, or_false] at hp
    rcases hp with rfl | rfl | rfl | rfl
    · rw [hf3.get (1, (opV 0).den E bl3) (by simp [denL, pL3])]; exact e0
    · rw [hf3.get (2, (opV 1).den E bl3) (by simp [denL, pL3])]; exact e1
    · rw [hf3.get (6, (i64 (rate (mdOf m).two)).den E bl3) (by simp [denL, pL3])]; rfl
    · rw [hf3.get (7, (i64 (mdOf m).r).den E bl3) (by simp [denL, pL3])]; rfl⟩
  have h16b : a3.eval (.tmp 16) = .bool (decide (0 < l.length)) := hf3.get (16, .bool (decide (0 < l.length))) (by simp [denL, pL3, AV.den, A1.den, AC.den])
  have c3 : Chg w w3 [(sb, so, 5)] := .of_below hb3
  have ha3 : At w3 sb so st.vals := ha.below hb3
  have ht3 : Thaw w3 sb so 5 := c3.thaw hsb ht
  have last : ∀ (s : St) (a : Act) (w4 : World), Fr 99 a [(2, ptrTo sb so)] → Chg w w4 [(sb, so, 5)] → At w4 sb so s.vals → Thaw w4 sb so 5 → fin1 s = dataSt (mdOf m) st l →
      aFin.wp Tryd.prog (bodyPost Tryd.prog fn fun e w' => e = .returned (.tuple #[]) ∧ Chg w w' [(sb, so, 5)] ∧ At w' sb so (dataSt (mdOf m) st l).vals) a w4 := by
    intro s a w4 hf hc4 ha4 ht4 hs4
    have hsb4 : sb < w4.heap.size := at_lt ha4 (by simp [St.vals])
    have hE5 := envA_ok (st := s) (blk := []) (rows := rowsN 0 0 0) (vl := vl1 (.slice none 0 0) (.slice none 0 0)) (vl1_one rfl rfl) (rowsN_le (by decide)) rowsN_one
    have hsym : SymOk (envA s [] (rowsN 0 0 0) (vl1 (.slice none 0 0) (.slice none 0 0))) s [] := envA_sym
    have hap5 : ApOk (envA s [] (rowsN 0 0 0) (vl1 (.slice none 0 0) (.slice none 0 0))) := envA_ap
    generalize envA s [] (rowsN 0 0 0) (vl1 (.slice none 0 0) (.slice none 0 0)) = E5 at hE5 hsym hap5
    have hG : CfgOk Tryd.prog E5 w4 {} := cfgOk0 (r := []) hE5 fun p hp => nomatch hp
    refine piece (bl := fun _ => (sb, so)) hG (KC_ok hG hap5) mix aLast_ok (fun _ h => nomatch h) rfl (Nat.le_refl _) hf (startW rfl hsb4 (by rw [(sT5 hsym).vals]; exact ha4) ht4) gok0 fun bl' a' w' hag hf' hm' => ?_
    obtain ⟨hc', hat'⟩ := endW hm' (hag 0 (by decide))
    refine ⟨hf'.defers, _, res_nil hres _ _, rfl, hc4.trans hc', ?_⟩
    rw [← hs4]
    have h5 : Is5 E5 [sT 0, sT 1, sT 2, sT 3, mkXor (sT 4) (.k 1)] (fin1 s) := by
      simp only [Is5, List.map, mkXor_den, sT_den hsym (show 0 < 5 by decide), sT_den hsym (show 1 < 5 by decide), sT_den hsym (show 2 < 5 by decide), sT_den hsym (show 3 < 5 by decide), sT_den hsym (show 4 < 5 by decide)]
      rfl
    rw [h5.vals] at hat'
    exact hat'
  refine wp_cond h16b ?_
  by_cases hz : 0 < l.length
  · rw [decide_eq_true hz]
    simp only [if_true]
    refine wp_seq (wp_block (wp_loop_rounds (l.length + 1) (data_rounds (aRounds _ _ hmd) (fun k hk => (aLeft _ _ k (by
      rcases hmd with ⟨h1, h2⟩ | ⟨h1, h2⟩
      · exact .inl ⟨h1, h2, by rw [h1] at hk; exact hk⟩
      · exact .inr ⟨h1, h2, by rw [h1] at hk; exact hk⟩)).1) l.length l st v a3 w3 (Nat.le_refl _) hl hf3' (hs.below hb3) hn ha3 ht3 fun l' st' v' a' w' q1 q2 q3 q4 q5 q6 q7 q8 => ?_)))
    obtain ⟨E', bl', hsym, hap', hE', hb1, hm', hv⟩ := data_left (two := (mdOf m).two) q2 q4 q5 q6 q7
    have hend := (aLeft (mdOf m).two (mdOf m).r l'.length (by
      rcases hmd with ⟨h1, h2⟩ | ⟨h1, h2⟩
      · exact .inl ⟨h1, h2, by rw [h1] at q2; exact q2⟩
      · exact .inr ⟨h1, h2, by rw [h1] at q2; exact q2⟩)).2
    refine piece hE' (KC_ok hE' hap') mix hend (aL_keys _ _ _) (aL_wf (leftV_wf _ _) _ _) (Nat.le_refl _) (by rw [aL_den (hv bl' rfl) hb1]; exact q3) hm' (by rw [leftG_g]; exact gok0) fun bl4 a4 w4 hag hf4 hm4 => ?_
    have hb4 : bl4 1 = (sb, so) := by rw [hag 1 (by show 1 < 2; decide)]; exact hb1
    obtain ⟨hc4, hat4⟩ := end2 hm4 hb4
    rw [(tailT_den hsym _ (rate (mdOf m).two)).perm hap'] at hat4
    have hlen5 : (permA (mdOf m).r (tailT (mdOf m).two l'.length)).length = 5 := by cases (mdOf m).two <;> rfl
    rw [hlen5] at hc4
    rw [aL_den (hv bl4 (hag 0 (by show 0 < 2; decide))) hb4] at hf4
    refine last _ a4 w4 (hf4.sub fun p hp => ?_) (c3.trans (q8.trans hc4)) hat4 (hc4.thaw (at_lt q6 (by simp [St.vals])) q7) ?_
    · rw [List.mem_singleton] at hp; subst hp; simp [aV]
    · unfold dataSt
      rw [if_neg (by intro h; rw [h] at hz; exact absurd hz (by decide)), ← q1]
      conv => rhs; rw [dataGo]
      rw [if_neg (by show ¬ rate (mdOf m).two ≤ _; omega)]
  · rw [decide_eq_false hz]
    simp only [Bool.false_eq_true, if_false]
    refine wp_skip ?_
    have hl0 : l = [] := List.length_eq_zero_iff.1 (by omega)
    exact last st a3 w3 (hf3'.sub fun p hp => by rw [List.mem_singleton] at hp; subst hp; simp [aV]) c3 ha3 ht3 (by unfold dataSt; rw [if_pos hl0])
end Go.Proofs.YtfilandehjmikaaDoor.Asc
