/- What the code's procText does to the state behind its pointer and to the slice for what it makes. No condition. -/
import Derived.Test.YtfilandehjmikaaDoorAscV
import Derived.Test.YtfilandehjmikaaDoorAscX
namespace Go.Proofs.YtfilandehjmikaaDoor.Asc
open Go.RowKit Go.Proofs.YtfilandehjmikaaDoor.Sx

def bl3 (x y z : Nat × Nat) : Bl := fun i => if i = 0 then x else if i = 1 then y else z
/-- So many cells that may be written, behind a slice (which may be any if there are none). -/
def OutV (w : World) (u : Value) (ob oo n : Nat) : Prop := (n = 0 ∧ SlV w u []) ∨
  (0 < n ∧ ∃ (cap : Nat) (vs : List Value), u = .slice (some ⟨ob, oo, none⟩) n cap ∧ n ≤ cap ∧ vs.length = n ∧ (∀ v ∈ vs, v.oneCell' = true) ∧ At w ob oo vs ∧ Thaw w ob oo n)
theorem start3 {E : Env} {w : World} {x y z : Nat × Nat} {p q s : List AC} (hp : p.all (AC.wf 0) = true) (hq : q.all (AC.wf 0) = true) (hs : s.all (AC.wf 0) = true) (h1 : x.1 < w.heap.size) (h2 : y.1 < w.heap.size) (h3 : z.1 < w.heap.size)
    (a1 : At w x.1 x.2 (p.map (AC.den E (bl3 x y z)))) (a2 : At w y.1 y.2 (q.map (AC.den E (bl3 x y z)))) (a3 : At w z.1 z.2 (s.map (AC.den E (bl3 x y z)))) (t2 : Thaw w y.1 y.2 q.length) (t3 : Thaw w z.1 z.2 s.length)
    (n12 : y.1 ≠ x.1 ∨ q.length = 0 ∧ p.length = 0 ∧ x.2 = y.2) (n13 : z.1 ≠ x.1 ∨ z.2 + s.length ≤ x.2) (n23 : z.1 ≠ y.1 ∨ z.2 + s.length ≤ y.2) : MRel E (bl3 x y z) w [roB p, rwB q, rwB s] w := by
  refine MRel.lits (fun i b hi => ?_) (fun i k bi bk hik hi hk hr => ?_)
  · match i, hi with
    | 0, hi => cases hi; exact ⟨rfl, rfl, rfl, hp, h1, a1, fun h => nomatch h⟩
    | 1, hi => cases hi; exact ⟨rfl, rfl, rfl, hq, h2, a2, fun _ => t2⟩
    | 2, hi => cases hi; exact ⟨rfl, rfl, rfl, hs, h3, a3, fun _ => t3⟩
    | i + 3, hi => exact nomatch hi
  · match i, k, hi, hk with
    | 0, _, hi, _ => cases hi; cases hr
    | 1, 0, hi, hk =>
      cases hi; cases hk
      rcases n12 with h | ⟨h, h', h''⟩
      · exact .inl h
      · exact .inr (.inl (by show y.2 + q.length ≤ x.2; omega))
    | 1, 1, _, _ => exact absurd rfl hik
    | 1, 2, hi, hk =>
      cases hi; cases hk
      rcases n23 with h | h
      · exact .inl (Ne.symm h)
      · exact .inr (.inr h)
    | 1, k + 3, _, hk => exact nomatch hk
    | 2, 0, hi, hk =>
      cases hi; cases hk
      rcases n13 with h | h
      · exact .inl h
      · exact .inr (.inl h)
    | 2, 1, hi, hk =>
      cases hi; cases hk
      rcases n23 with h | h
      · exact .inl h
      · exact .inr (.inl h)
    | 2, 2, _, _ => exact absurd rfl hik
    | 2, k + 3, _, hk => exact nomatch hk
    | i + 3, _, hi, _ => exact nomatch hi
theorem end3 {E : Env} {bl : Bl} {w w' : World} {y z : Nat × Nat} {p q s : List AC} (hm : MRel E bl w [roB p, rwB q, rwB s] w') (hy : bl 1 = y) (hz : bl 2 = z) :
    Chg w w' [(z.1, z.2, s.length), (y.1, y.2, q.length)] ∧ At w' y.1 y.2 (q.map (AC.den E bl)) ∧ At w' z.1 z.2 (s.map (AC.den E bl)) := by
  refine ⟨hm.chg fun i b hi hr => ?_, ?_, ?_⟩
  · match i, hi with
    | 0, hi => cases hi; cases hr
    | 1, hi => cases hi; right; rw [hy]; simp [rwB, MB.lo, rowOf]
    | 2, hi => cases hi; right; rw [hz]; simp [rwB, MB.lo, rowOf]
    | i + 3, hi => exact nomatch hi
  · have := hm.at (i := 1) (b := rwB q) rfl rfl
    rw [hy] at this
    exact this
  · have := hm.at (i := 2) (b := rwB s) rfl rfl
    rw [hz] at this
    exact this
def vlT (v u : Value) (os : List Value) : Nat → Value := fun i => if i = 0 then v else if i = 1 then u else if 10 ≤ i then os.getD (i - 10) (.bool true) else .bool true
theorem vlT_one {v u : Value} {os : List Value} (h : v.oneCell' = true) (h' : u.oneCell' = true) (ho : ∀ x ∈ os, x.oneCell' = true) (i : Nat) : (vlT v u os i).oneCell' = true := by
  unfold vlT
  split
  · exact h
  · split
    · exact h'
    · split
      · simp only [List.getD]
        cases hx : os[i - 10]? with
        | none => rfl
        | some x => exact ho x (List.mem_of_getElem? hx)
      · rfl
theorem oldA_den {E : Env} {bl : Bl} {os : List Value} (h : ∀ i, E.vl (10 + i) = os.getD i (.bool true)) : (oldA os.length).map (AC.den E bl) = os := by
  apply List.ext_getElem?
  intro j
  simp only [oldA, List.map_map, List.getElem?_map]
  by_cases hj : j < os.length
  · rw [List.getElem?_range hj, List.getElem?_eq_getElem hj]
    simp only [Option.map_some, Function.comp, AC.den, h, List.getD, List.getElem?_eq_getElem hj, Option.getD_some]
  · rw [List.getElem?_eq_none (by simpa using hj), List.getElem?_eq_none (by omega)]; rfl
theorem oldA_wf (n k : Nat) : (oldA n).all (AC.wf k) = true := List.all_eq_true.2 fun x hx => by
  obtain ⟨i, _, rfl⟩ := List.mem_map.1 hx; rfl
theorem oldA_len (n : Nat) : (oldA n).length = n := by simp [oldA]
theorem outs_len (n : Nat) : (outs n).length = n := by simp [outs]

/-- The slices: what is read, what is made, the state: none over another. -/
structure TIn (w : World) (v u : Value) (l : List B8) (st : St) (sb so ob oo : Nat) : Prop where
  src : SlV w v (vals l)
  out : OutV w u ob oo l.length
  ns : NotAt v sb
  no : NotAt v ob
  oz : l ≠ [] → ob ≠ sb
  st : At w sb so st.vals
  th : Thaw w sb so 5
def tV (v u p : Value) (two back : Bool) (r : Nat) : List (Nat × Value) := [(1, v), (2, u), (4, p), (10, .int .i64 (Int.ofNat (rate two))), (11, .int .i64 (Int.ofNat r)), (12, match back with
  | true => .int .u64 0
  | false => .int .u64 18446744073709551615)]
theorem tL_keys (x y : AV) (back : Bool) (n r : Nat) : KeysOk (tL x y back n r) := by
  intro p hp
  simp only [tL, List.mem_cons, List.not_mem_nil, or_false] at hp
  rcases hp with rfl | rfl | rfl | rfl | rfl | rfl <;> rfl
theorem leftV2_wf (k n : Nat) : (leftV2 k).wf (n + 2) = true := by cases k <;> simp [leftV2, opV, slV, AV.wf, A1.wf, AC.wf]
theorem tL_wf {x y : AV} (hx : x.wf 3 = true) (hy : y.wf 3 = true) (back : Bool) (n r : Nat) : ((tL x y back n r).all fun p => p.2.wf 3) = true := by
  simp only [tL, List.all_cons, hx, hy]; cases back <;> rfl
theorem tL_den {E : Env} {bl : Bl} {x y : AV} {v u : Value} {sb so r : Nat} {two back : Bool} (hx : x.den E bl = v) (hy : y.den E bl = u) (hb : bl 2 = (sb, so)) : denL E bl (tL x y back (rate two) r) = tV v u (ptrTo sb so) two back r := by
  have hp : (ptV 2).den E bl = ptrTo sb so := by simp only [ptV, AV.den, A1.den, AC.den, at_, hb, Nat.add_zero]
  simp only [denL, tL, tV, List.map, hx, hy, hp]
  cases back <;> rfl
theorem slc_den {E : Env} {bl : Bl} {b ib io n cap s c : Nat} (hb : bl b = (ib, io)) (hc : (⟨s, c⟩ : AN).val E = cap) (hn : 0 < cap) {q d : Nat} (hl : (⟨q, d⟩ : AN).val E = n) : (slV b ⟨q, d⟩ ⟨s, c⟩).den E bl = .slice (some ⟨ib, io, none⟩) n cap := by
  show Value.slice (some (if _ then _ else _)) _ _ = _
  rw [hc, hl, if_neg (by omega)]
  simp only [at_, hb, Nat.add_zero]
/-- A start at what is left, less than a block. -/
theorem text_left {l : List B8} {st : St} {v u : Value} {w : World} {sb so ob oo : Nat} {two : Bool} (hl : l.length < rate two) (h : TIn w v u l st sb so ob oo) :
    ∃ E bl ob' oo', SymOk E st l ∧ ApOk E ∧ CfgOk Tryd.prog E w (leftG l.length) ∧ bl 1 = (ob', oo') ∧ (l ≠ [] → ob' = ob ∧ oo' = oo) ∧ (l = [] → ob' = sb ∧ oo' = so + 5) ∧ bl 2 = (sb, so) ∧ MRel E bl w [roB (win 0 l.length), rwB (oldA l.length), rwB (wsA [sT 0, sT 1, sT 2, sT 3, sT 4])] w ∧
      ∀ bl' : Bl, bl' 0 = bl 0 → bl' 1 = bl 1 → (leftV l.length).den E bl' = v ∧ (leftV2 l.length).den E bl' = u := by
  have h16 := rate_le two
  have hsb : sb < w.heap.size := at_lt h.st (by simp [St.vals])
  cases l with
  | nil =>
    have hu : SlV w u [] := by
      rcases h.out with ⟨_, hu⟩ | ⟨h0, _⟩
      · exact hu
      · exact absurd h0 (by decide)
    have hE := envA_ok (st := st) (blk := []) (rows := rowsN 0 0 0) (vl := vlT v u []) (vlT_one (slV_one h.src) (slV_one hu) fun _ h => nomatch h) (rowsN_le (by decide)) rowsN_one
    refine ⟨envA st [] (rowsN 0 0 0) (vlT v u []), bl3 (sb, so + 5) (sb, so + 5) (sb, so), sb, so + 5, envA_sym, envA_ap, leftG_ok hE (fun _ => h.src) (fun _ => hu), rfl, (fun h => absurd rfl h), (fun _ => ⟨rfl, rfl⟩), rfl, ?_, fun _ _ _ => ⟨rfl, rfl⟩⟩
    exact start3 rfl rfl rfl hsb hsb hsb (fun j v hv => nomatch hv) (fun j v hv => nomatch hv) (by rw [(sT5 envA_sym).vals]; exact h.st) (fun j hj => absurd hj (Nat.not_lt_zero _)) h.th (.inr ⟨rfl, rfl, rfl⟩) (.inr (Nat.le_refl _)) (.inr (Nat.le_refl _))
  | cons x l =>
    obtain ⟨ib, io, cap, rfl, hle, hat, hib⟩ := h.src.cons (by simp [vals])
    rw [vals_length] at hle
    rcases h.out with ⟨h0, _⟩ | ⟨_, cap2, os, rfl, hle2, hos, hone, hat2, hth2⟩
    · cases h0
    have hpos : 0 < (x :: l).length := by simp
    have hE := envA_ok (st := st) (blk := x :: l) (rows := rowsN 0 (cap - (x :: l).length) (cap2 - (x :: l).length)) (vl := vlT (.slice none 0 0) (.slice none 0 0) os) (vlT_one rfl rfl hone) (rowsN_le (by decide)) rowsN_one
    refine ⟨envA st (x :: l) (rowsN 0 (cap - (x :: l).length) (cap2 - (x :: l).length)) (vlT (.slice none 0 0) (.slice none 0 0) os), bl3 (ib, io) (ob, oo) (sb, so), ob, oo, envA_sym, envA_ap, leftG_ok hE (fun h => nomatch h) (fun h => nomatch h), rfl, (fun _ => ⟨rfl, rfl⟩), (fun h => nomatch h), rfl, ?_, fun bl' hb hb' => ⟨?_, ?_⟩⟩
    · have hne := h.ns ib io _ cap rfl (by simp [vals])
      have hno := h.no ib io _ cap rfl (by simp [vals])
      refine start3 (win_wf _ _ _) (oldA_wf _ _) rfl hib (at_lt hat2 (by intro e; rw [e] at hos; simp at hos)) hsb (by rw [win0 envA_sym _ (by omega)]; exact hat) ?_ (by rw [(sT5 envA_sym).vals]; exact h.st) (by rw [oldA_len]; exact hth2) h.th
        (.inl (Ne.symm hno)) (.inl (Ne.symm hne)) (.inl (Ne.symm (h.oz (by simp))))
      rw [← hos, oldA_den (os := os) fun i => by
        show vlT _ _ _ (10 + i) = _
        unfold vlT
        rw [if_neg (by omega), if_neg (by omega), if_pos (by omega), show 10 + i - 10 = i by omega]]
      exact hat2
    · exact slc_den (by rw [hb]; rfl) (by
        show (rowsN _ _ _ 200).length + _ = _
        simp only [rowsN, repl]
        simp
        simp at hle
        omega) (by omega) (by rw [vals_length]; rfl)
    · exact slc_den (by rw [hb']; rfl) (by
        show (rowsN _ _ _ 201).length + _ = _
        simp only [rowsN, repl]
        simp
        simp at hle2
        omega) (by omega) rfl
theorem crypt_short {md : Md} {back : Bool} {s : St} {l : List B8} (h : l.length < rate md.two) : crypt md back s l = (xorl (sbytes md.two s) l, absorb md.two s (padl (rate md.two) (if back then xorl (sbytes md.two s) l else l))) := by
  rw [crypt, if_neg (by omega)]
theorem crypt_long {md : Md} {back : Bool} {s : St} {l : List B8} (h : rate md.two ≤ l.length) : crypt md back s l =
    (xorl (sbytes md.two s) (l.take (rate md.two)) ++ (crypt md back (perm md.r (absorb md.two s (if back then xorl (sbytes md.two s) (l.take (rate md.two)) else l.take (rate md.two)))) (l.drop (rate md.two))).1,
      (crypt md back (perm md.r (absorb md.two s (if back then xorl (sbytes md.two s) (l.take (rate md.two)) else l.take (rate md.two)))) (l.drop (rate md.two))).2) := by
  rw [crypt, if_pos h]
theorem SlV.chgR {w w' : World} {v : Value} {l : List B8} {R : List (Nat × Nat × Nat)} (hs : SlV w v (vals l)) (hn : ∀ r ∈ R, NotAt v r.1) (hc : Chg w w' R) : SlV w' v (vals l) := by
  cases l with
  | nil =>
    rcases hs with h | ⟨q, cap, h1, h2, _⟩
    · exact .inl h
    · exact .inr ⟨q, cap, h1, h2, fun j x hx => nomatch hx⟩
  | cons x l =>
    obtain ⟨ib, io, cap, rfl, hle, hat, hib⟩ := hs.cons (by simp [vals])
    exact SlV.mk (hc.at hat fun q hq => .inl (Ne.symm (hn q hq ib io _ cap rfl (by simp [vals])))) hle
theorem slV_nil {w w' : World} {v : Value} (h : SlV w v []) : SlV w' v [] := by
  rcases h with h | ⟨q, cap, h1, h2, _⟩
  · exact .inl h
  · exact .inr ⟨q, cap, h1, h2, fun j x hx => nomatch hx⟩
theorem NotAt.nil {w : World} {v : Value} (h : SlV w v (vals [])) (sb : Nat) : NotAt v sb := fun b o n c e hpos => by
  rcases h with ⟨rfl, _⟩ | ⟨q, cap, rfl, _⟩
  · cases e
  · simp only [Value.slice.injEq] at e
    have : n = 0 := e.2.1.symm
    omega
theorem roundLen (two back : Bool) (r : Nat) : (permA r (roundT two back)).length = 5 := by cases back <;> cases two <;> rfl
theorem roundDen {E : Env} {st : St} {l : List B8} {r : Nat} (hsym : SymOk E st l) (hap : ApOk E) (two back : Bool) (hl : l.length = rate two) (bl : Bl) :
    (permA r (roundT two back)).map (AC.den E bl) = (perm r (absorb two st (if back then xorl (sbytes two st) l else l))).vals := by
  cases back with
  | true => exact (wholeT_den hsym two hl).perm hap r bl
  | false => exact (absT_den hsym two).perm hap r bl
theorem chg_join {w w' w'' : World} {sb so ob oo n k : Nat} (h : Chg w w' [(sb, so, 5), (ob, oo, k)]) (h' : Chg w' w'' [(sb, so, 5), (ob, oo + k, n - k)]) (hk : k ≤ n) : Chg w w'' [(sb, so, 5), (ob, oo, n)] := by
  refine (h.mono fun q hq _ => ?_).trans (h'.mono fun q hq _ => ?_)
  · simp only [List.mem_cons, List.not_mem_nil, or_false] at hq
    rcases hq with rfl | rfl
    · exact ⟨_, List.mem_cons_self .., rfl, Nat.le_refl _, Nat.le_refl _⟩
    · exact ⟨_, List.mem_cons_of_mem _ (List.mem_cons_self ..), rfl, Nat.le_refl _, by show oo + k ≤ oo + n; omega⟩
  · simp only [List.mem_cons, List.not_mem_nil, or_false] at hq
    rcases hq with rfl | rfl
    · exact ⟨_, List.mem_cons_self .., rfl, Nat.le_refl _, Nat.le_refl _⟩
    · exact ⟨_, List.mem_cons_of_mem _ (List.mem_cons_self ..), rfl, by show oo ≤ oo + k; omega, by show oo + k + (n - k) ≤ oo + n; omega⟩
theorem tx_split {l : List B8} {n : Nat} : vals l = vals (l.take n) ++ vals (l.drop n) := by rw [← vals_append, List.take_append_drop]
set_option maxHeartbeats 1000000 in
theorem text_rounds {two back : Bool} {r : Nat} (hR : tRound two back r = true) (hX : ∀ k, k < rate two → tExit two back r k = true) {sb so : Nat} {Q : Exit → Act → World → Prop} :
    ∀ (N : Nat) (l : List B8) (st : St) (v u : Value) (ob oo : Nat) (a : Act) (w : World), l.length ≤ N → l.length ≤ 1099511627776 → Fr 159 a (tV v u (ptrTo sb so) two back r) → TIn w v u l st sb so ob oo →
      (∀ (done l' : List B8) (st' : St) (v' u' : Value) (oo' : Nat) (a' : Act) (w' : World), crypt ⟨two, r⟩ back st l = (done ++ (crypt ⟨two, r⟩ back st' l').1, (crypt ⟨two, r⟩ back st' l').2) → l'.length < rate two → done.length + l'.length = l.length → oo' = oo + done.length →
        Fr 159 a' (tV v' u' (ptrTo sb so) two back r) → TIn w' v' u' l' st' sb so ob oo' → At w' ob oo (vals done) → Chg w w' [(sb, so, 5), (ob, oo, l.length)] → Q (.exit 0) a' w') → Code.rounds Tryd.prog tLp Q (N + 1) a w := by
  have h16 := rate_le two
  have hp := rate_pos two
  have short : ∀ (N : Nat) (l : List B8) (st : St) (v u : Value) (ob oo : Nat) (a : Act) (w : World), l.length < rate two → Fr 159 a (tV v u (ptrTo sb so) two back r) → TIn w v u l st sb so ob oo →
      (∀ (done l' : List B8) (st' : St) (v' u' : Value) (oo' : Nat) (a' : Act) (w' : World), crypt ⟨two, r⟩ back st l = (done ++ (crypt ⟨two, r⟩ back st' l').1, (crypt ⟨two, r⟩ back st' l').2) → l'.length < rate two → done.length + l'.length = l.length → oo' = oo + done.length →
        Fr 159 a' (tV v' u' (ptrTo sb so) two back r) → TIn w' v' u' l' st' sb so ob oo' → At w' ob oo (vals done) → Chg w w' [(sb, so, 5), (ob, oo, l.length)] → Q (.exit 0) a' w') → Code.rounds Tryd.prog tLp Q (N + 1) a w := by
    intro N l st v u ob oo a w hl hf hin hq
    have hsb : sb < w.heap.size := at_lt hin.st (by simp [St.vals])
    rw [rounds_succ]
    obtain ⟨E, bl, ob', oo', hsym, hap, hE, hb1, hob, hob0, hb2, hm, hv⟩ := text_left (two := two) hl hin
    refine piece hE (KC_ok hE hap) mix (hX l.length hl) (tL_keys _ _ _ _ _) (tL_wf (leftV_wf _ _) (leftV2_wf _ _) _ _ _) (Nat.le_refl _) (by rw [tL_den (hv bl rfl rfl).1 (hv bl rfl rfl).2 hb2]; exact hf) hm (by rw [leftG_g]; exact gok0) fun bl' a' w' hag hf' hm' => ?_
    have hb1' : bl' 1 = (ob', oo') := by rw [hag 1 (by show 1 < 3; decide)]; exact hb1
    have hb2' : bl' 2 = (sb, so) := by rw [hag 2 (by show 2 < 3; decide)]; exact hb2
    have hd := hv bl' (hag 0 (by show 0 < 3; decide)) (hag 1 (by show 1 < 3; decide))
    rw [tL_den hd.1 hd.2 hb2'] at hf'
    obtain ⟨hc, hat1, hat2⟩ := end3 hm' hb1' hb2'
    rw [oldA_len] at hc
    have hc2 : Chg w w' [(sb, so, 5), (ob, oo, l.length)] := by
      refine hc.mono fun q hq _ => ?_
      simp only [List.mem_cons, List.not_mem_nil, or_false] at hq
      rcases hq with rfl | rfl
      · exact ⟨_, List.mem_cons_self .., rfl, Nat.le_refl _, Nat.le_refl _⟩
      · by_cases h0 : l = []
        · obtain ⟨rfl, rfl⟩ := hob0 h0
          exact ⟨_, List.mem_cons_self .., rfl, by show so ≤ so + 5; omega, by show so + 5 + l.length ≤ so + 5; rw [h0]; simp⟩
        · obtain ⟨rfl, rfl⟩ := hob h0
          exact ⟨_, List.mem_cons_of_mem _ (List.mem_cons_self ..), rfl, Nat.le_refl _, Nat.le_refl _⟩
    rw [(sT5 hsym).vals] at hat2
    refine hq [] l st v u oo a' w' (by simp) hl (by simp) (by simp) hf' ⟨?_, ?_, hin.ns, hin.no, hin.oz, hat2, hc2.thaw hsb hin.th⟩ (fun j x hx => nomatch hx) hc2
    · exact SlV.chgR hin.src (fun q hq => by
        simp only [List.mem_cons, List.not_mem_nil, or_false] at hq
        rcases hq with rfl | rfl
        · exact hin.ns
        · exact hin.no) hc2
    · rcases hin.out with ⟨h0, hu⟩ | ⟨h0, cap, os, e1, e2, e3, e4, e5, e6⟩
      · exact .inl ⟨h0, slV_nil hu⟩
      · have hne : l ≠ [] := by intro e; rw [e] at h0; exact absurd h0 (by decide)
        obtain ⟨rfl, rfl⟩ := hob hne
        refine .inr ⟨h0, cap, (oldA l.length).map (AC.den E bl'), e1, e2, by simp [oldA_len], fun x hx => ?_, hat1, hc2.thaw (at_lt e5 (by intro e; rw [e] at e3; rw [← e3] at h0; exact absurd h0 (by decide))) e6⟩
        obtain ⟨y, hy, rfl⟩ := List.mem_map.1 hx
        obtain ⟨i, _, rfl⟩ := List.mem_map.1 hy
        exact hE.env.one _
  intro N
  induction N with
  | zero => intro l st v u ob oo a w hN _ hf hin hq; exact short 0 l st v u ob oo a w (by omega) hf hin hq
  | succ N ih =>
    intro l st v u ob oo a w hN hbig hf hin hq
    by_cases hlen : rate two ≤ l.length
    · have hsb : sb < w.heap.size := at_lt hin.st (by simp [St.vals])
      have hne : vals l ≠ [] := fun e => by have := congrArg List.length e; rw [vals_length, List.length_nil] at this; omega
      have hne' : l ≠ [] := fun e => hne (by rw [e]; rfl)
      obtain ⟨ib, io, cap, rfl, hle, hat, hib⟩ := hin.src.cons hne
      rw [vals_length] at hle
      have hsi : sb ≠ ib := Ne.symm (hin.ns ib io _ cap rfl (by rw [vals_length]; omega))
      have hoi : ob ≠ ib := Ne.symm (hin.no ib io _ cap rfl (by rw [vals_length]; omega))
      have hos : ob ≠ sb := hin.oz hne'
      rcases hin.out with ⟨h0, _⟩ | ⟨_, cap2, os, rfl, hle2, hosl, hone, hat2, hth2⟩
      · omega
      have hob : ob < w.heap.size := at_lt hat2 (by intro e; rw [e] at hosl; simp at hosl; omega)
      have htl : (l.take (rate two)).length = rate two := by simp; omega
      obtain ⟨hin1, hin2⟩ := At.append.1 (tx_split (l := l) (n := rate two) ▸ hat)
      rw [vals_length, htl] at hin2
      have hosp : os = os.take (rate two) ++ os.drop (rate two) := (List.take_append_drop _ _).symm
      have hotl : (os.take (rate two)).length = rate two := by simp; omega
      obtain ⟨ho1, ho2⟩ := At.append.1 (hosp ▸ hat2)
      rw [hotl] at ho2
      have hone1 : ∀ x ∈ os.take (rate two), x.oneCell' = true := fun x hx => hone x (List.mem_of_mem_take hx)
      have hE0 := envA_ok (st := st) (blk := l.take (rate two)) (rows := rowsN (l.length - rate two) (cap - rate two) (cap2 - rate two)) (vl := vlT (.slice none 0 0) (.slice none 0 0) (os.take (rate two))) (vlT_one rfl rfl hone1) (rowsN_le (by omega)) rowsN_one
      have hsym : SymOk (envA st (l.take (rate two)) (rowsN (l.length - rate two) (cap - rate two) (cap2 - rate two)) (vlT (.slice none 0 0) (.slice none 0 0) (os.take (rate two)))) st (l.take (rate two)) := envA_sym
      have hap : ApOk (envA st (l.take (rate two)) (rowsN (l.length - rate two) (cap - rate two) (cap2 - rate two)) (vlT (.slice none 0 0) (.slice none 0 0) (os.take (rate two)))) := envA_ap
      have n0 : (envA st (l.take (rate two)) (rowsN (l.length - rate two) (cap - rate two) (cap2 - rate two)) (vlT (.slice none 0 0) (.slice none 0 0) (os.take (rate two)))).nm 0 = l.length - rate two := by simp [envA, rowsN, repl]
      have n1 : (envA st (l.take (rate two)) (rowsN (l.length - rate two) (cap - rate two) (cap2 - rate two)) (vlT (.slice none 0 0) (.slice none 0 0) (os.take (rate two)))).nm 200 = cap - rate two := by simp [envA, rowsN, repl]
      have n2 : (envA st (l.take (rate two)) (rowsN (l.length - rate two) (cap - rate two) (cap2 - rate two)) (vlT (.slice none 0 0) (.slice none 0 0) (os.take (rate two)))).nm 201 = cap2 - rate two := by simp [envA, rowsN, repl]
      have vo : ∀ i, (envA st (l.take (rate two)) (rowsN (l.length - rate two) (cap - rate two) (cap2 - rate two)) (vlT (.slice none 0 0) (.slice none 0 0) (os.take (rate two)))).vl (10 + i) = (os.take (rate two)).getD i (.bool true) := fun i => by
        show vlT _ _ _ (10 + i) = _
        unfold vlT
        rw [if_neg (by omega), if_neg (by omega), if_pos (by omega), show 10 + i - 10 = i by omega]
      generalize envA st (l.take (rate two)) (rowsN (l.length - rate two) (cap - rate two) (cap2 - rate two)) (vlT (.slice none 0 0) (.slice none 0 0) (os.take (rate two))) = E at hE0 hsym hap n0 n1 n2 vo
      have hE : CfgOk Tryd.prog E w {} := cfgOk0 (r := []) hE0 fun p hp => nomatch hp
      have hm : MRel E (bl3 (ib, io) (ob, oo) (sb, so)) w [roB (win 0 (rate two)), rwB (oldA (rate two)), rwB (wsA [sT 0, sT 1, sT 2, sT 3, sT 4])] w := by
        refine start3 (win_wf _ _ _) (oldA_wf _ _) rfl hib hob hsb ?_ ?_ (by rw [(sT5 hsym).vals]; exact hin.st) (by rw [oldA_len]; exact fun j hj => hth2 j (by omega)) hin.th (.inl hoi) (.inl hsi) (.inl (Ne.symm hos))
        · have := win0 hsym (bl3 (ib, io) (ob, oo) (sb, so)) (by omega)
          rw [htl] at this
          rw [this]; exact hin1
        · have := oldA_den (bl := bl3 (ib, io) (ob, oo) (sb, so)) vo
          rw [hotl] at this
          rw [this]; exact ho1
      rw [rounds_succ]
      refine piece hE (KC_ok hE hap) mix hR (tL_keys _ _ _ _ _) (tL_wf rfl rfl _ _ _) (Nat.le_refl _) (by
        rw [tL_den (v := .slice (some ⟨ib, io, none⟩) (vals l).length cap) (u := .slice (some ⟨ob, oo, none⟩) l.length cap2) (sb := sb) (so := so) ?_ ?_ rfl]
        · exact hf
        · exact slc_den rfl (by show E.nm 200 + _ = _; rw [n1]; omega) (by omega) (by rw [vals_length]; show E.nm 0 + _ = _; rw [n0]; omega)
        · exact slc_den rfl (by show E.nm 201 + _ = _; rw [n2]; omega) (by omega) (by show E.nm 0 + _ = _; rw [n0]; omega)) hm gok0 fun bl' a' w' hag hf' hm' => ?_
      have hb0 : bl' 0 = (ib, io) := hag 0 (by show 0 < 3; decide)
      have hb1 : bl' 1 = (ob, oo) := hag 1 (by show 1 < 3; decide)
      have hb2 : bl' 2 = (sb, so) := hag 2 (by show 2 < 3; decide)
      obtain ⟨hc, hat1', hat2'⟩ := end3 hm' hb1 hb2
      rw [roundLen, outs_len] at hc
      have hst' : At w' sb so (perm r (absorb two st (if back then xorl (sbytes two st) (l.take (rate two)) else l.take (rate two)))).vals := by
        rw [roundDen hsym hap two back htl] at hat2'
        exact hat2'
      have hout : At w' ob oo (vals (xorl (sbytes two st) (l.take (rate two)))) := by
        have := outs_den hsym bl' two (by omega)
        rw [htl] at this
        rw [this] at hat1'
        exact hat1'
      have hc2 : Chg w w' [(sb, so, 5), (ob, oo, rate two)] := hc.mono fun q hq _ => by
        simp only [List.mem_cons, List.not_mem_nil, or_false] at hq
        rcases hq with rfl | rfl
        · exact ⟨_, List.mem_cons_self .., rfl, Nat.le_refl _, Nat.le_refl _⟩
        · exact ⟨_, List.mem_cons_of_mem _ (List.mem_cons_self ..), rfl, Nat.le_refl _, Nat.le_refl _⟩
      let v' : Value := .slice (some (if cap - rate two = 0 then ⟨ib, io, none⟩ else ⟨ib, io + rate two, none⟩)) (l.length - rate two) (cap - rate two)
      let u' : Value := .slice (some (if cap2 - rate two = 0 then ⟨ob, oo, none⟩ else ⟨ob, oo + rate two, none⟩)) (l.length - rate two) (cap2 - rate two)
      have hv' : (AV.one (.c (.slc 0 0 (rate two) ⟨1, 0⟩ ⟨201, 0⟩))).den E bl' = v' := by
        show Value.slice (some (if _ then _ else _)) _ _ = _
        have e1 : (⟨1, 0⟩ : AN).val E = l.length - rate two := by show E.nm 0 + _ = _; rw [n0]; rfl
        have e2 : (⟨201, 0⟩ : AN).val E = cap - rate two := by show E.nm 200 + _ = _; rw [n1]; rfl
        rw [e1, e2]
        simp only [at_, hb0, Nat.add_zero, v']
      have hu' : (AV.one (.c (.slc 1 0 (rate two) ⟨1, 0⟩ ⟨202, 0⟩))).den E bl' = u' := by
        show Value.slice (some (if _ then _ else _)) _ _ = _
        have e1 : (⟨1, 0⟩ : AN).val E = l.length - rate two := by show E.nm 0 + _ = _; rw [n0]; rfl
        have e2 : (⟨202, 0⟩ : AN).val E = cap2 - rate two := by show E.nm 201 + _ = _; rw [n2]; rfl
        rw [e1, e2]
        simp only [at_, hb1, Nat.add_zero, u']
      rw [tL_den hv' hu' hb2] at hf'
      have hdrop : At w' ib (io + rate two) (vals (l.drop (rate two))) := hc2.at hin2 fun q hq => by
        simp only [List.mem_cons, List.not_mem_nil, or_false] at hq
        rcases hq with rfl | rfl
        · exact .inl hsi
        · exact .inl hoi
      have hodrop : At w' ob (oo + rate two) (os.drop (rate two)) := hc2.at ho2 fun q hq => by
        simp only [List.mem_cons, List.not_mem_nil, or_false] at hq
        rcases hq with rfl | rfl
        · exact .inl (Ne.symm hos)
        · exact .inr (.inl (Nat.le_refl _))
      have blockOf : ∀ {x y : Nat} {z : Nat} {p q : Nat} {c : Nat} {b o n c' : Nat}, Value.slice (some (if c - rate two = 0 then ⟨x, y, none⟩ else ⟨x, z, none⟩)) p q = .slice (some ⟨b, o, none⟩) n c' → b = x := fun {x y z p q c b o n c'} e => by
        simp only [Value.slice.injEq, Option.some.injEq] at e
        have := e.1
        split at this <;> (injection this with h _ _; exact h.symm)
      have hin' : TIn w' v' u' (l.drop (rate two)) (perm r (absorb two st (if back then xorl (sbytes two st) (l.take (rate two)) else l.take (rate two)))) sb so ob (oo + rate two) := by
        refine ⟨.inr ⟨_, _, by simp only [v', vals_length, List.length_drop]; rfl, by rw [vals_length, List.length_drop]; omega, fun j x hx => ?_⟩, ?_, fun b o n c e _ => ?_, fun b o n c e _ => ?_, fun _ => hos, hst', hc2.thaw hsb hin.th⟩
        · have hj := (List.getElem?_eq_some_iff.1 hx).1
          rw [vals_length, List.length_drop] at hj
          rw [if_neg (by omega), Addr.add_lit]
          exact hdrop j x hx
        · rcases Nat.eq_zero_or_pos (l.drop (rate two)).length with h0 | h0
          · refine .inl ⟨h0, .inr ⟨_, _, by simp only [u']; rw [List.length_drop] at h0; rw [h0]; rfl, Nat.zero_le _, fun j x hx => nomatch hx⟩⟩
          · rw [List.length_drop] at h0
            refine .inr ⟨by rw [List.length_drop]; exact h0, cap2 - rate two, os.drop (rate two), ?_, by rw [List.length_drop]; omega, by simp [hosl], fun x hx => hone x (List.mem_of_mem_drop hx), hodrop, fun j hj => ?_⟩
            · simp only [u', List.length_drop]
              rw [if_neg (by omega)]
            · rw [hc2.keepf ob _ hob, Nat.add_assoc]
              exact hth2 _ (by rw [List.length_drop] at hj; omega)
        · rw [blockOf e]; exact Ne.symm hsi
        · rw [blockOf e]; exact Ne.symm hoi
      refine ih (l.drop (rate two)) _ v' u' ob (oo + rate two) a' w' (by simp only [List.length_drop]; omega) (by simp only [List.length_drop]; omega) hf' hin' fun done l' st' v'' u'' oo' a'' w'' h1 h2 h3 h4 h5 h6 h7 h8 => ?_
      have hxl : (xorl (sbytes two st) (l.take (rate two))).length = rate two := by rw [xorl_length, sbytes_length, htl]; omega
      refine hq (xorl (sbytes two st) (l.take (rate two)) ++ done) l' st' v'' u'' oo' a'' w'' ?_ h2 ?_ ?_ h5 h6 ?_ (chg_join hc2 (by rw [← List.length_drop]; exact h8) hlen)
      · rw [crypt_long (md := ⟨two, r⟩) hlen]
        simp only [h1, List.append_assoc]
      · rw [List.length_append, hxl, Nat.add_assoc, h3, List.length_drop]; omega
      · rw [h4, List.length_append, hxl, Nat.add_assoc]
      · rw [vals_append]
        refine At.append.2 ⟨h8.at hout fun q hq => ?_, by rw [vals_length, hxl]; exact h7⟩
        simp only [List.mem_cons, List.not_mem_nil, or_false] at hq
        rcases hq with rfl | rfl
        · exact .inl (Ne.symm hos)
        · exact .inr (.inr (by show oo + (vals _).length ≤ oo + rate two; rw [vals_length, hxl]; exact Nat.le_refl _))
    · exact short (N + 1) l st v u ob oo a w (by omega) hf hin hq
end Go.Proofs.YtfilandehjmikaaDoor.Asc
