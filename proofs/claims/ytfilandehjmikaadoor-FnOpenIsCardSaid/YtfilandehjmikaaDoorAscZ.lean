/- The code's procText as a contract. No condition. -/
import Derived.Test.YtfilandehjmikaaDoorAscY
namespace Go.Proofs.YtfilandehjmikaaDoor.Asc
open Go.RowKit Go.Proofs.YtfilandehjmikaaDoor.Sx

def qL0 (back : Bool) : List (Nat × AV) := [(0, ptV 0), (1, opV 0), (2, opV 1), (3, .one (.c (.v (.bool (!back))))), (4, opV 3)]
def qL1 (m : Nat) (back : Bool) : List (Nat × AV) := [(0, ptV 0), (1, opV 0), (2, opV 1), (3, .one (.c (.v (.bool (!back))))), (4, opV 3), (10, i64 (rate (mdOf m).two))]
def qL2 (m : Nat) (back : Bool) : List (Nat × AV) := [(1, opV 0), (2, opV 1), (3, .one (.c (.v (.bool (!back))))), (4, opV 3), (10, i64 (rate (mdOf m).two)), (11, i64 (mdOf m).r)]
def qL3 (m : Nat) (back : Bool) : List (Nat × AV) := [(1, opV 0), (2, opV 1), (3, .one (.c (.v (.bool (!back))))), (4, opV 3), (10, i64 (rate (mdOf m).two)), (11, i64 (mdOf m).r), (12, u64L 0)]
def qL4 (m : Nat) (back : Bool) : List (Nat × AV) := [(1, opV 0), (2, opV 1), (4, opV 3), (10, i64 (rate (mdOf m).two)), (11, i64 (mdOf m).r), (12, mask back)]
noncomputable def tPre (m : Nat) (back : Bool) : Bool :=
  endsAt .nrm (qL1 m back) [ciph m] (aCode Tryd.prog {} (KC {}) 159 100 tR0 (mkTr (qL0 back)) [ciph m]) &&
  endsAt .nrm (qL2 m back) [ciph m] (aCode Tryd.prog {} (KC {}) 159 100 tR1 (mkTr (qL1 m back)) [ciph m]) &&
  endsAt .nrm (qL3 m back) [ciph m] (aCode Tryd.prog {} (KC {}) 159 100 tR2 (mkTr (qL2 m back)) [ciph m]) &&
  endsAt .nrm (qL4 m back) [ciph m] (aCode Tryd.prog {} (KC {}) 159 100 tIf (mkTr (qL3 m back)) [ciph m])
theorem tPre_all : ([0, 1, 2].all fun m => tPre m true && tPre m false) = true := by kernel_rfl
theorem tPre_at {m : Nat} (hm : m ≤ 2) (b : Bool) : tPre m b = true := by
  have := List.all_eq_true.1 tPre_all m (by simp; omega)
  simp only [Bool.and_eq_true] at this
  cases b
  · exact this.2
  · exact this.1
def vlQ (v u p : Value) (c0 c1 c2 : Value) : Nat → Value := fun i => match i with
  | 0 => v
  | 1 => u
  | 3 => p
  | 20 => c0
  | 21 => c1
  | 22 => c2
  | _ => .bool true
theorem outV_one {w : World} {u : Value} {ob oo n : Nat} (h : OutV w u ob oo n) : u.oneCell' = true := by
  rcases h with ⟨_, h⟩ | ⟨_, _, _, rfl, _⟩
  · exact slV_one h
  · rfl
theorem endDen {E : Env} {st : St} {l : List B8} (hsym : SymOk E st l) (two back : Bool) (hl : l.length < rate two) : Is5 E (endT two back l.length) (absorb two st (padl (rate two) (if back then xorl (sbytes two st) l else l))) := by
  cases back with
  | true => exact backT_den hsym two (rate two) (by omega)
  | false => exact tailT_den hsym two (rate two)
theorem endLen (two back : Bool) (k : Nat) : (wsA (endT two back k)).length = 5 := by cases back <;> cases two <;> rfl
set_option maxHeartbeats 1000000 in
theorem text_calls {m : Nat} (hm : m ≤ 2) (back : Bool) {l : List B8} (hl : l.length ≤ 1099511627776) {w : World} {cb co sb so ob oo : Nat} {v u : Value} {st : St} {c0 c1 c2 : Value} (hc0 : c0.oneCell' = true) (hc1 : c1.oneCell' = true) (hc2 : c2.oneCell' = true)
    (hc : At w cb co [c0, c1, c2, .int .i64 (cmode m)]) (hin : TIn w v u l st sb so ob oo) :
    Calls Tryd.prog 34 #[ptrTo cb co, v, u, .bool (!back), ptrTo sb so] w fun e w' => e = .returned (.tuple #[]) ∧ Chg w w' [(sb, so, 5), (ob, oo, l.length)] ∧ At w' sb so (crypt (mdOf m) back st l).2.vals ∧ At w' ob oo (vals (crypt (mdOf m) back st l).1) := by
  have hsb : sb < w.heap.size := at_lt hin.st (by simp [St.vals])
  have hmd := mdOf_is m
  have h16 := rate_le (mdOf m).two
  obtain ⟨fn, hfn, hbody, hnt, hres⟩ : ∃ fn, Tryd.prog.funcs[34]? = some fn ∧ fn.body = some t34 ∧ fn.ntmps = 159 ∧ fn.results = #[] := ⟨_, rfl, rfl, rfl, rfl⟩
  refine calls_of_wp hfn hbody ?_
  rw [hnt, t34_eq]
  have hE0 := envA_ok (st := st) (blk := []) (rows := rowsN 0 0 0) (vl := vlQ v u (ptrTo sb so) c0 c1 c2) (fun i => by
    unfold vlQ; split <;> first | exact slV_one hin.src | exact outV_one hin.out | exact hc0 | exact hc1 | exact hc2 | rfl) (rowsN_le (by decide)) rowsN_one
  have hap : ApOk (envA st [] (rowsN 0 0 0) (vlQ v u (ptrTo sb so) c0 c1 c2)) := envA_ap
  have e0 : (envA st [] (rowsN 0 0 0) (vlQ v u (ptrTo sb so) c0 c1 c2)).vl 0 = v := rfl
  have e1 : (envA st [] (rowsN 0 0 0) (vlQ v u (ptrTo sb so) c0 c1 c2)).vl 1 = u := rfl
  have e3 : (envA st [] (rowsN 0 0 0) (vlQ v u (ptrTo sb so) c0 c1 c2)).vl 3 = ptrTo sb so := rfl
  have hm0 := ciph_at (E := envA st [] (rowsN 0 0 0) (vlQ v u (ptrTo sb so) c0 c1 c2)) rfl rfl rfl hc
  generalize envA st [] (rowsN 0 0 0) (vlQ v u (ptrTo sb so) c0 c1 c2) = E at hE0 hap e0 e1 e3 hm0
  have hE : CfgOk Tryd.prog E w {} := cfgOk0 (r := []) hE0 fun p hp => nomatch hp
  have hpre := tPre_at hm back
  simp only [tPre, Bool.and_eq_true] at hpre
  obtain ⟨⟨⟨p0, p1⟩, p2⟩, p3⟩ := hpre
  have hst := start_rel (E := E) (w0 := w) (G := {}) (nt := 159) (args := [.c (.ptr 0 0), .c (.o 0), .c (.o 1), .c (.v (.bool (!back))), .c (.o 3)]) hm0 gok0 (fun x hx => by
    simp only [List.mem_cons, List.not_mem_nil, or_false] at hx
    rcases hx with rfl | rfl | rfl | rfl | rfl <;> rfl) (by show 5 ≤ 159; decide)
  have hargs : ([.c (.ptr 0 0), .c (.o 0), .c (.o 1), .c (.v (.bool (!back))), .c (.o 3)] : List A1).map (A1.den E fun _ => (cb, co)) = [ptrTo cb co, v, u, .bool (!back), ptrTo sb so] := by
    simp only [List.map, A1.den, AC.den, e0, e1, e3]; rfl
  rw [hargs] at hst
  refine wp_seq (code_wp hE (KC_ok hE hap) mix p0 (Nat.le_refl _) hst fun bl1 a1 w1 g1 h1 => ?_)
  refine wp_seq (code_wp hE (KC_ok hE hap) mix p1 (Nat.le_refl _) h1 fun bl2 a2 w2 g2 h2 => ?_)
  refine wp_seq (code_wp hE (KC_ok hE hap) mix p2 (Nat.le_refl _) h2 fun bl3' a3 w3 g3 h3 => ?_)
  refine wp_seq (code_wp hE (KC_ok hE hap) mix p3 (Nat.le_refl _) h3 fun bl4 a4 w4 g4 h4 => ?_)
  have hf4 := h4.fr (by
    intro p hp
    simp only [qL4, List.mem_cons, List.not_mem_nil, or_false] at hp
    rcases hp with rfl | rfl | rfl | rfl | rfl | rfl <;> rfl)
  have hb4 := endR h4.mem
  have hf4' : Fr 159 a4 (tV v u (ptrTo sb so) (mdOf m).two back (mdOf m).r) := ⟨hf4.defers, hf4.size, fun p hp => by
    simp only [tV, List.mem_cons, List.not_mem_nil, or_false] at hp
    rcases hp with rfl | rfl | rfl | rfl | rfl | rfl
    · rw [hf4.get (1, (opV 0).den E bl4) (by simp [denL, qL4])]; exact e0
    · rw [hf4.get (2, (opV 1).den E bl4) (by simp [denL, qL4])]; exact e1
    · rw [hf4.get (4, (opV 3).den E bl4) (by simp [denL, qL4])]; exact e3
    · rw [hf4.get (10, (i64 (rate (mdOf m).two)).den E bl4) (by simp [denL, qL4])]; rfl
    · rw [hf4.get (11, (i64 (mdOf m).r).den E bl4) (by simp [denL, qL4])]; rfl
    · rw [hf4.get (12, (mask back).den E bl4) (by simp [denL, qL4])]; cases back <;> rfl⟩
  have c4 : Chg w w4 [(sb, so, 5), (ob, oo, l.length)] := .of_below hb4
  have hin4 : TIn w4 v u l st sb so ob oo := by
    refine ⟨hin.src.below hb4, ?_, hin.ns, hin.no, hin.oz, hin.st.below hb4, c4.thaw hsb hin.th⟩
    rcases hin.out with ⟨h0, hu⟩ | ⟨h0, cap, os, q1, q2, q3, q4, q5, q6⟩
    · exact .inl ⟨h0, slV_nil hu⟩
    · exact .inr ⟨h0, cap, os, q1, q2, q3, q4, q5.below hb4, c4.thaw (at_lt q5 (by intro e; rw [e] at q3; rw [← q3] at h0; exact absurd h0 (by decide))) q6⟩
  have hk : ∀ k, k < rate (mdOf m).two → tExit (mdOf m).two back (mdOf m).r k = true ∧ tEnd (mdOf m).two back (mdOf m).r k = true := fun k hk => tLeft _ _ _ k (by
    rcases hmd with ⟨h1, h2⟩ | ⟨h1, h2⟩
    · exact .inl ⟨h1, h2, by rw [h1] at hk; exact hk⟩
    · exact .inr ⟨h1, h2, by rw [h1] at hk; exact hk⟩)
  refine wp_seq (wp_block (wp_loop_rounds (l.length + 1) (text_rounds (tRounds _ _ _ hmd) (fun k h => (hk k h).1) l.length l st v u ob oo a4 w4 (Nat.le_refl _) hl hf4' hin4 fun done l' st' v' u' oo' a' w' q1 q2 q3 q4 q5 q6 q7 q8 => ?_)))
  obtain ⟨E', bl', ob', oo'', hsym, hap', hE', hb1, hob, hob0, hb2, hm', hv⟩ := text_left (two := (mdOf m).two) q2 q6
  refine piece hE' (KC_ok hE' hap') mix (hk l'.length q2).2 (fun _ h => nomatch h) (tL_wf (leftV_wf _ _) (leftV2_wf _ _) _ _ _) (Nat.le_refl _) (by rw [tL_den (hv bl' rfl rfl).1 (hv bl' rfl rfl).2 hb2]; exact q5) hm' (by rw [leftG_g]; exact gok0) fun bl5 a5 w5 hag hf5 hm5 => ?_
  have hb51 : bl5 1 = (ob', oo'') := by rw [hag 1 (by show 1 < 3; decide)]; exact hb1
  have hb52 : bl5 2 = (sb, so) := by rw [hag 2 (by show 2 < 3; decide)]; exact hb2
  obtain ⟨hc5, hat1, hat2⟩ := end3 hm5 hb51 hb52
  rw [outs_len, endLen] at hc5
  rw [(endDen hsym (mdOf m).two back q2).vals] at hat2
  have ho := outs_den hsym bl5 (mdOf m).two (by omega)
  rw [ho] at hat1
  have hfin : crypt (mdOf m) back st l = (done ++ xorl (sbytes (mdOf m).two st') l', absorb (mdOf m).two st' (padl (rate (mdOf m).two) (if back then xorl (sbytes (mdOf m).two st') l' else l'))) := by
    rw [show crypt (mdOf m) back st l = _ from q1, show crypt ⟨(mdOf m).two, (mdOf m).r⟩ back st' l' = _ from crypt_short (md := mdOf m) q2]
  have hxl : (xorl (sbytes (mdOf m).two st') l').length = l'.length := by rw [xorl_length, sbytes_length]; omega
  have hcc : Chg w' w5 [(sb, so, 5), (ob, oo', l'.length)] := hc5.mono fun q hq _ => by
    simp only [List.mem_cons, List.not_mem_nil, or_false] at hq
    rcases hq with rfl | rfl
    · exact ⟨_, List.mem_cons_self .., rfl, Nat.le_refl _, Nat.le_refl _⟩
    · by_cases h0 : l' = []
      · obtain ⟨rfl, rfl⟩ := hob0 h0
        exact ⟨_, List.mem_cons_self .., rfl, by show so ≤ so + 5; omega, by show so + 5 + l'.length ≤ so + 5; rw [h0]; simp⟩
      · obtain ⟨rfl, rfl⟩ := hob h0
        exact ⟨_, List.mem_cons_of_mem _ (List.mem_cons_self ..), rfl, Nat.le_refl _, Nat.le_refl _⟩
  have hcl : Chg w' w5 [(sb, so, 5), (ob, oo, l.length)] := hcc.mono fun q hq _ => by
    simp only [List.mem_cons, List.not_mem_nil, or_false] at hq
    rcases hq with rfl | rfl
    · exact ⟨_, List.mem_cons_self .., rfl, Nat.le_refl _, Nat.le_refl _⟩
    · exact ⟨_, List.mem_cons_of_mem _ (List.mem_cons_self ..), rfl, by show oo ≤ oo'; omega, by show oo' + l'.length ≤ oo + l.length; omega⟩
  refine ⟨hf5.defers, _, res_nil hres _ _, rfl, c4.trans (q8.trans hcl), ?_, ?_⟩
  · rw [hfin]; exact hat2
  · rw [hfin]
    show At w5 ob oo (vals (done ++ _))
    rw [vals_append]
    refine At.append.2 ⟨?_, ?_⟩
    · by_cases hd : done = []
      · rw [hd]; exact fun j x hx => nomatch hx
      · have hne : l ≠ [] := by
          intro e; rw [e] at q3
          have : done.length = 0 := by simp only [List.length_nil] at q3; omega
          exact hd (List.length_eq_zero_iff.1 this)
        refine hcc.at q7 fun q hq => ?_
        simp only [List.mem_cons, List.not_mem_nil, or_false] at hq
        rcases hq with rfl | rfl
        · exact .inl (Ne.symm (hin.oz hne))
        · exact .inr (.inr (by show oo + (vals done).length ≤ oo'; rw [vals_length]; omega))
    · rw [vals_length, ← q4]
      by_cases h0 : l' = []
      · rw [h0]
        intro j x hx
        simp [xorl, vals] at hx
      · obtain ⟨rfl, rfl⟩ := hob h0
        exact hat1
end Go.Proofs.YtfilandehjmikaaDoor.Asc
