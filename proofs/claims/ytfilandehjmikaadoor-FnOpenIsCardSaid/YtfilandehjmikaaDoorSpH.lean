/- The specification's padded as a contract. The closed runs over the specification's Data. The specification's Data as a contract. No condition. -/
import Derived.Test.YtfilandehjmikaaDoorSpE
namespace Go.Proofs.YtfilandehjmikaaDoor.Asc
open Go.RowKit Go.Proofs.YtfilandehjmikaaDoor.Sx

/-- The remainders that the run asks for. -/
def padG (n q : Nat) : Cfg := { so := [(0, 1, [])], cm := (List.range (n - q)).map fun j => (.rem, 3, .n ⟨1, 1 + j⟩, .v (.int .i64 (Int.ofNat n)), .v (.int .i64 (Int.ofNat ((q + 1 + j) % n)))) }
def padC (n q : Nat) : List AC := .v (.int .u8 128) :: List.replicate (n - 1 - q) (.v (.int .u8 0))
noncomputable def padOk (two : Bool) (r q : Nat) : Bool :=
  endsF [.d 1 (padC (rate two) q)] [] (runF Tryd.prog (padG (rate two) q) noK 100 39 [.a (modeA two r), .c (.o 0)] [])
theorem pad_8 : ((List.range 8).all fun q => padOk false 6 q) = true := by kernel_rfl
theorem pad_16 : ((List.range 16).all fun q => padOk true 8 q) = true := by kernel_rfl
theorem padOks {two : Bool} {r q : Nat} (h : (two = false ∧ r = 6) ∨ (two = true ∧ r = 8)) (hq : q < rate two) : padOk two r q = true := by
  rcases h with ⟨rfl, rfl⟩ | ⟨rfl, rfl⟩
  · exact List.all_eq_true.1 pad_8 q (List.mem_range.2 hq)
  · exact List.all_eq_true.1 pad_16 q (List.mem_range.2 hq)
theorem run_rem3 (w : World) (a b : Nat) (hb : 0 < b) (hb' : b ≤ 4096) (c : Nat) (hc : c = a % b) : (binOp .rem 3 (.int .i64 (a : Int)) (.int .i64 (b : Int))).run Tryd.prog w = .ok (.int .i64 (c : Int)) w := by
  have hne : ¬ b = 0 := by omega
  have ht : (a : Int).tmod b = (c : Int) := by
    rw [Int.tmod_eq_emod_of_nonneg (by omega), ← Int.natCast_emod, ← hc]
  simp [binOp, Op.intDiv, hne, ht]
theorem one_binN {E : Env} {op : BinOp} {x y r : AC} {a b : Int} {v : Value} (hx : ∀ bl, x.den E bl = .int .i64 a) (hy : ∀ bl, y.den E bl = .int .i64 b) (hr : ∀ bl, r.den E bl = v) (hw : r.wf 0 = true)
    (h : ∀ (w : World), (binOp op 3 (.int .i64 a) (.int .i64 b)).run Tryd.prog w = .ok v w) : r.wf 0 = true ∧ ∀ (bl : Bl) (w : World) (u v : Operand),
      (do eqGuard op 3 u v (x.den E bl) (y.den E bl); binOp op 3 (x.den E bl) (y.den E bl) : Sem Value).run Tryd.prog w = .ok (r.den E bl) w :=
  ⟨hw, fun bl w u v' => by rw [hx, hy, hr]; simp only [Sem.run_bind, run_eqGuard_int, Result.andThen_ok, h]⟩
theorem padded_calls {m : Nat} {l : List B8} (hl : l.length ≤ 1048576) {w : World} {v kv : Value} (hkv : kv.oneCell' = true) (hs : SlV w v (vals l)) :
    Calls Tryd.prog 39 #[.agg (modeV kv (mdOf m).two (mdOf m).r).toArray, v] w fun e w' => ∃ g cap u, e = .returned u ∧ Below w.heap.size w w' ∧ OwnG w w' g cap u (vals (padAll (rate (mdOf m).two) l)) := by
  have hmd := mdOf_is m
  have hp := rate_pos (mdOf m).two
  have h16 := rate_le (mdOf m).two
  have hE0 := envA_ok (st := st0) (blk := []) (rows := rowsS l 0 0) (vl := vlS v (.bool true) (.bool true) kv) (vlS_one (slV_one hs) rfl rfl hkv) (rowsS_le (by omega) (by simp)) rowsS_one
  have e0 : (envA st0 [] (rowsS l 0 0) (vlS v (.bool true) (.bool true) kv)).vl 0 = v := rfl
  have e30 : (envA st0 [] (rowsS l 0 0) (vlS v (.bool true) (.bool true) kv)).vl 30 = kv := rfl
  have hrow : (envA st0 [] (rowsS l 0 0) (vlS v (.bool true) (.bool true) kv)).row 0 = vals l := rfl
  generalize envA st0 [] (rowsS l 0 0) (vlS v (.bool true) (.bool true) kv) = E at hE0 e0 e30 hrow
  have hlo : (rowOf E 1).length = l.length := by show (E.row 0).length = _; rw [hrow, vals_length]
  have hG : CfgOk Tryd.prog E w (padG (rate (mdOf m).two) (l.length % rate (mdOf m).two)) := ⟨hE0, (fun p hp => nomatch hp), (fun p hp => nomatch hp), (fun p hp' => by
    obtain ⟨j, hj, rfl⟩ := List.mem_map.1 hp'
    refine one_binN (a := ((l.length + (1 + j) : Nat) : Int)) (b := ((rate (mdOf m).two : Nat) : Int)) (fun _ => by show Value.int .i64 ((⟨1, 1 + j⟩ : AN).val E : Int) = _; rw [rowVal hE0, hlo]) (fun _ => rfl) (fun _ => rfl) rfl fun w => run_rem3 w _ _ hp (by omega) _ ?_
    rw [show l.length + (1 + j) = l.length + (1 + j) from rfl, Nat.add_mod l.length, Nat.add_assoc (l.length % _), Nat.add_mod (l.length % _), Nat.mod_mod]), (fun p hp' => by
    have hp'' : p = (0, 1, []) := by simpa [padG] using hp'
    subst hp''
    refine ⟨rfl, ?_⟩
    show SlV w (E.vl 0) (E.row 0 ++ [])
    rw [e0, hrow, List.append_nil]; exact hs), (fun p hp => nomatch hp), (fun p hp => nomatch hp)⟩
  have hrun := padOks hmd (Nat.mod_lt l.length hp)
  have := fn_calls (bl := fun _ => (0, 0)) hG noK_ok mix hrun (MRel.nil E _ w) gok0 (by rfl)
  rw [show ([.a (modeA (mdOf m).two (mdOf m).r), .c (.o 0)] : List A1).map (A1.den E fun _ => (0, 0)) = [.agg (modeV kv (mdOf m).two (mdOf m).r).toArray, v] by
    simp only [List.map, A1.den, AC.den, modeA_den e30, e0]] at this
  refine this.mono fun e w' ⟨bl', vs, he, hr, _, hm'⟩ => ?_
  obtain ⟨v', q1, g, cap', q2, _⟩ := rsOne' hr
  refine ⟨g, cap', v', by rw [he, q1], belowNil hm', ?_⟩
  have hc : rowOf E 1 ++ (padC (rate (mdOf m).two) (l.length % rate (mdOf m).two)).map (AC.den E fun _ => (0, 0)) = vals (padAll (rate (mdOf m).two) l) := by
    show E.row 0 ++ _ = _
    rw [hrow]
    unfold padAll
    rw [vals_append]
    congr 1
    simp only [padC, vals, List.map_cons, List.map_replicate, AC.den, bval]
    rfl
  rw [hc] at q2
  exact q2
end Go.Proofs.YtfilandehjmikaaDoor.Asc
namespace Go.Proofs.YtfilandehjmikaaDoor.Asc
open Go.RowKit Go.Proofs.YtfilandehjmikaaDoor.Sx

noncomputable def d26 : Code := bodyOf 26
noncomputable def dR0 : Code := pA d26
noncomputable def dR1 : Code := pA (pA (pB d26))
noncomputable def dIf : Code := pB (pA (pB d26))
noncomputable def dR2 : Code := pA (pC dIf)
noncomputable def dLp : Code := pL (pK (pB (pC dIf)))
noncomputable def dFin : Code := pB (pB d26)
theorem d26_eq : d26 = .seq dR0 (.seq (.seq dR1 (.cond (.tmp 10) (.seq dR2 (.block 0 (.loop dLp))) .skip)) dFin) := by kernel_rfl
/-- The table, with padded: what it answers is row 2. -/
def padK (two : Bool) (r : Nat) : CallF := fun f args m =>
  if Nat.beq f 39 then match args with
    | [.a l, .c (.o 0)] => if lBeq l (modeA two r) && m.all (fun b => !b.rw || b.own) then some (.one (.c (.dy m.length 2 0 ⟨2, 0⟩)), m ++ [newMB 2 [], capMB]) else none
    | _ => none
  else none
def dL (x : AV) : List (Nat × AV) := [(3, ptV 1), (4, ptV 2), (6, opV 9), (7, x)]
noncomputable def dPre (two : Bool) (r : Nat) (b : Bool) : Bool :=
  endsAt .nrm [(2, opV 0), (3, ptV 0), (4, ptV 1), (6, ptV 2)] [owB (modeA two r), owB stA, owB zeroA5]
    (aCode Tryd.prog (preG b) noK 35 100 dR0 (mkTr [(0, .one (.a (modeA two r))), (1, .one (.a stA)), (2, opV 0)]) []) &&
  endsAt .nrm [(2, opV 0), (3, ptV 0), (4, ptV 1), (6, ptV 2), (10, .one (.c (.v (.bool b))))] [owB (modeA two r), owB stA, owB zeroA5]
    (aCode Tryd.prog (preG b) noK 35 100 dR1 (mkTr [(2, opV 0), (3, ptV 0), (4, ptV 1), (6, ptV 2)]) [owB (modeA two r), owB stA, owB zeroA5])
noncomputable def dPad (two : Bool) (r : Nat) : Bool :=
  endsD .nrm [(3, ptV 0), (4, ptV 1), (6, ptV 2)] [owB (modeA two r), owB stA, owB zeroA5] [(7, 2, [])]
    (aCode Tryd.prog {} (padK two r) 35 100 dR2 (mkTr [(2, opV 0), (3, ptV 0), (4, ptV 1), (6, ptV 2)]) [owB (modeA two r), owB stA, owB zeroA5])
noncomputable def dRound (two : Bool) (r : Nat) : Bool :=
  endsAt .nrm (dL (slC (rate two))) [roB (win 0 (rate two)), roB (modeA two r), rwB (permA r (absT two))]
    (aCode Tryd.prog {} (KS {}) 35 100 dLp (mkTr (dL (slV 0 ⟨2, rate two⟩ ⟨201, rate two⟩))) [roB (win 0 (rate two)), roB (modeA two r), rwB stA])
noncomputable def dExit : Bool :=
  endsAt (.exit 0) [(3, opV 3), (4, opV 4), (6, opV 9), (7, opV 0)] []
    (aCode Tryd.prog emG noK 35 100 dLp (mkTr [(3, opV 3), (4, opV 4), (6, opV 9), (7, opV 0)]) [])
noncomputable def dLast : Bool :=
  endsR Tryd.prog [.cell 6 48] [.v (.a (wsA [sT 0, sT 1, sT 2, sT 3, mkXor (sT 4) (.k 1)]))] [rwB (wsA [sT 0, sT 1, sT 2, sT 3, mkXor (sT 4) (.k 1)]), rwB (wsA [sT 0, sT 1, sT 2, sT 3, mkXor (sT 4) (.k 1)])]
    (aCode Tryd.prog {} noK 35 100 dFin (mkTr [(4, ptV 0), (6, ptV 1)]) [rwB stA, rwB zeroA5])
theorem dPre_all : (dPre false 6 false && dPre false 6 true && dPre true 8 false && dPre true 8 true) = true := by kernel_rfl
theorem dPad_all : (dPad false 6 && dPad true 8) = true := by kernel_rfl
theorem dRound_all : (dRound false 6 && dRound true 8) = true := by kernel_rfl
theorem dExit_ok : dExit = true := by kernel_rfl
theorem dLast_ok : dLast = true := by kernel_rfl
end Go.Proofs.YtfilandehjmikaaDoor.Asc
namespace Go.Proofs.YtfilandehjmikaaDoor.Asc
open Go.RowKit Go.Proofs.YtfilandehjmikaaDoor.Sx

theorem absorbAll_long {md : Md} {s : St} {l : List B8} (h : rate md.two ≤ l.length) : absorbAll md s l = absorbAll md (perm md.r (absorb md.two s (l.take (rate md.two)))) (l.drop (rate md.two)) := by
  conv => lhs; rw [absorbAll]
  rw [if_pos h]
theorem absorbAll_nil {md : Md} {s : St} : absorbAll md s [] = s := by
  rw [absorbAll, if_neg (by have := rate_pos md.two; simp; omega)]
theorem padAll_mod {n : Nat} (hn : 0 < n) (l : List B8) : (padAll n l).length % n = 0 := by
  unfold padAll
  have h := Nat.mod_lt l.length hn
  have e : l.length = n * (l.length / n) + l.length % n := (Nat.div_add_mod _ _).symm
  simp only [List.length_append, List.length_cons, List.length_replicate]
  rw [show l.length + (n - 1 - l.length % n + 1) = n * (l.length / n + 1) by rw [Nat.mul_add]; omega]
  exact Nat.mul_mod_right _ _
def vlD (v mp sp rp kv : Value) (n : Nat) : Nat → Value := fun i => match i with
  | 0 => v
  | 1 => .slice none 0 0
  | 2 => .int .i64 (n : Int)
  | 3 => mp
  | 4 => sp
  | 9 => rp
  | 30 => kv
  | _ => .bool true
theorem vlD_one {v mp sp rp kv : Value} {n : Nat} (h1 : v.oneCell' = true) (h2 : mp.oneCell' = true) (h3 : sp.oneCell' = true) (h4 : rp.oneCell' = true) (h5 : kv.oneCell' = true) (i : Nat) : (vlD v mp sp rp kv n i).oneCell' = true := by
  unfold vlD
  split <;> first | assumption | rfl
def dV (v mp sp rp : Value) : List (Nat × Value) := [(3, mp), (4, sp), (6, rp), (7, v)]
/-- What holds ahead of a round. -/
structure DIn (w : World) (v : Value) (l : List B8) (st : St) (mb mo sb so : Nat) (kv : Value) (two : Bool) (r : Nat) : Prop where
  src : SlV w v (vals l)
  ns : NotAt v sb
  md : At w mb mo (modeV kv two r)
  st : At w sb so st.vals
  th : Thaw w sb so 5
  ms : Far sb so 5 mb mo 3
section
variable {w : World} {v : Value} {l : List B8} {st : St} {mb mo sb so rb ro : Nat} {kv : Value} {two : Bool} {r : Nat}
theorem dL_den {E : Env} {bl : Bl} {x : AV} {rp : Value} (hx : x.den E bl = v) (h1 : bl 1 = (mb, mo)) (h2 : bl 2 = (sb, so)) (h9 : E.vl 9 = rp) : denL E bl (dL x) = dV v (ptrTo mb mo) (ptrTo sb so) rp := by
  simp only [denL, dL, dV, List.map, hx, ptV_den h1, ptV_den h2]
  rw [show (opV 9).den E bl = rp from h9]
theorem dL_keys (x : AV) : KeysOk (dL x) := by
  intro p hp
  simp only [dL, List.mem_cons, List.not_mem_nil, or_false] at hp
  rcases hp with rfl | rfl | rfl | rfl <;> rfl
theorem modeV_keep {w' : World} {R : List (Nat × Nat × Nat)} (h : At w mb mo (modeV kv two r)) (hc : Chg w w' R) (hR : ∀ q ∈ R, Far q.1 q.2.1 q.2.2 mb mo 3) : At w' mb mo (modeV kv two r) := hc.at h fun q hq => by
  have := hR q hq
  unfold Far at this
  exact this
set_option maxHeartbeats 1000000 in
theorem sdata_step (hR : dRound two r = true) {a : Act} {rp : Value} (hrp : rp.oneCell' = true) (hkv : kv.oneCell' = true) (hlen : rate two ≤ l.length) (hbig : l.length ≤ 1073741824) (hin : DIn w v l st mb mo sb so kv two r)
    (hf : Fr 35 a (dV v (ptrTo mb mo) (ptrTo sb so) rp)) {Q : Exit → Act → World → Prop}
    (hq : ∀ v' a' w', Fr 35 a' (dV v' (ptrTo mb mo) (ptrTo sb so) rp) → DIn w' v' (l.drop (rate two)) (perm r (absorb two st (l.take (rate two)))) mb mo sb so kv two r → Chg w w' [(sb, so, 5)] → Q .normal a' w') : dLp.wp Tryd.prog Q a w := by
  have h16 := rate_le two
  have hp := rate_pos two
  have hne : vals l ≠ [] := fun e => by have := congrArg List.length e; rw [vals_length, List.length_nil] at this; omega
  obtain ⟨hs, hn, hmd, ha, ht, hms⟩ := hin
  obtain ⟨ib, io, tcap, rfl, hle, hat, hib⟩ := hs.cons hne
  rw [vals_length] at hle
  have hsi : sb ≠ ib := Ne.symm (hn ib io _ tcap rfl (by rw [vals_length]; omega))
  have hsb : sb < w.heap.size := at_lt ha (by simp [St.vals])
  have htl : (l.take (rate two)).length = rate two := by simp; omega
  obtain ⟨hat1, hat2⟩ := At.append.1 ((tx_split (n := rate two)) ▸ hat : At w ib io (vals (l.take (rate two)) ++ vals (l.drop (rate two))))
  rw [vals_length, htl] at hat2
  have hE0 := envA_ok (st := st) (blk := l.take (rate two)) (rows := rowsS [] (l.length - rate two) (tcap - rate two)) (vl := vlD (.slice none 0 0) (.bool true) (.bool true) rp kv 0) (vlD_one rfl rfl rfl hrp hkv) (rowsS_le (by simp) (by omega)) rowsS_one
  have hsym : SymOk (envA st (l.take (rate two)) (rowsS [] (l.length - rate two) (tcap - rate two)) (vlD (.slice none 0 0) (.bool true) (.bool true) rp kv 0)) st (l.take (rate two)) := envA_sym
  have hap : ApOk (envA st (l.take (rate two)) (rowsS [] (l.length - rate two) (tcap - rate two)) (vlD (.slice none 0 0) (.bool true) (.bool true) rp kv 0)) := envA_ap
  have n1 : (envA st (l.take (rate two)) (rowsS [] (l.length - rate two) (tcap - rate two)) (vlD (.slice none 0 0) (.bool true) (.bool true) rp kv 0)).nm 1 = l.length - rate two := by simp [envA, rowsS, repl]
  have n2 : (envA st (l.take (rate two)) (rowsS [] (l.length - rate two) (tcap - rate two)) (vlD (.slice none 0 0) (.bool true) (.bool true) rp kv 0)).nm 200 = tcap - rate two := by simp [envA, rowsS, repl]
  have hkv' : (envA st (l.take (rate two)) (rowsS [] (l.length - rate two) (tcap - rate two)) (vlD (.slice none 0 0) (.bool true) (.bool true) rp kv 0)).vl 30 = kv := rfl
  have h9 : (envA st (l.take (rate two)) (rowsS [] (l.length - rate two) (tcap - rate two)) (vlD (.slice none 0 0) (.bool true) (.bool true) rp kv 0)).vl 9 = rp := rfl
  generalize envA st (l.take (rate two)) (rowsS [] (l.length - rate two) (tcap - rate two)) (vlD (.slice none 0 0) (.bool true) (.bool true) rp kv 0) = E at hE0 hsym hap n1 n2 hkv' h9
  have hE : CfgOk Tryd.prog E w {} := cfgOk0 (r := []) hE0 fun p hp => nomatch hp
  have hm : MRel E (bl3 (ib, io) (mb, mo) (sb, so)) w [roB (win 0 (rate two)), roB (modeA two r), rwB stA] w := by
    refine MRel.lits (fun i b hi => ?_) (fun i k bi bk hik hi hk hr => ?_)
    · match i, hi with
      | 0, hi =>
        cases hi
        have := win0 hsym (bl3 (ib, io) (mb, mo) (sb, so)) (by omega)
        rw [htl] at this
        exact ⟨rfl, rfl, rfl, win_wf _ _ _, hib, by show At w ib io ((win 0 (rate two)).map _); rw [this]; exact hat1, fun h => nomatch h⟩
      | 1, hi => cases hi; exact ⟨rfl, rfl, rfl, rfl, at_lt hmd (by simp [modeV]), by show At w mb mo ((modeA two r).map _); rw [modeA_den hkv']; exact hmd, fun h => nomatch h⟩
      | 2, hi => cases hi; exact ⟨rfl, rfl, rfl, rfl, hsb, by show At w sb so ((wsA _).map _); rw [(sT5 hsym).vals]; exact ha, fun _ => ht⟩
      | i + 3, hi => exact nomatch hi
    · match i, k, hi, hk with
      | 0, _, hi, _ => cases hi; cases hr
      | 1, _, hi, _ => cases hi; cases hr
      | 2, 0, hi, hk => exact .inl hsi
      | 2, 1, hi, hk => cases hi; cases hk; exact hms
      | 2, 2, _, _ => exact absurd rfl hik
      | 2, k + 3, _, hk => exact nomatch hk
      | i + 3, _, hi, _ => exact nomatch hi
  refine piece hE (KS_ok hE hap) mix hR (dL_keys _) rfl (Nat.le_refl _) (by
    rw [dL_den (bl := bl3 (ib, io) (mb, mo) (sb, so)) (v := .slice (some ⟨ib, io, none⟩) (vals l).length tcap) (mb := mb) (mo := mo) (sb := sb) (so := so) ?_ rfl rfl h9]
    · exact hf
    · refine slc_den (ib := ib) (io := io) rfl ?_ (by omega) ?_
      · show E.nm 200 + _ = _; rw [n2]; omega
      · show E.nm 1 + _ = _; rw [n1, vals_length]; omega) hm gok0 fun bl' a' w' hag hf' hm' => ?_
  have hb0 : bl' 0 = (ib, io) := hag 0 (by show 0 < 3; decide)
  have hb1 : bl' 1 = (mb, mo) := hag 1 (by show 1 < 3; decide)
  have hb2 : bl' 2 = (sb, so) := hag 2 (by show 2 < 3; decide)
  have hl5 : (permA r (absT two)).length = 5 := by cases two <;> rfl
  have hc : Chg w w' [(sb, so, 5)] := hm'.chg fun i b hi hr => by
    match i, hi with
    | 0, hi => cases hi; cases hr
    | 1, hi => cases hi; cases hr
    | 2, hi => cases hi; right; rw [hb2]; simp [rwB, MB.lo, rowOf, hl5]
    | i + 3, hi => exact nomatch hi
  let v' : Value := .slice (some (if tcap - rate two = 0 then ⟨ib, io, none⟩ else ⟨ib, io + rate two, none⟩)) (l.length - rate two) (tcap - rate two)
  have hv' : (slC (rate two)).den E bl' = v' := by
    show Value.slice (some (if _ then _ else _)) _ _ = _
    have e1 : (⟨2, 0⟩ : AN).val E = l.length - rate two := by show E.nm 1 + _ = _; rw [n1]; rfl
    have e2 : (⟨201, 0⟩ : AN).val E = tcap - rate two := by show E.nm 200 + _ = _; rw [n2]; rfl
    rw [e1, e2]
    simp only [at_, hb0, Nat.add_zero, v']
  rw [dL_den hv' hb1 hb2 h9] at hf'
  have hdrop : At w' ib (io + rate two) (vals (l.drop (rate two))) := hc.at hat2 fun q hq => by
    rw [List.mem_singleton] at hq; subst hq; exact .inl hsi
  have hsl : SlV w' v' (vals (l.drop (rate two))) := by
    refine .inr ⟨_, _, by simp only [v', vals_length, List.length_drop]; rfl, by rw [vals_length, List.length_drop]; omega, fun j x hx => ?_⟩
    have hj := (List.getElem?_eq_some_iff.1 hx).1
    rw [vals_length, List.length_drop] at hj
    rw [if_neg (by omega), Addr.add_lit]
    exact hdrop j x hx
  have hst : At w' sb so (perm r (absorb two st (l.take (rate two)))).vals := by
    have := hm'.at (i := 2) (b := rwB (permA r (absT two))) rfl rfl
    rw [hb2] at this
    rw [← (absT_den hsym two).perm hap r bl']
    exact this
  refine hq v' a' w' hf' ⟨hsl, fun b' o n c e hpos => ?_, modeV_keep hmd hc fun q hq => by rw [List.mem_singleton] at hq; subst hq; exact hms, hst, hc.thaw hsb ht, hms⟩ hc
  simp only [v', Value.slice.injEq, Option.some.injEq] at e
  have : b' = ib := by
    have := e.1
    split at this <;> (injection this with h _ _; exact h.symm)
  rw [this]; exact Ne.symm hsi
set_option maxHeartbeats 1000000 in
theorem sdata_exit {a : Act} {mp sp rp : Value} (h1 : mp.oneCell' = true) (h2 : sp.oneCell' = true) (hrp : rp.oneCell' = true) (hs : SlV w v (vals [])) (hf : Fr 35 a (dV v mp sp rp)) {Q : Exit → Act → World → Prop}
    (hq : ∀ a' w', Fr 35 a' (dV v mp sp rp) → Below w.heap.size w w' → Q (.exit 0) a' w') : dLp.wp Tryd.prog Q a w := by
  have hE0 := envA_ok (st := st0) (blk := []) (rows := rowsS [] 0 0) (vl := vlD v mp sp rp (.bool true) 0) (vlD_one (slV_one hs) h1 h2 hrp rfl) (rowsS_le (by simp) (by simp)) rowsS_one
  have e0 : (envA st0 [] (rowsS [] 0 0) (vlD v mp sp rp (.bool true) 0)).vl 0 = v := rfl
  have e1 : (envA st0 [] (rowsS [] 0 0) (vlD v mp sp rp (.bool true) 0)).vl 1 = .slice none 0 0 := rfl
  have e3 : (envA st0 [] (rowsS [] 0 0) (vlD v mp sp rp (.bool true) 0)).vl 3 = mp := rfl
  have e4 : (envA st0 [] (rowsS [] 0 0) (vlD v mp sp rp (.bool true) 0)).vl 4 = sp := rfl
  have e9 : (envA st0 [] (rowsS [] 0 0) (vlD v mp sp rp (.bool true) 0)).vl 9 = rp := rfl
  generalize envA st0 [] (rowsS [] 0 0) (vlD v mp sp rp (.bool true) 0) = E at hE0 e0 e1 e3 e4 e9
  have hE : CfgOk Tryd.prog E w (leftG ([] : List B8).length) := leftS_ok hE0 (fun _ => by rw [e0]; exact hs) e1
  have hd : ∀ bl : Bl, denL E bl [(3, opV 3), (4, opV 4), (6, opV 9), (7, opV 0)] = dV v mp sp rp := fun bl => by
    show [(3, E.vl 3), (4, E.vl 4), (6, E.vl 9), (7, E.vl 0)] = _
    rw [e0, e3, e4, e9]; rfl
  refine piece (bl := fun _ => (0, 0)) hE noK_ok mix dExit_ok (fun p hp => by
    simp only [List.mem_cons, List.not_mem_nil, or_false] at hp
    rcases hp with rfl | rfl | rfl | rfl <;> rfl) rfl (Nat.le_refl _) (by rw [hd]; exact hf) (MRel.nil E _ w) (by rw [leftG_g]; exact gok0) fun bl' a' w' hag hf' hm' => ?_
  rw [hd] at hf'
  exact hq a' w' hf' (belowNil hm')
theorem sdata_rounds (hR : dRound two r = true) {rp : Value} (hrp : rp.oneCell' = true) (hkv : kv.oneCell' = true) {Q : Exit → Act → World → Prop} :
    ∀ (N : Nat) (l : List B8) (st : St) (v : Value) (a : Act) (w : World), l.length ≤ N → l.length ≤ 1073741824 → l.length % rate two = 0 → Fr 35 a (dV v (ptrTo mb mo) (ptrTo sb so) rp) → DIn w v l st mb mo sb so kv two r →
      (∀ (v' : Value) (a' : Act) (w' : World), Fr 35 a' (dV v' (ptrTo mb mo) (ptrTo sb so) rp) → DIn w' v' [] (absorbAll ⟨two, r⟩ st l) mb mo sb so kv two r → Chg w w' [(sb, so, 5)] → Q (.exit 0) a' w') → Code.rounds Tryd.prog dLp Q (N + 1) a w := by
  have hp := rate_pos two
  have h16 := rate_le two
  have out : ∀ (N : Nat) (st : St) (v : Value) (a : Act) (w : World), Fr 35 a (dV v (ptrTo mb mo) (ptrTo sb so) rp) → DIn w v [] st mb mo sb so kv two r →
      (∀ (v' : Value) (a' : Act) (w' : World), Fr 35 a' (dV v' (ptrTo mb mo) (ptrTo sb so) rp) → DIn w' v' [] (absorbAll ⟨two, r⟩ st []) mb mo sb so kv two r → Chg w w' [(sb, so, 5)] → Q (.exit 0) a' w') → Code.rounds Tryd.prog dLp Q (N + 1) a w := by
    intro N st v a w hf hin hq
    rw [rounds_succ]
    refine sdata_exit rfl rfl hrp hin.src hf fun a' w' hf' hb => hq v a' w' hf' ?_ (.of_below hb)
    rw [absorbAll_nil]
    exact ⟨slV_nil hin.src, hin.ns, hin.md.below hb, hin.st.below hb, (Chg.of_below (R := []) hb).thaw (at_lt hin.st (by simp [St.vals])) hin.th, hin.ms⟩
  intro N
  induction N with
  | zero =>
    intro l st v a w hN hbig hmod hf hin hq
    obtain rfl := List.length_eq_zero_iff.1 (Nat.le_zero.1 hN)
    exact out 0 st v a w hf hin hq
  | succ N ih =>
    intro l st v a w hN hbig hmod hf hin hq
    by_cases hlen : rate two ≤ l.length
    · rw [rounds_succ]
      refine sdata_step hR hrp hkv hlen hbig hin hf fun v' a' w' hf' hin' hc => ?_
      refine ih _ _ v' a' w' (by rw [List.length_drop]; omega) (by rw [List.length_drop]; omega) (by rw [List.length_drop, ← Nat.mod_eq_sub_mod hlen]; exact hmod) hf' hin' fun v'' a'' w'' q1 q2 q3 => hq v'' a'' w'' q1 ?_ (hc.trans q3)
      rw [absorbAll_long (md := ⟨two, r⟩) hlen]
      exact q2
    · rw [Nat.mod_eq_of_lt (by omega)] at hmod
      obtain rfl := List.length_eq_zero_iff.1 hmod
      exact out (N + 1) st v a w hf hin hq
end
def bl2' (x y : Nat × Nat) : Bl := fun i => match i with
  | 0 => x
  | _ => y
theorem ent39 : Enters Tryd.prog 39 := fun _ _ => by kernel_rfl
theorem padK_ok {E : Env} {w0 : World} {G : Cfg} {m : Nat} {l : List B8} {kv : Value} (hE : EnvOk E) (hl : l.length ≤ 1048576) (hkv : kv.oneCell' = true) (h30 : E.vl 30 = kv) (hs : SlV w0 (E.vl 0) (vals l)) (hrow : E.row 1 = vals (padAll (rate (mdOf m).two) l)) :
    CallOk Tryd.prog E w0 G (padK (mdOf m).two (mdOf m).r) := by
  intro f args m0 r m' h
  unfold padK at h
  split at h
  · rename_i hf
    have hf' := Nat.eq_of_beq_eq_true hf
    subst hf'
    refine ⟨ent39, ?_⟩
    split at h
    · rename_i a
      split at h
      · rename_i hc
        simp only [Bool.and_eq_true] at hc
        have ha := lBeq_eq hc.1
        subst ha
        cases h
        intro bl w hm hG hw
        have hb0 := hm.below hc.2
        have hs' : SlV w (E.vl 0) (vals l) := by
          rcases hs with h | ⟨a, cap, h1, h2, h3⟩
          · exact .inl h
          · exact .inr ⟨a, cap, h1, h2, fun j x hx => by rw [hb0.cell (cell_lt (h3 j x hx))]; exact h3 j x hx⟩
        have hcall := padded_calls (m := m) hl hkv hs'
        rw [← modeA_den h30 bl] at hcall
        refine Calls.mono hcall fun e w' ⟨g, cap, u, he, hb, ho⟩ => ?_
        have hv : rowOf E 2 ++ ([] : List AC).map (AC.den E bl) = vals (padAll (rate (mdOf m).two) l) := by
          show E.row 1 ++ [] = _
          rw [hrow, List.append_nil]
        refine ⟨addBl2 bl m0.length g (rowOf E 2).length cap, ?_, addBl2_agree bl m0.length g _ cap, MRel.ownIn hm hb ho rfl (r := 2) hv, by simp [AV.wf, A1.wf, AC.wf], by simp⟩
        rw [he]
        congr 1
        exact own_dy hE (r := 2) (cs := []) ho (by rw [← hv]; simp)
      · cases h
    · cases h
  · cases h
def rowsD (p : List Value) : Nat → List Value := fun i => if i = 1 then p else []
set_option maxHeartbeats 1000000 in
/-- The specification's Data. -/
theorem sdata_calls {m : Nat} {l : List B8} (hl : l.length ≤ 1048576) {w : World} {v kv : Value} {st : St} (hkv : kv.oneCell' = true) (hs : SlV w v (vals l)) :
    Calls Tryd.prog 26 #[.agg (modeV kv (mdOf m).two (mdOf m).r).toArray, .agg st.vals.toArray, v] w fun e w' => e = .returned (.agg (dataSt (mdOf m) st l).vals.toArray) ∧ Below w.heap.size w w' := by
  have hmd := mdOf_is m
  have hpl : (padAll (rate (mdOf m).two) l).length ≤ 1048592 := by
    have := rate_le (mdOf m).two
    unfold padAll
    simp
    omega
  obtain ⟨fn, hfn, hbody, hnt, hres⟩ : ∃ fn, Tryd.prog.funcs[26]? = some fn ∧ fn.body = some d26 ∧ fn.ntmps = 35 ∧ fn.results.toList = [.cell 6 48] := ⟨_, rfl, rfl, rfl, rfl⟩
  refine calls_of_wp hfn hbody ?_
  rw [hnt, d26_eq]
  have hE0 := envA_ok (st := st) (blk := []) (rows := rowsD (vals (padAll (rate (mdOf m).two) l))) (vl := vlD v (.bool true) (.bool true) (.bool true) kv l.length) (vlD_one (slV_one hs) rfl rfl rfl hkv) (fun i _ => by
    unfold rowsD; split
    · rw [vals_length]; omega
    · simp) (fun i x hx => by
    unfold rowsD at hx; split at hx
    · obtain ⟨b, _, rfl⟩ := List.mem_map.1 hx; rfl
    · cases hx)
  have hsym : SymOk (envA st [] (rowsD (vals (padAll (rate (mdOf m).two) l))) (vlD v (.bool true) (.bool true) (.bool true) kv l.length)) st [] := envA_sym
  have e0 : (envA st [] (rowsD (vals (padAll (rate (mdOf m).two) l))) (vlD v (.bool true) (.bool true) (.bool true) kv l.length)).vl 0 = v := rfl
  have e2 : (envA st [] (rowsD (vals (padAll (rate (mdOf m).two) l))) (vlD v (.bool true) (.bool true) (.bool true) kv l.length)).vl 2 = .int .i64 (l.length : Int) := rfl
  have e30 : (envA st [] (rowsD (vals (padAll (rate (mdOf m).two) l))) (vlD v (.bool true) (.bool true) (.bool true) kv l.length)).vl 30 = kv := rfl
  have hrow : (envA st [] (rowsD (vals (padAll (rate (mdOf m).two) l))) (vlD v (.bool true) (.bool true) (.bool true) kv l.length)).row 1 = vals (padAll (rate (mdOf m).two) l) := rfl
  generalize envA st [] (rowsD (vals (padAll (rate (mdOf m).two) l))) (vlD v (.bool true) (.bool true) (.bool true) kv l.length) = E at hE0 hsym e0 e2 e30 hrow
  have hE := preG_ok hE0 hs e0 e2
  have hpre : dPre (mdOf m).two (mdOf m).r (decide (0 < l.length)) = true := by
    have := dPre_all
    simp only [Bool.and_eq_true] at this
    generalize decide (0 < l.length) = b
    rcases hmd with ⟨h1, h2⟩ | ⟨h1, h2⟩ <;> rw [h1, h2] <;> cases b
    · exact this.1.1.1
    · exact this.1.1.2
    · exact this.1.2
    · exact this.2
  simp only [dPre, Bool.and_eq_true] at hpre
  obtain ⟨p0, p1⟩ := hpre
  have hst := start_rel (E := E) (w0 := w) (G := preG (decide (0 < l.length))) (nt := 35) (bl := fun _ => (0, 0)) (args := [.a (modeA (mdOf m).two (mdOf m).r), .a stA, .c (.o 0)]) (MRel.nil E _ w) gok0 (fun x hx => by
    simp only [List.mem_cons, List.not_mem_nil, or_false] at hx
    rcases hx with rfl | rfl | rfl <;> rfl) (by show 3 ≤ 35; decide)
  have hargs : ([.a (modeA (mdOf m).two (mdOf m).r), .a stA, .c (.o 0)] : List A1).map (A1.den E fun _ => (0, 0)) = [.agg (modeV kv (mdOf m).two (mdOf m).r).toArray, .agg st.vals.toArray, v] := by
    simp only [List.map, A1.den, AC.den, modeA_den e30, e0, stA, (sT5 hsym).vals]
  rw [hargs] at hst
  refine wp_seq (code_wp hE noK_ok mix p0 (by show 0 ≤ 3; decide) hst fun bl1 a1 w1 g1 h1 => ?_)
  refine wp_seq (wp_seq (code_wp hE noK_ok mix p1 (Nat.le_refl _) h1 fun bl2 a2 w2 g2 h2 => ?_))
  -- the end, whatever state there is
  have last : ∀ (s : St) (a : Act) (w4 : World) (sb so rb ro : Nat), Fr 35 a [(4, ptrTo sb so), (6, ptrTo rb ro)] → Below w.heap.size w w4 → w.heap.size ≤ sb → w.heap.size ≤ rb → Far sb so 5 rb ro 5 → At w4 sb so s.vals → Thaw w4 sb so 5 → At w4 rb ro st0.vals → Thaw w4 rb ro 5 → fin1 s = dataSt (mdOf m) st l →
      dFin.wp Tryd.prog (bodyPost Tryd.prog fn fun e w' => e = .returned (.agg (dataSt (mdOf m) st l).vals.toArray) ∧ Below w.heap.size w w') a w4 := by
    intro s a w4 sb so rb ro hf hb4 hsn hrn hfar ha4 ht4 hr4 hrt4 hs4
    have hE5 := envA_ok (st := s) (blk := []) (rows := rowsN 0 0 0) (vl := vl1 (.slice none 0 0) (.slice none 0 0)) (vl1_one rfl rfl) (rowsN_le (by decide)) rowsN_one
    have hsy : SymOk (envA s [] (rowsN 0 0 0) (vl1 (.slice none 0 0) (.slice none 0 0))) s [] := envA_sym
    generalize envA s [] (rowsN 0 0 0) (vl1 (.slice none 0 0) (.slice none 0 0)) = E5 at hE5 hsy
    have hG : CfgOk Tryd.prog E5 w4 {} := cfgOk0 (r := []) hE5 fun p hp => nomatch hp
    have hm : MRel E5 (bl2' (sb, so) (rb, ro)) w4 [rwB stA, rwB zeroA5] w4 := by
      refine MRel.lits (fun i b hi => ?_) (fun i k bi bk hik hi hk hr => ?_)
      · match i, hi with
        | 0, hi => cases hi; exact ⟨rfl, rfl, rfl, rfl, at_lt ha4 (by simp [St.vals]), by show At w4 sb so ((wsA _).map _); rw [(sT5 hsy).vals]; exact ha4, fun _ => ht4⟩
        | 1, hi => cases hi; exact ⟨rfl, rfl, rfl, rfl, at_lt hr4 (by simp [St.vals]), hr4, fun _ => hrt4⟩
        | i + 2, hi => exact nomatch hi
      · match i, k, hi, hk with
        | 0, 0, _, _ => exact absurd rfl hik
        | 0, 1, hi, hk => cases hi; cases hk; exact hfar
        | 1, 0, hi, hk => cases hi; cases hk; exact hfar.symm
        | 1, 1, _, _ => exact absurd rfl hik
        | 0, k + 2, _, hk => exact nomatch hk
        | 1, k + 2, _, hk => exact nomatch hk
        | i + 2, _, hi, _ => exact nomatch hi
    have hrun := dLast_ok
    unfold dLast at hrun
    rw [← hres] at hrun
    have hd : denL E5 (bl2' (sb, so) (rb, ro)) [(4, ptV 0), (6, ptV 1)] = [(4, ptrTo sb so), (6, ptrTo rb ro)] := by
      simp only [denL, List.map, ptV_den (E := E5) (bl := bl2' (sb, so) (rb, ro)) (i := 0) (b := sb) (o := so) rfl, ptV_den (E := E5) (bl := bl2' (sb, so) (rb, ro)) (i := 1) (b := rb) (o := ro) rfl]
    refine code_wpR hG noK_ok mix hrun (SRel.ofFr (by rw [hd]; exact hf) rfl hm gok0) fun bl' vs w' hag hr hm' => ?_
    obtain ⟨v', q1, q2⟩ := rsOne' hr
    have h5 : Is5 E5 [sT 0, sT 1, sT 2, sT 3, mkXor (sT 4) (.k 1)] (fin1 s) := by
      simp only [Is5, List.map, mkXor_den, sT_den hsy (show 0 < 5 by decide), sT_den hsy (show 1 < 5 by decide), sT_den hsy (show 2 < 5 by decide), sT_den hsy (show 3 < 5 by decide), sT_den hsy (show 4 < 5 by decide)]
      rfl
    refine ⟨?_, ?_⟩
    · rw [q1, q2, ← hs4]
      simp only [A1.den, h5.vals]
    · have hb0 : bl' 0 = (sb, so) := hag 0 (by show 0 < 2; decide)
      have hb1 : bl' 1 = (rb, ro) := hag 1 (by show 1 < 2; decide)
      have hc : Chg w4 w' [(sb, so, 5), (rb, ro, 5)] := hm'.chg fun i b hi hr => by
        match i, hi with
        | 0, hi => cases hi; right; rw [hb0]; simp [rwB, MB.lo, rowOf, wsA]
        | 1, hi => cases hi; right; rw [hb1]; simp [rwB, MB.lo, rowOf, wsA]
        | i + 2, hi => exact nomatch hi
      refine (((Chg.of_below hb4).trans hc).mono (R' := []) fun q hq hlt => ?_).below
      simp only [List.mem_cons, List.not_mem_nil, or_false] at hq
      rcases hq with rfl | rfl
      · exact absurd hlt (by show ¬ sb < _; omega)
      · exact absurd hlt (by show ¬ rb < _; omega)
  have hf2 := h2.fr (by
    intro p hp
    simp only [List.mem_cons, List.not_mem_nil, or_false] at hp
    rcases hp with rfl | rfl | rfl | rfl | rfl <;> rfl)
  have h10 : a2.eval (.tmp 10) = .bool (decide (0 < l.length)) := hf2.get (10, .bool (decide (0 < l.length))) (by simp [denL, AV.den, A1.den, AC.den])
  refine wp_cond h10 ?_
  by_cases hz : 0 < l.length
  · rw [decide_eq_true hz]
    simp only [if_true]
    have hE' : CfgOk Tryd.prog E w {} := cfgOk0 (r := []) hE0 fun p hp => nomatch hp
    have hpad : dPad (mdOf m).two (mdOf m).r = true := by
      have := dPad_all
      simp only [Bool.and_eq_true] at this
      rcases hmd with ⟨h1, h2⟩ | ⟨h1, h2⟩ <;> rw [h1, h2]
      · exact this.1
      · exact this.2
    have h2' := h2.weaken (G' := {}) (l := [(2, opV 0), (3, ptV 0), (4, ptV 1), (6, ptV 2)]) (fun p hp => by
      simp only [List.mem_cons, List.not_mem_nil, or_false] at hp
      rcases hp with rfl | rfl | rfl | rfl <;> rfl) rfl
    refine wp_seq (code_wpD hE' (padK_ok hE0 hl hkv e30 (by rw [e0]; exact hs) hrow) mix hpad (Nat.le_refl _) h2' fun bl3' a3 w3 g3 h3 hd => ?_)
    obtain ⟨g, cap, hown, hdis⟩ := hd (7, 2, []) (by simp)
    have hown' : OwnG w w3 g cap (a3.tmps.getD 7 undef) (vals (padAll (rate (mdOf m).two) l)) := by
      have he : rowOf E 2 ++ ([] : List AC).map (AC.den E fun _ => (0, 0)) = vals (padAll (rate (mdOf m).two) l) := by
        show E.row 1 ++ [] = _; rw [hrow, List.append_nil]
      rw [← he]; exact hown
    have hm3 := h3.mem
    have m0 := hm3.at (i := 0) (b := owB (modeA (mdOf m).two (mdOf m).r)) rfl rfl
    rw [show (owB (modeA (mdOf m).two (mdOf m).r)).cs = modeA (mdOf m).two (mdOf m).r from rfl, modeA_den e30] at m0
    have m1 := hm3.at (i := 1) (b := owB stA) rfl rfl
    rw [show (owB stA).cs = wsA [sT 0, sT 1, sT 2, sT 3, sT 4] from rfl, (sT5 hsym).vals] at m1
    have m2 : At w3 (bl3' 2).1 (bl3' 2).2 st0.vals := hm3.at (i := 2) (b := owB zeroA5) rfl rfl
    have hs10 := hm3.sep 1 0 _ _ (by decide) rfl rfl rfl rfl rfl
    have hs12 := hm3.sep 1 2 _ _ (by decide) rfl rfl rfl rfl rfl
    have t1 : Thaw w3 (bl3' 1).1 (bl3' 1).2 5 := fun j hj => hm3.thaw 1 (owB stA) j rfl rfl rfl hj
    have t2 : Thaw w3 (bl3' 2).1 (bl3' 2).2 5 := fun j hj => hm3.thaw 2 (owB zeroA5) j rfl rfl rfl hj
    have hb3 : Below w.heap.size w w3 := hm3.below (by rfl)
    have hf3 := h3.fr (by
      intro p hp
      simp only [List.mem_cons, List.not_mem_nil, or_false] at hp
      rcases hp with rfl | rfl | rfl <;> rfl)
    have hfr : Fr 35 a3 (dV (a3.tmps.getD 7 undef) (ptrTo (bl3' 0).1 (bl3' 0).2) (ptrTo (bl3' 1).1 (bl3' 1).2) (ptrTo (bl3' 2).1 (bl3' 2).2)) := ⟨hf3.defers, hf3.size, fun p hp => by
      simp only [dV, List.mem_cons, List.not_mem_nil, or_false] at hp
      rcases hp with rfl | rfl | rfl | rfl
      · rw [hf3.get (3, (ptV 0).den E bl3') (by simp [denL])]; exact ptV_den (E := E) rfl
      · rw [hf3.get (4, (ptV 1).den E bl3') (by simp [denL])]; exact ptV_den (E := E) rfl
      · rw [hf3.get (6, (ptV 2).den E bl3') (by simp [denL])]; exact ptV_den (E := E) rfl
      · rfl⟩
    have hin : DIn w3 (a3.tmps.getD 7 undef) (padAll (rate (mdOf m).two) l) st (bl3' 0).1 (bl3' 0).2 (bl3' 1).1 (bl3' 1).2 kv (mdOf m).two (mdOf m).r :=
      ⟨hown'.sl, fun b o n c e _ => by rw [hown'.val] at e; simp only [Value.slice.injEq, Option.some.injEq, Addr.mk.injEq] at e; rw [← e.1.1]; exact Ne.symm (hdis 1 _ rfl rfl), m0, m1, t1, hs10⟩
    have hR : dRound (mdOf m).two (mdOf m).r = true := by
      have := dRound_all
      simp only [Bool.and_eq_true] at this
      rcases hmd with ⟨h1, h2⟩ | ⟨h1, h2⟩ <;> rw [h1, h2]
      · exact this.1
      · exact this.2
    refine wp_block (wp_loop_rounds ((padAll (rate (mdOf m).two) l).length + 1) (sdata_rounds hR rfl hkv _ _ st _ a3 w3 (Nat.le_refl _) (by omega) (padAll_mod (rate_pos _) l) hfr hin fun v' a' w' q1 q2 q3 => ?_))
    refine last _ a' w' _ _ (bl3' 2).1 (bl3' 2).2 (q1.sub fun p hp => ?_) (((Chg.of_below hb3).trans q3).mono (R' := []) fun q hq hlt => ?_).below (hm3.new 1 _ rfl rfl) (hm3.new 2 _ rfl rfl) hs12 q2.st q2.th (q3.at m2 fun q hq => ?_) (q3.thaw (at_lt m2 (by simp [St.vals])) t2) ?_
    · simp only [List.mem_cons, List.not_mem_nil, or_false] at hp
      rcases hp with rfl | rfl <;> simp [dV]
    · rw [List.mem_singleton] at hq; subst hq
      exact absurd hlt (by have := hm3.new 1 _ rfl rfl; show ¬ (bl3' 1).1 < _; omega)
    · rw [List.mem_singleton] at hq; subst hq
      exact hs12
    · unfold dataSt
      rw [if_neg (by intro h; rw [h] at hz; exact absurd hz (by decide)), dataGo_pad]
  · rw [decide_eq_false hz]
    simp only [Bool.false_eq_true, if_false]
    refine wp_skip ?_
    have hl0 : l = [] := List.length_eq_zero_iff.1 (by omega)
    have hm2 := h2.mem
    have m1 := hm2.at (i := 1) (b := owB stA) rfl rfl
    rw [show (owB stA).cs = wsA [sT 0, sT 1, sT 2, sT 3, sT 4] from rfl, (sT5 hsym).vals] at m1
    have m2 := hm2.at (i := 2) (b := owB zeroA5) rfl rfl
    have hs12 := hm2.sep 1 2 _ _ (by decide) rfl rfl rfl rfl rfl
    refine last st a2 w2 (bl2 1).1 (bl2 1).2 (bl2 2).1 (bl2 2).2 ⟨hf2.defers, hf2.size, fun p hp => ?_⟩ (hm2.below (by rfl)) (hm2.new 1 _ rfl rfl) (hm2.new 2 _ rfl rfl) hs12 m1 (fun j hj => hm2.thaw 1 (owB stA) j rfl rfl rfl hj) m2 (fun j hj => hm2.thaw 2 (owB zeroA5) j rfl rfl rfl hj) (by unfold dataSt; rw [if_pos hl0])
    simp only [List.mem_cons, List.not_mem_nil, or_false] at hp
    rcases hp with rfl | rfl
    · rw [hf2.get (4, (ptV 1).den E bl2) (by simp [denL])]; exact ptV_den (E := E) rfl
    · rw [hf2.get (6, (ptV 2).den E bl2) (by simp [denL])]; exact ptV_den (E := E) rfl
end Go.Proofs.YtfilandehjmikaaDoor.Asc
