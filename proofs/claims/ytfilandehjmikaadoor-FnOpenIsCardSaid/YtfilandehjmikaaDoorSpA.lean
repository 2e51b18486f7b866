/- The specification's bytes and words, as contracts and as a table of the abstract machine. No condition. -/
import Derived.Test.YtfilandehjmikaaDoorAscY
namespace Go.Proofs.YtfilandehjmikaaDoor.Asc
open Go.RowKit Go.Proofs.YtfilandehjmikaaDoor.Sx

/-! ### in plain Lean -/
def stB (s : St) : List B8 := wbs s.a ++ (wbs s.b ++ (wbs s.c ++ (wbs s.d ++ wbs s.e)))
def wordsOf (b : List B8) : St := ⟨cat8 b, cat8 (b.drop 8), cat8 (b.drop 16), cat8 (b.drop 24), cat8 (b.drop 32)⟩
theorem stB_length (s : St) : (stB s).length = 40 := rfl
theorem wordsOf_stB (s : St) : wordsOf (stB s) = s := by
  have h : ∀ (x : BitVec 64) (l : List B8), cat8 (wbs x ++ l) = x := fun x l => by
    conv => rhs; rw [← cat8_wbs x]
    rfl
  refine St.ext' (h _ _) (h s.b _) (h s.c _) (h s.d _) ?_
  have := h s.e []
  rwa [List.append_nil] at this

/-! ### bytes -/
def b8A (j : Nat) : List AC := [.w .u8 (.byte 0 (sT j)), .w .u8 (.byte 1 (sT j)), .w .u8 (.byte 2 (sT j)), .w .u8 (.byte 3 (sT j)), .w .u8 (.byte 4 (sT j)), .w .u8 (.byte 5 (sT j)), .w .u8 (.byte 6 (sT j)), .w .u8 (.byte 7 (sT j))]
def bytesA : List AC := b8A 0 ++ (b8A 1 ++ (b8A 2 ++ (b8A 3 ++ b8A 4)))
def stA : List AC := wsA [sT 0, sT 1, sT 2, sT 3, sT 4]
theorem by_run : endsF [.d 0 bytesA] [] (runF Tryd.prog {} noK 100 36 [.a stA] []) = true := by kernel_rfl
theorem wb8_den {E : Env} (bl : Bl) {t : T} {x : BitVec 64} (h : t.den E = x) (f : Nat → T) (hf : ∀ i, i < 8 → (f i).den E = Sx.byteOf i (t.den E)) :
    ([.w .u8 (f 0), .w .u8 (f 1), .w .u8 (f 2), .w .u8 (f 3), .w .u8 (f 4), .w .u8 (f 5), .w .u8 (f 6), .w .u8 (f 7)] : List AC).map (AC.den E bl) = vals (wbs x) := by
  have one : ∀ i, i < 8 → (AC.w .u8 (f i)).den E bl = bval (wb x i) := fun i hi => byte_val bl (by rw [hf i hi, h, up_wb])
  simp only [List.map, one 0 (by decide), one 1 (by decide), one 2 (by decide), one 3 (by decide), one 4 (by decide), one 5 (by decide), one 6 (by decide), one 7 (by decide), wbs, vals]
theorem b8A_den {E : Env} {s : St} {l : List B8} (h : SymOk E s l) (bl : Bl) {j : Nat} (hj : j < 5) : (b8A j).map (AC.den E bl) = vals (wbs (s.get j)) :=
  wb8_den bl (sT_den h hj) (fun i => .byte i (sT j)) fun _ _ => rfl
theorem bytesA_den {E : Env} {s : St} {l : List B8} (h : SymOk E s l) (bl : Bl) : bytesA.map (AC.den E bl) = vals (stB s) := by
  unfold bytesA stB
  simp only [List.map_append, vals_append, b8A_den h bl (show 0 < 5 by decide), b8A_den h bl (show 1 < 5 by decide), b8A_den h bl (show 2 < 5 by decide), b8A_den h bl (show 3 < 5 by decide), b8A_den h bl (show 4 < 5 by decide)]
  rfl
theorem rsOne' {E : Env} {w0 w : World} {bl : Bl} {m : List MB} {s : RS} {vs : List Value} (h : RsAll E w0 w bl m [s] vs) : ∃ v, packV vs = v ∧ s.ok E w0 w bl m v := by
  cases h with
  | cons h1 h2 => cases h2; exact ⟨_, rfl, h1⟩
theorem belowNil {E : Env} {bl : Bl} {w w' : World} (hm : MRel E bl w [] w') : Below w.heap.size w w' := (hm.chg (R := []) fun _ _ hi _ => nomatch hi).below
theorem bytes_calls {s : St} {w : World} :
    Calls Tryd.prog 36 #[.agg s.vals.toArray] w fun e w' => ∃ g cap v, e = .returned v ∧ Below w.heap.size w w' ∧ OwnG w w' g cap v (vals (stB s)) := by
  have hE0 := envA_ok (st := s) (blk := []) (rows := rowsN 0 0 0) (vl := vl1 (.slice none 0 0) (.slice none 0 0)) (vl1_one rfl rfl) (rowsN_le (by decide)) rowsN_one
  have hsym : SymOk (envA s [] (rowsN 0 0 0) (vl1 (.slice none 0 0) (.slice none 0 0))) s [] := envA_sym
  generalize envA s [] (rowsN 0 0 0) (vl1 (.slice none 0 0) (.slice none 0 0)) = E at hE0 hsym
  have hG : CfgOk Tryd.prog E w {} := cfgOk0 (r := []) hE0 fun p hp => nomatch hp
  have := fn_calls (bl := fun _ => (0, 0)) hG noK_ok mix by_run (MRel.nil E _ w) gok0 rfl
  rw [show ([.a stA] : List A1).map (A1.den E fun _ => (0, 0)) = [.agg s.vals.toArray] by
    simp only [List.map, A1.den, stA, (sT5 hsym).vals]] at this
  refine this.mono fun e w' ⟨bl', vs, he, hr, _, hm'⟩ => ?_
  obtain ⟨v', q1, g, cap', q2, _⟩ := rsOne' hr
  refine ⟨g, cap', v', by rw [he, q1], belowNil hm', ?_⟩
  rw [bytesA_den hsym] at q2
  exact q2

/-! ### words -/
def wordsT : List T := [cat8T byT 0, cat8T byT 8, cat8T byT 16, cat8T byT 24, cat8T byT 32]
theorem wo_run : endsF [.v (.a (wsA wordsT))] [roB (win 0 40)] (runF Tryd.prog {} noK 100 40 [.c (.slc 0 0 0 ⟨0, 40⟩ ⟨201, 40⟩)] [roB (win 0 40)]) = true := by kernel_rfl
theorem catB {E : Env} {s : St} {l : List B8} (h : SymOk E s l) {o : Nat} (ho : o ≤ 92) : (cat8T byT o).den E = cat8 (l.drop o) := cat8T_den fun i hi => by rw [byT_den h (by omega), getD_drop]
theorem wordsT_den {E : Env} {s : St} {l : List B8} (h : SymOk E s l) : Is5 E wordsT (wordsOf l) := by
  simp only [Is5, wordsT, List.map, catB h (show 0 ≤ 92 by decide), catB h (show 8 ≤ 92 by decide), catB h (show 16 ≤ 92 by decide), catB h (show 24 ≤ 92 by decide), catB h (show 32 ≤ 92 by decide)]
  rfl
theorem words_calls {b : List B8} (hb : b.length = 40) {w : World} {v : Value} (hs : SlV w v (vals b)) :
    Calls Tryd.prog 40 #[v] w fun e w' => e = .returned (.agg (wordsOf b).vals.toArray) ∧ Below w.heap.size w w' := by
  obtain ⟨nb, no, cap, rfl, hle, hat, hnb⟩ := hs.cons (fun e => by have := congrArg List.length e; rw [vals_length, hb] at this; cases this)
  rw [vals_length, hb] at hle
  have hE0 := envA_ok (st := ⟨0, 0, 0, 0, 0⟩) (blk := b) (rows := rowsN 0 (cap - 40) 0) (vl := vl1 (.slice none 0 0) (.slice none 0 0)) (vl1_one rfl rfl) (rowsN_le (by decide)) rowsN_one
  have hsym : SymOk (envA ⟨0, 0, 0, 0, 0⟩ b (rowsN 0 (cap - 40) 0) (vl1 (.slice none 0 0) (.slice none 0 0))) ⟨0, 0, 0, 0, 0⟩ b := envA_sym
  have n2 : (envA ⟨0, 0, 0, 0, 0⟩ b (rowsN 0 (cap - 40) 0) (vl1 (.slice none 0 0) (.slice none 0 0))).nm 200 = cap - 40 := by simp [envA, rowsN, repl]
  generalize envA ⟨0, 0, 0, 0, 0⟩ b (rowsN 0 (cap - 40) 0) (vl1 (.slice none 0 0) (.slice none 0 0)) = E at hE0 hsym n2
  have hG : CfgOk Tryd.prog E w {} := cfgOk0 (r := []) hE0 fun p hp => nomatch hp
  have hw0 : (win 0 40).map (AC.den E fun _ => (nb, no)) = vals b := by have := win0 hsym (fun _ => (nb, no)) (by omega); rwa [hb] at this
  have hm0 : MRel E (fun _ => (nb, no)) w [roB (win 0 40)] w := start1 (win_wf _ _ _) hnb (by rw [hw0]; exact hat)
  have := fn_calls hG noK_ok mix wo_run hm0 gok0 rfl
  rw [show ([.c (.slc 0 0 0 ⟨0, 40⟩ ⟨201, 40⟩)] : List A1).map (A1.den E fun _ => (nb, no)) = [.slice (some ⟨nb, no, none⟩) (vals b).length cap] by
    have e1 : (AC.slc 0 0 0 ⟨0, 40⟩ ⟨201, 40⟩).den E (fun _ => (nb, no)) = .slice (some ⟨nb, no, none⟩) (vals b).length cap :=
      slc_den (E := E) (bl := fun _ => (nb, no)) (b := 0) (ib := nb) (io := no) rfl (by show E.nm 200 + _ = _; rw [n2]; omega) (by omega) (by rw [vals_length, hb]; rfl)
    simp only [List.map, A1.den, e1]] at this
  refine this.mono fun e w' ⟨bl', vs, he, hr, _, hm'⟩ => ?_
  obtain ⟨v', q1, q2⟩ := rsOne' hr
  refine ⟨?_, endR hm'⟩
  rw [he, q1, q2]
  simp only [A1.den, (wordsT_den hsym).vals]

/-! ### the table -/
/-- A block of the call's own that a callee made. -/
theorem MRel.ownIn {E : Env} {bl : Bl} {w0 w w' : World} {m : List MB} (h : MRel E bl w0 m w) (hb : Below w.heap.size w w') {g cap r : Nat} {v : Value} {vs : List Value} {cs : List AC} (ho : OwnG w w' g cap v vs) (hcs : cs.all (AC.wf m.length) = true)
    (hv : rowOf E r ++ cs.map (AC.den E bl) = vs) : MRel E (addBl2 bl m.length g (rowOf E r).length cap) w0 (m ++ [newMB r cs, capMB]) w' := by
  subst hv
  refine (h.belowStep hb).grow rfl (fun i b' hb' => ⟨b', hb', rfl, rfl, rfl, rfl, fun _ => rfl⟩) rfl rfl rfl (Nat.le_refl _) ho.lt (Nat.le_trans h.size ho.new) (fun _ _ _ => rfl) (fun i b hi _ => Nat.ne_of_lt (Nat.lt_of_lt_of_le (h.lt i b hi) ho.new)) hcs (fun j v hv => ?_) ho.room (by simpa using ho.le) ho.max
  have := ho.cells j v hv
  rwa [Nat.zero_add] at this
theorem own_dy {E : Env} (hE : EnvOk E) {bl : Bl} {w0 w : World} {n g cap r : Nat} {v : Value} {vs : List Value} {cs : List AC} (ho : OwnG w0 w g cap v vs) (hv : vs.length = (rowOf E r).length + cs.length) :
    v = (AC.dy n r 0 ⟨r, cs.length⟩).den E (addBl2 bl n g (rowOf E r).length cap) := by
  rw [ho.val]
  simp only [AC.den, addBl2_at, addBl2_cap, Nat.sub_self, Nat.add_zero, Nat.sub_zero, rowVal hE, hv]
def byC (t : T) : List AC := [.w .u8 (mkByte t 0), .w .u8 (mkByte t 1), .w .u8 (mkByte t 2), .w .u8 (mkByte t 3), .w .u8 (mkByte t 4), .w .u8 (mkByte t 5), .w .u8 (mkByte t 6), .w .u8 (mkByte t 7)]
def aBytes (l : List AC) (m : List MB) : Option (AV × List MB) :=
  match wsOf .u64 l with
  | some [p, q, r, s, t] => some (.one (.c (.dy m.length 0 0 ⟨0, 40⟩)), m ++ [newMB 0 (byC p ++ (byC q ++ (byC r ++ (byC s ++ byC t)))), capMB])
  | _ => none
def catAt (ts : List T) (o : Nat) : T := mkCat ⟨ts.getD o (.k 0), ts.getD (o + 1) (.k 0), ts.getD (o + 2) (.k 0), ts.getD (o + 3) (.k 0), ts.getD (o + 4) (.k 0), ts.getD (o + 5) (.k 0), ts.getD (o + 6) (.k 0), ts.getD (o + 7) (.k 0)⟩
def aWords (x : AC) (m : List MB) : Option (AV × List MB) :=
  match contOf [] m x with
  | some (0, cs) => match wsOf .u8 cs with
    | some ts => if Nat.beq ts.length 40 && ts.all T.isB then some (.one (.a (wsA [catAt ts 0, catAt ts 8, catAt ts 16, catAt ts 24, catAt ts 32])), m) else none
    | none => none
  | _ => none
def specK : CallF := fun f args m =>
  if Nat.beq f 36 then match args with
    | [.a l] => aBytes l m
    | _ => none
  else if Nat.beq f 40 then match args with
    | [.c x] => aWords x m
    | _ => none
  else permK f args m
theorem ent36 : Enters Tryd.prog 36 := fun _ _ => by kernel_rfl
theorem ent40 : Enters Tryd.prog 40 := fun _ _ => by kernel_rfl
theorem byC_den {E : Env} (bl : Bl) (t : T) : (byC t).map (AC.den E bl) = vals (wbs (t.den E)) := wb8_den bl rfl (mkByte t) fun i hi => mkByte_den E t i (by omega)
theorem up_low {x : BitVec 64} (h : ∀ j, 8 ≤ j → x.getLsbD j = false) : up (x.setWidth 8) = x := bv_ext fun j _ => by
  rw [up_bit, BitVec.getLsbD_setWidth]
  by_cases hj : j < 8
  · simp [hj]
  · rw [h j (by omega)]; simp
theorem specK_ok {E : Env} {w0 : World} {G : Cfg} (hEo : EnvOk E) (hap : ApOk E) : CallOk Tryd.prog E w0 G specK := by
  intro f args m r m' h
  unfold specK at h
  split at h
  · rename_i hf
    have hf' := Nat.eq_of_beq_eq_true hf
    subst hf'
    refine ⟨ent36, ?_⟩
    split at h
    · rename_i l
      unfold aBytes at h
      split at h
      · rename_i p q r s t hws
        cases h
        intro bl w hm hG hw
        have hvals := wsOf_vals (E := E) bl hws
        have hcall := bytes_calls (s := ⟨p.den E, q.den E, r.den E, s.den E, t.den E⟩) (w := w)
        rw [← hvals] at hcall
        refine hcall.mono fun e w' ⟨g, cap, v, he, hb, ho⟩ => ?_
        have hcs : (byC p ++ (byC q ++ (byC r ++ (byC s ++ byC t)))).map (AC.den E bl) = vals (stB ⟨p.den E, q.den E, r.den E, s.den E, t.den E⟩) := by
          simp only [List.map_append, byC_den, stB, vals_append]
        refine ⟨addBl2 bl m.length g (rowOf E 0).length cap, ?_, addBl2_agree bl m.length g _ cap, MRel.ownIn hm hb ho rfl (r := 0) hcs, by simp [AV.wf, A1.wf, AC.wf], by simp⟩
        rw [he]
        congr 1
        exact own_dy hEo (r := 0) (cs := byC p ++ (byC q ++ (byC r ++ (byC s ++ byC t)))) ho (by rw [vals_length]; rfl)
      · cases h
    · cases h
  · split at h
    · rename_i hf
      have hf' := Nat.eq_of_beq_eq_true hf
      subst hf'
      refine ⟨ent40, ?_⟩
      split at h
      · rename_i x
        unfold aWords at h
        split at h
        · rename_i cs hco
          split at h
          · rename_i ts hws
            split at h
            · rename_i hc
              simp only [Bool.and_eq_true, Nat.beq_eq] at hc
              obtain ⟨h40, hall⟩ := hc
              cases h
              intro bl w hm hG hw
              obtain ⟨_, hsl⟩ := contOf_den (w0 := w0) hEo (so := []) (fun p hp => nomatch hp) hm hco
              have hup : ∀ t ∈ ts, up ((t.den E).setWidth 8) = t.den E := fun t ht => up_low (T.isB_bit E (List.all_eq_true.1 hall t ht))
              have hv : rowOf E 0 ++ cs.map (AC.den E bl) = vals (ts.map fun t => (t.den E).setWidth 8) := by
                rw [wsOf_den hws]
                simp only [rowOf, List.nil_append, vals, List.map_map]
                refine List.map_congr_left fun t ht => ?_
                simp only [Function.comp, bval]
                congr 2
                rw [← up_nat, hup t ht]
              rw [hv] at hsl
              have hget : ∀ i, up ((ts.map fun t => (t.den E).setWidth 8).getD i 0) = (ts.getD i (.k 0)).den E := fun i => by
                simp only [List.getD, List.getElem?_map]
                cases hx : ts[i]? with
                | none => rfl
                | some t => exact hup t (List.mem_of_getElem? hx)
              have hcat : ∀ o, (catAt ts o).den E = cat8 ((ts.map fun t => (t.den E).setWidth 8).drop o) := fun o => by
                rw [catAt, mkCat_den]
                simp only [C8.den, cat8, getD_drop, ← hget]
                rfl
              refine (words_calls (by rw [List.length_map]; exact h40) hsl).mono fun e w' ⟨he, hb⟩ => ⟨bl, ?_, Agree.refl _ _, hm.belowStep hb, rfl, Nat.le_refl _⟩
              rw [he]
              have h5 : Is5 E [catAt ts 0, catAt ts 8, catAt ts 16, catAt ts 24, catAt ts 32] (wordsOf (ts.map fun t => (t.den E).setWidth 8)) := by
                simp only [Is5, List.map, hcat]
                rfl
              simp only [AV.den, A1.den, h5.vals]
            · cases h
          · cases h
        · cases h
      · cases h
    · exact permK_ok hap f args m r m' h
end Go.Proofs.YtfilandehjmikaaDoor.Asc
