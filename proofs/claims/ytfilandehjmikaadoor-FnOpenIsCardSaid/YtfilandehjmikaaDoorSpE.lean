/- The closed runs over the specification's Crypt: ends of blocks of 16 bytes. The closed runs over the specification's Crypt: ends of blocks of 16 bytes. The specification's Crypt as a contract. The specification's Crypt as a contract: rounds, the end, the call. The specification's Crypt as a contract: the end, and the call. No condition. -/
import Derived.Test.YtfilandehjmikaaDoorSpCb1
import Derived.Test.YtfilandehjmikaaDoorSpCb2
import Derived.Test.YtfilandehjmikaaDoorSpCc1
import Derived.Test.YtfilandehjmikaaDoorSpCc2
import Derived.Test.YtfilandehjmikaaDoorSpCa
import Derived.Test.YtfilandehjmikaaDoorAscZ
namespace Go.Proofs.YtfilandehjmikaaDoor.Asc
open Go.RowKit Go.Proofs.YtfilandehjmikaaDoor.Sx
theorem cEnd_16b {k : Nat} (hk : k < 16) : cEnd true false 8 k = true := by
  rcases (show k ∈ [0, 1, 2, 3] ∨ k ∈ [4, 5, 6] ∨ k ∈ [7, 8, 9] ∨ k ∈ [10, 11] ∨ k ∈ [12, 13] ∨ k ∈ [14, 15] by simp; omega) with h | h | h | h | h | h
  · exact List.all_eq_true.1 cEnd_16b_0 k h
  · exact List.all_eq_true.1 cEnd_16b_1 k h
  · exact List.all_eq_true.1 cEnd_16b_2 k h
  · exact List.all_eq_true.1 cEnd_16b_3 k h
  · exact List.all_eq_true.1 cEnd_16b_4 k h
  · exact List.all_eq_true.1 cEnd_16b_5 k h
end Go.Proofs.YtfilandehjmikaaDoor.Asc
namespace Go.Proofs.YtfilandehjmikaaDoor.Asc
open Go.RowKit Go.Proofs.YtfilandehjmikaaDoor.Sx
theorem cEnd_16c {k : Nat} (hk : k < 16) : cEnd true true 8 k = true := by
  rcases (show k ∈ [0, 1, 2, 3] ∨ k ∈ [4, 5, 6] ∨ k ∈ [7, 8, 9] ∨ k ∈ [10, 11] ∨ k ∈ [12, 13] ∨ k ∈ [14, 15] by simp; omega) with h | h | h | h | h | h
  · exact List.all_eq_true.1 cEnd_16c_0 k h
  · exact List.all_eq_true.1 cEnd_16c_1 k h
  · exact List.all_eq_true.1 cEnd_16c_2 k h
  · exact List.all_eq_true.1 cEnd_16c_3 k h
  · exact List.all_eq_true.1 cEnd_16c_4 k h
  · exact List.all_eq_true.1 cEnd_16c_5 k h
end Go.Proofs.YtfilandehjmikaaDoor.Asc
namespace Go.Proofs.YtfilandehjmikaaDoor.Asc
open Go.RowKit Go.Proofs.YtfilandehjmikaaDoor.Sx

theorem cEndsAll {two back : Bool} {r k : Nat} (h : (two = false ∧ r = 6) ∨ (two = true ∧ r = 8)) (hk : k < rate two) : cEnd two back r k = true := by
  rcases h with ⟨rfl, rfl⟩ | ⟨rfl, rfl⟩
  · have hk : k < 8 := hk
    cases back
    · rcases (show k ∈ [0, 1, 2, 3] ∨ k ∈ [4, 5, 6, 7] by simp; omega) with h | h
      · exact List.all_eq_true.1 cEnd_8a k h
      · exact List.all_eq_true.1 cEnd_8b k h
    · rcases (show k ∈ [0, 1, 2, 3] ∨ k ∈ [4, 5, 6, 7] by simp; omega) with h | h
      · exact List.all_eq_true.1 cEnd_8c k h
      · exact List.all_eq_true.1 cEnd_8d k h
  · have hk : k < 16 := hk
    cases back
    · exact cEnd_16b hk
    · exact cEnd_16c hk
/-- Two ranges that share no cell. -/
def Far (a o n b p k : Nat) : Prop := a ≠ b ∨ o + n ≤ p ∨ p + k ≤ o
theorem Far.symm {a o n b p k : Nat} (h : Far a o n b p k) : Far b p k a o n := by unfold Far at *; omega
/-- A start, by the cells that are there; blocks that do not grow may lie in one. -/
theorem MRel.start' {E : Env} {bl : Bl} {w0 w : World} {m : List MB} (hb : Below w0.heap.size w0 w)
    (h : ∀ (i : Nat) (b : MB), m[i]? = some b → (bl i).1 < w.heap.size ∧ (b.own = true → w0.heap.size ≤ (bl i).1) ∧ (b.live = true → b.cs.all (AC.wf m.length) = true ∧ b.lo E ≤ (bl i).2 ∧
      At w (bl i).1 ((bl i).2 - b.lo E) (rowOf E b.row ++ b.cs.map (AC.den E bl)) ∧ (b.rw = true → Thaw w (bl i).1 (bl i).2 b.cs.length) ∧
      (b.solo = true → i + 1 < m.length ∧ (bl i).2 = b.lo E ∧ b.lo E + b.cs.length ≤ (bl (i + 1)).2 ∧ (bl (i + 1)).2 ≤ maxLen ∧ (∀ j, j < (bl (i + 1)).2 → (w.cell? ⟨(bl i).1, j, none⟩).isSome = true ∧ w.frozen? ⟨(bl i).1, j, none⟩ = false) ∧
        ∀ (k : Nat) (bk : MB), k ≠ i → m[k]? = some bk → bk.live = true → (bl k).1 ≠ (bl i).1)))
    (hsep : ∀ (i k : Nat) (bi bk : MB), i ≠ k → m[i]? = some bi → m[k]? = some bk → bi.rw = true → bi.live = true → bk.live = true → (bl i).1 ≠ (bl k).1 ∨ (bl i).2 + bi.cs.length + bk.lo E ≤ (bl k).2 ∨ (bl k).2 + bk.cs.length + bi.lo E ≤ (bl i).2) : MRel E bl w0 m w := by
  refine ⟨hb.os, hb.tape, hb.output, hb.size, fun i b hi => (h i b hi).1, ?_, ?_, ?_, hsep, fun b hlt _ => hb.block b hlt, fun b o hlt _ => hb.cell (p := ⟨b, o, none⟩) hlt,
    fun b o hlt => hb.frozen (p := ⟨b, o, none⟩) hlt, fun i b hi => (h i b hi).2.1, ?_, ?_, ?_⟩
  · intro i b j x hi hl hx
    obtain ⟨_, h2, h3, _⟩ := (h i b hi).2.2 hl
    have := (At.append.1 h3).2 j (x.den E bl) (by rw [List.getElem?_map, hx]; rfl)
    rw [← this]
    simp only [at_]
    congr 2
    unfold MB.lo at *; omega
  · intro i b hi hl x hx
    exact List.all_eq_true.1 ((h i b hi).2.2 hl).1 x hx
  · intro i b j hi hl hr hj
    exact ((h i b hi).2.2 hl).2.2.2.1 hr j hj
  · intro i b hi hl; exact ((h i b hi).2.2 hl).2.1
  · intro i b j v hi hl hv
    exact (At.append.1 ((h i b hi).2.2 hl).2.2.1).1 j v hv
  · intro i b hi hl hs
    obtain ⟨h1, h2, h3, h4, h5, h6⟩ := ((h i b hi).2.2 hl).2.2.2.2 hs
    exact ⟨h1, h2, h3, h4, h5, h6⟩

def modeV (kv : Value) (two : Bool) (r : Nat) : List Value := [kv, .int .i64 (Int.ofNat (rate two)), .int .i64 (Int.ofNat r)]
def st0 : St := ⟨0, 0, 0, 0, 0⟩
def rowsS (done : List B8) (n c : Nat) : Nat → List Value := fun i => if i = 0 then vals done else if i = 1 then repl n else if i = 200 then repl c else []
theorem rowsS_le {done : List B8} {n c : Nat} (h0 : done.length ≤ 1099511627776) (h : n ≤ 1099511627776) : ∀ i, i < 100 → (rowsS done n c i).length ≤ 1099511627776 := fun i hi => by
  unfold rowsS
  split
  · rw [vals_length]; exact h0
  · split
    · simpa [repl] using h
    · rw [if_neg (by omega)]; simp
theorem rowsS_one {done : List B8} {n c : Nat} : ∀ i, ∀ v ∈ rowsS done n c i, v.oneCell' = true := fun i v hv => by
  unfold rowsS at hv
  split at hv
  · obtain ⟨b, _, rfl⟩ := List.mem_map.1 hv; rfl
  · split at hv
    · rw [(List.mem_replicate.1 hv).2]; rfl
    · split at hv
      · rw [(List.mem_replicate.1 hv).2]; rfl
      · cases hv
def vlS (v p u kv : Value) : Nat → Value := fun i => match i with
  | 0 => v
  | 1 => .slice none 0 0
  | 9 => p
  | 10 => u
  | 30 => kv
  | _ => .bool true
theorem vlS_one {v p u kv : Value} (h1 : v.oneCell' = true) (h2 : p.oneCell' = true) (h3 : u.oneCell' = true) (h4 : kv.oneCell' = true) (i : Nat) : (vlS v p u kv i).oneCell' = true := by
  unfold vlS
  split <;> first | assumption | rfl
/-- What holds ahead of a round. -/
structure CIn (w0 w : World) (v : Value) (l : List B8) (st : St) (done : List B8) (mb mo sb so rb ro g cap : Nat) (u kv : Value) (two : Bool) (r : Nat) : Prop where
  below : Below w0.heap.size w0 w
  src : SlV w v (vals l)
  far : ∀ b, w0.heap.size ≤ b → NotAt v b
  kv1 : kv.oneCell' = true
  md : At w mb mo (modeV kv two r)
  st : At w sb so st.vals
  th : Thaw w sb so 5
  rs : At w rb ro st0.vals
  rt : Thaw w rb ro 5
  out : OwnG w0 w g cap u (vals done)
  mn : w0.heap.size ≤ mb
  sn : w0.heap.size ≤ sb
  rn : w0.heap.size ≤ rb
  ms : Far sb so 5 mb mo 3
  mr : Far rb ro 5 mb mo 3
  sr : Far sb so 5 rb ro 5
  gm : mb ≠ g
  gs : sb ≠ g
  gr : rb ≠ g
section
variable {w0 w : World} {v : Value} {l : List B8} {st : St} {done : List B8} {mb mo sb so rb ro g cap : Nat} {u kv : Value} {two back : Bool} {r : Nat}
theorem CIn.step (h : CIn w0 w v l st done mb mo sb so rb ro g cap u kv two r) {w' : World} (hb : Below w.heap.size w w') : CIn w0 w' v l st done mb mo sb so rb ro g cap u kv two r :=
  ⟨h.below.trans (hb.mono h.below.size), h.src.below hb, h.far, h.kv1, h.md.below hb, h.st.below hb, (Chg.of_below (R := []) hb).thaw (at_lt h.st (by simp [St.vals])) h.th, h.rs.below hb, (Chg.of_below (R := []) hb).thaw (at_lt h.rs (by simp [St.vals])) h.rt, h.out.below hb,
    h.mn, h.sn, h.rn, h.ms, h.mr, h.sr, h.gm, h.gs, h.gr⟩
theorem modeA_den {E : Env} (h : E.vl 30 = kv) (bl : Bl) : (modeA two r).map (AC.den E bl) = modeV kv two r := by
  simp only [modeA, modeV, List.map, AC.den, h]
def blC (x m s : Nat × Nat) (g n cap : Nat) (r : Nat × Nat) : Bl := fun i => match i with
  | 0 => x
  | 1 => m
  | 2 => s
  | 3 => (g, n)
  | 4 => (g, cap)
  | _ => r
theorem startC {E : Env} {blk : List B8} {j : Nat} {x : Nat × Nat} (hin : CIn w0 w v l st done mb mo sb so rb ro g cap u kv two r) (hkv : E.vl 30 = kv) (hrow : E.row 0 = vals done) (hsym : SymOk E st blk) (hx : x.1 < w.heap.size)
    (hj : 0 < j → x.1 < w0.heap.size ∧ At w x.1 x.2 ((win 0 j).map (AC.den E (blC x (mb, mo) (sb, so) g done.length cap (rb, ro))))) :
    MRel E (blC x (mb, mo) (sb, so) g done.length cap (rb, ro)) w0 [srcMB j, roB (modeA two r), owB stA, newMB 1 [], capMB, owB zeroA5] w := by
  have hlo : (rowOf E 1).length = done.length := by show (E.row 0).length = _; rw [hrow, vals_length]
  have hg0 : w0.heap.size ≤ g := hin.out.new
  have h1 := hin.mn
  have h2 := hin.sn
  have h3 := hin.rn
  have e6 : ∀ i, i < 6 → i = 0 ∨ i = 1 ∨ i = 2 ∨ i = 3 ∨ i = 4 ∨ i = 5 := by omega
  have s1 := hin.ms
  have s2 := hin.mr
  have s3 := hin.sr
  have g1 := hin.gm
  have g2 := hin.gs
  have g3 := hin.gr
  unfold Far at s1 s2 s3
  have lo0 : ∀ {b : MB}, b.row = 0 → b.lo E = 0 := fun e => by unfold MB.lo; rw [e]; rfl
  have src : ∀ {b : MB}, [srcMB j, roB (modeA two r), owB stA, newMB 1 [], capMB, owB zeroA5][0]? = some b → b.live = true → 0 < j ∧ b = roB (win 0 j) := fun {b} hi hl => by
    cases hi
    cases j with
    | zero => cases hl
    | succ j => exact ⟨Nat.succ_pos _, rfl⟩
  refine MRel.start' hin.below (fun i b hi => ?_) (fun i k bi bk hik hi hk hr hl hl' => ?_)
  · rcases e6 i (List.getElem?_eq_some_iff.1 hi).1 with rfl | rfl | rfl | rfl | rfl | rfl
    · refine ⟨hx, fun ho => ?_, fun hl => ?_⟩
      · cases hi; cases j <;> cases ho
      · obtain ⟨h0, rfl⟩ := src hi hl
        exact ⟨win_wf _ _ _, Nat.zero_le _, (hj h0).2, (fun h => nomatch h), (fun h => nomatch h)⟩
    · cases hi
      exact ⟨at_lt hin.md (by simp [modeV]), (fun h => nomatch h), fun _ => ⟨rfl, Nat.zero_le _, by show At w mb mo ((modeA two r).map _); rw [modeA_den hkv]; exact hin.md, (fun h => nomatch h), (fun h => nomatch h)⟩⟩
    · cases hi
      exact ⟨at_lt hin.st (by simp [St.vals]), fun _ => h2, fun _ => ⟨rfl, Nat.zero_le _, by show At w sb so ((wsA _).map _); rw [(sT5 hsym).vals]; exact hin.st, fun _ => hin.th, (fun h => nomatch h)⟩⟩
    · cases hi
      refine ⟨hin.out.lt, fun _ => hg0, fun _ => ⟨rfl, by show (rowOf E 1).length ≤ done.length; omega, ?_, fun _ j hj => absurd hj (Nat.not_lt_zero _), fun _ => ⟨by show 4 < 6; decide, by show done.length = (rowOf E 1).length; omega, ?_, hin.out.max, hin.out.room, fun k bk hk hbk hlk => ?_⟩⟩⟩
      · show At w g (done.length - (rowOf E 1).length) (E.row 0 ++ [])
        rw [hlo, Nat.sub_self, hrow, List.append_nil]
        exact hin.out.cells
      · show (rowOf E 1).length + 0 ≤ cap
        have := hin.out.le
        rw [vals_length] at this
        omega
      · rcases e6 k (List.getElem?_eq_some_iff.1 hbk).1 with rfl | rfl | rfl | rfl | rfl | rfl
        · obtain ⟨h0, _⟩ := src hbk hlk
          have := (hj h0).1
          show x.1 ≠ g
          omega
        · exact g1
        · exact g2
        · exact absurd rfl hk
        · cases hbk; cases hlk
        · exact g3
    · cases hi
      exact ⟨hin.out.lt, fun _ => hg0, fun h => nomatch h⟩
    · cases hi
      exact ⟨at_lt hin.rs (by simp [St.vals]), fun _ => h3, fun _ => ⟨rfl, Nat.zero_le _, hin.rs, fun _ => hin.rt, (fun h => nomatch h)⟩⟩
  · rcases e6 i (List.getElem?_eq_some_iff.1 hi).1 with rfl | rfl | rfl | rfl | rfl | rfl
    · obtain ⟨_, rfl⟩ := src hi hl; cases hr
    · cases hi; cases hr
    · cases hi
      rcases e6 k (List.getElem?_eq_some_iff.1 hk).1 with rfl | rfl | rfl | rfl | rfl | rfl
      · obtain ⟨h0, _⟩ := src hk hl'
        have := (hj h0).1
        exact .inl (by show sb ≠ x.1; omega)
      · cases hk; exact s1
      · exact absurd rfl hik
      · exact .inl g2
      · cases hk; cases hl'
      · cases hk; exact s3
    · cases hi
      refine .inl ?_
      rcases e6 k (List.getElem?_eq_some_iff.1 hk).1 with rfl | rfl | rfl | rfl | rfl | rfl
      · obtain ⟨h0, _⟩ := src hk hl'
        have := (hj h0).1
        show g ≠ x.1
        omega
      · exact Ne.symm g1
      · exact Ne.symm g2
      · exact absurd rfl hik
      · cases hk; cases hl'
      · exact Ne.symm g3
    · cases hi; cases hl
    · cases hi
      rcases e6 k (List.getElem?_eq_some_iff.1 hk).1 with rfl | rfl | rfl | rfl | rfl | rfl
      · obtain ⟨h0, _⟩ := src hk hl'
        have := (hj h0).1
        exact .inl (by show rb ≠ x.1; omega)
      · cases hk; exact s2
      · cases hk; exact Far.symm s3
      · exact .inl g3
      · cases hk; cases hl'
      · exact absurd rfl hik
end
end Go.Proofs.YtfilandehjmikaaDoor.Asc
namespace Go.Proofs.YtfilandehjmikaaDoor.Asc
open Go.RowKit Go.Proofs.YtfilandehjmikaaDoor.Sx

def cV (v : Value) (back : Bool) (mp sp rp : Value) : List (Nat × Value) := [(2, v), (3, .bool back), (4, mp), (5, sp), (9, rp)]
theorem ptV_den {E : Env} {bl : Bl} {i b o : Nat} (h : bl i = (b, o)) : (ptV i).den E bl = ptrTo b o := by simp only [ptV, AV.den, A1.den, AC.den, at_, h, Nat.add_zero, ptrTo]
theorem denL_app (E : Env) (bl : Bl) (x y : List (Nat × AV)) : denL E bl (x ++ y) = denL E bl x ++ denL E bl y := List.map_append
theorem oldAt {w0 w w' : World} {b o : Nat} {vs : List Value} (h : At w b o vs) (hb : b < w0.heap.size) (h1 : Below w0.heap.size w0 w) (h2 : Below w0.heap.size w0 w') : At w' b o vs := fun j x hx => by
  have := h j x hx
  rw [h1.cell (p := ⟨b, o + j, none⟩) hb] at this
  rw [h2.cell (p := ⟨b, o + j, none⟩) hb]; exact this
theorem leftS_ok {E : Env} (hE : EnvOk E) {w0 : World} {l : List B8} (h0 : l = [] → SlV w0 (E.vl 0) []) (h1 : E.vl 1 = .slice none 0 0) : CfgOk Tryd.prog E w0 (leftG l.length) := by
  cases l with
  | nil =>
    refine ⟨hE, (fun p hp => nomatch hp), (fun p hp => nomatch hp), (fun p hp => nomatch hp), fun p hp => ?_, (fun p hp => nomatch hp), (fun p hp => nomatch hp)⟩
    simp only [List.length_nil, leftG, emG, List.mem_cons, List.not_mem_nil, or_false] at hp
    rcases hp with rfl | rfl
    · exact ⟨rfl, h0 rfl⟩
    · exact ⟨rfl, .inl ⟨h1, rfl⟩⟩
  | cons x l => exact cfgOk0 (r := []) hE fun p hp => nomatch hp
section
variable {w0 w : World} {v : Value} {l : List B8} {st : St} {done : List B8} {mb mo sb so rb ro g cap : Nat} {u kv : Value} {two back : Bool} {r : Nat}
theorem cLR_den {E : Env} {bl : Bl} {x : AV} (hx : x.den E bl = v) (h1 : bl 1 = (mb, mo)) (h2 : bl 2 = (sb, so)) (h5 : bl 5 = (rb, ro)) : denL E bl (cLR x back) = cV v back (ptrTo mb mo) (ptrTo sb so) (ptrTo rb ro) := by
  simp only [denL, cLR, cV, List.map, hx, ptV_den h1, ptV_den h2, ptV_den h5]; rfl
theorem cIn_den {E : Env} {bl : Bl} (hE : EnvOk E) (hrow : E.row 0 = vals done) (h3 : bl 3 = (g, done.length)) (h4 : bl 4 = (g, cap)) (ho : OwnG w0 w g cap u (vals done)) : cIn.den E bl = u := by
  have hlo : (rowOf E 1).length = done.length := by show (E.row 0).length = _; rw [hrow, vals_length]
  have hv : (⟨1, 0⟩ : AN).val E = done.length := by rw [rowVal hE, hlo, Nat.add_zero]
  rw [ho.val]
  show Value.slice (some ⟨(bl 3).1, (bl 3).2 - (rowOf E 1).length + 0, none⟩) ((⟨1, 0⟩ : AN).val E) ((bl 4).2 - ((bl 3).2 - (rowOf E 1).length + 0)) = _
  rw [h3, h4, hlo, hv, vals_length]
  simp
theorem cLR_keys (x : AV) : KeysOk (cLR x back) := by
  intro p hp
  simp only [cLR, List.mem_cons, List.not_mem_nil, or_false] at hp
  rcases hp with rfl | rfl | rfl | rfl | rfl <;> rfl
theorem srcMB_pos {j : Nat} (h : 0 < j) : srcMB j = roB (win 0 j) := by
  cases j with
  | zero => exact absurd h (Nat.lt_irrefl _)
  | succ j => rfl
theorem CIn.old (h : CIn w0 w v l st done mb mo sb so rb ro g cap u kv two r) {ib io n c : Nat} (hv : v = .slice (some ⟨ib, io, none⟩) n c) (hn : 0 < n) : ib < w0.heap.size := by
  rcases Nat.lt_or_ge ib w0.heap.size with hlt | hge
  · exact hlt
  · exact absurd rfl (h.far ib hge ib io n c hv hn)
set_option maxHeartbeats 1000000 in
/-- A round. -/
theorem crypt_step (hR : cRound two back r = true) {a : Act} (hlen : rate two ≤ l.length) (hbig : l.length ≤ 1073741824) (hdb : done.length ≤ 1073741824) (hin : CIn w0 w v l st done mb mo sb so rb ro g cap u kv two r)
    (hf : Fr 104 a (cV v back (ptrTo mb mo) (ptrTo sb so) (ptrTo rb ro) ++ [(10, u)])) {Q : Exit → Act → World → Prop}
    (hq : ∀ v' u' g' cap' a' w', Fr 104 a' (cV v' back (ptrTo mb mo) (ptrTo sb so) (ptrTo rb ro) ++ [(10, u')]) →
      CIn w0 w' v' (l.drop (rate two)) (perm r (absorb two st (if back then xorl (sbytes two st) (l.take (rate two)) else l.take (rate two)))) (done ++ xorl (sbytes two st) (l.take (rate two))) mb mo sb so rb ro g' cap' u' kv two r → Q .normal a' w') :
    cLp.wp Tryd.prog Q a w := by
  have h16 := rate_le two
  have hp := rate_pos two
  have hne : vals l ≠ [] := fun e => by have := congrArg List.length e; rw [vals_length, List.length_nil] at this; omega
  obtain ⟨ib, io, tcap, rfl, hle, hat, hib⟩ := hin.src.cons hne
  rw [vals_length] at hle
  have hold : ib < w0.heap.size := hin.old rfl (by rw [vals_length]; omega)
  have htl : (l.take (rate two)).length = rate two := by simp; omega
  obtain ⟨hat1, hat2⟩ := At.append.1 ((tx_split (n := rate two)) ▸ hat : At w ib io (vals (l.take (rate two)) ++ vals (l.drop (rate two))))
  rw [vals_length, htl] at hat2
  have hE0 := envA_ok (st := st) (blk := l.take (rate two)) (rows := rowsS done (l.length - rate two) (tcap - rate two)) (vl := vlS (.slice none 0 0) (.bool true) (.bool true) kv) (vlS_one rfl rfl rfl hin.kv1) (rowsS_le (by omega) (by omega)) rowsS_one
  have hsym : SymOk (envA st (l.take (rate two)) (rowsS done (l.length - rate two) (tcap - rate two)) (vlS (.slice none 0 0) (.bool true) (.bool true) kv)) st (l.take (rate two)) := envA_sym
  have hap : ApOk (envA st (l.take (rate two)) (rowsS done (l.length - rate two) (tcap - rate two)) (vlS (.slice none 0 0) (.bool true) (.bool true) kv)) := envA_ap
  have n1 : (envA st (l.take (rate two)) (rowsS done (l.length - rate two) (tcap - rate two)) (vlS (.slice none 0 0) (.bool true) (.bool true) kv)).nm 1 = l.length - rate two := by simp [envA, rowsS, repl]
  have n2 : (envA st (l.take (rate two)) (rowsS done (l.length - rate two) (tcap - rate two)) (vlS (.slice none 0 0) (.bool true) (.bool true) kv)).nm 200 = tcap - rate two := by simp [envA, rowsS, repl]
  have hrow : (envA st (l.take (rate two)) (rowsS done (l.length - rate two) (tcap - rate two)) (vlS (.slice none 0 0) (.bool true) (.bool true) kv)).row 0 = vals done := rfl
  have hkv : (envA st (l.take (rate two)) (rowsS done (l.length - rate two) (tcap - rate two)) (vlS (.slice none 0 0) (.bool true) (.bool true) kv)).vl 30 = kv := rfl
  generalize envA st (l.take (rate two)) (rowsS done (l.length - rate two) (tcap - rate two)) (vlS (.slice none 0 0) (.bool true) (.bool true) kv) = E at hE0 hsym hap n1 n2 hrow hkv
  have hE : CfgOk Tryd.prog E w0 {} := cfgOk0 (r := []) hE0 fun p hp => nomatch hp
  have hwin : (win 0 (rate two)).map (AC.den E (blC (ib, io) (mb, mo) (sb, so) g done.length cap (rb, ro))) = vals (l.take (rate two)) := by
    have := win0 hsym (blC (ib, io) (mb, mo) (sb, so) g done.length cap (rb, ro)) (by omega)
    rwa [htl] at this
  have hm := startC (j := rate two) (x := (ib, io)) hin hkv hrow hsym hib fun _ => ⟨hold, by rw [hwin]; exact hat1⟩
  rw [srcMB_pos hp] at hm
  refine pieceD (bl := blC (ib, io) (mb, mo) (sb, so) g done.length cap (rb, ro)) hE (KS_ok hE hap) mix hR (cLR_keys _) (by cases two <;> cases back <;> rfl) (Nat.le_refl _) (by
    rw [denL_app, cLR_den (v := .slice (some ⟨ib, io, none⟩) (vals l).length tcap) (mb := mb) (mo := mo) (sb := sb) (so := so) (rb := rb) (ro := ro) ?_ rfl rfl rfl]
    · show Fr 104 a (_ ++ [(10, cIn.den E _)])
      rw [cIn_den (g := g) (cap := cap) hE0 hrow rfl rfl hin.out]
      exact hf
    · refine slc_den (ib := ib) (io := io) rfl ?_ (by omega) ?_
      · show E.nm 200 + _ = _; rw [n2]; omega
      · show E.nm 1 + _ = _; rw [n1, vals_length]; omega) hm gok0 fun bl' a' w' hag hf' hm' hd => ?_
  have hb0 : bl' 0 = (ib, io) := hag 0 (by show 0 < 6; decide)
  have hb1 : bl' 1 = (mb, mo) := hag 1 (by show 1 < 6; decide)
  have hb2 : bl' 2 = (sb, so) := hag 2 (by show 2 < 6; decide)
  have hb5 : bl' 5 = (rb, ro) := hag 5 (by show 5 < 6; decide)
  have hbel : Below w0.heap.size w0 w' := hm'.below (by cases two <;> cases back <;> rfl)
  obtain ⟨g', cap', hown, hdis⟩ := hd (10, 1, outs (rate two)) (by simp)
  have ho := outs_den hsym (fun _ => (0, 0)) two (by omega)
  rw [htl] at ho
  have hown' : OwnG w0 w' g' cap' (a'.tmps.getD 10 undef) (vals (done ++ xorl (sbytes two st) (l.take (rate two)))) := by
    rw [vals_append, ← ho, ← hrow]; exact hown
  let v' : Value := .slice (some (if tcap - rate two = 0 then ⟨ib, io, none⟩ else ⟨ib, io + rate two, none⟩)) (l.length - rate two) (tcap - rate two)
  have hv' : (slC (rate two)).den E bl' = v' := by
    show Value.slice (some (if _ then _ else _)) _ _ = _
    have e1 : (⟨2, 0⟩ : AN).val E = l.length - rate two := by show E.nm 1 + _ = _; rw [n1]; rfl
    have e2 : (⟨201, 0⟩ : AN).val E = tcap - rate two := by show E.nm 200 + _ = _; rw [n2]; rfl
    rw [e1, e2]
    simp only [at_, hb0, Nat.add_zero, v']
  rw [cLR_den hv' hb1 hb2 hb5] at hf'
  have hdrop : At w' ib (io + rate two) (vals (l.drop (rate two))) := oldAt hat2 hold hin.below hbel
  have hsl : SlV w' v' (vals (l.drop (rate two))) := by
    refine .inr ⟨_, _, by simp only [v', vals_length, List.length_drop]; rfl, by rw [vals_length, List.length_drop]; omega, fun j x hx => ?_⟩
    have hj := (List.getElem?_eq_some_iff.1 hx).1
    rw [vals_length, List.length_drop] at hj
    rw [if_neg (by omega), Addr.add_lit]
    exact hdrop j x hx
  have hst : At w' sb so (perm r (absorb two st (if back then xorl (sbytes two st) (l.take (rate two)) else l.take (rate two)))).vals := by
    have := hm'.at (i := 2) (b := owB (permA r (roundT two back))) rfl rfl
    rw [hb2] at this
    rw [← roundDen hsym hap two back htl bl']
    exact this
  refine hq v' (a'.tmps.getD 10 undef) g' cap' a' w' ⟨hf'.defers, hf'.size, fun p hp => ?_⟩ ⟨hbel, hsl, fun b hb b' o n c e hpos => ?_, hin.kv1, ?_, hst, ?_, ?_, ?_, hown', hin.mn, hin.sn, hin.rn, hin.ms, hin.mr, hin.sr, ?_, ?_, ?_⟩
  · rcases List.mem_append.1 hp with hp | hp
    · exact hf'.get p hp
    · rw [List.mem_singleton] at hp; subst hp; rfl
  · simp only [v', Value.slice.injEq, Option.some.injEq] at e
    have : b' = ib := by
      have := e.1
      split at this <;> (injection this with h _ _; exact h.symm)
    omega
  · have := hm'.at (i := 1) (b := roB (modeA two r)) rfl rfl
    rw [hb1] at this
    rw [← modeA_den hkv bl']
    exact this
  · intro j hj
    have hl5 := roundLen two back r
    have := hm'.thaw 2 (owB (permA r (roundT two back))) j rfl rfl rfl (by show j < (permA r (roundT two back)).length; omega)
    simpa only [at_, hb2] using this
  · have := hm'.at (i := 5) (b := owB zeroA5) rfl rfl
    rw [hb5] at this
    exact this
  · intro j hj
    have := hm'.thaw 5 (owB zeroA5) j rfl rfl rfl hj
    simpa only [at_, hb5] using this
  · have := hdis 1 _ rfl rfl
    rw [hb1] at this; exact this
  · have := hdis 2 _ rfl rfl
    rw [hb2] at this; exact this
  · have := hdis 5 _ rfl rfl
    rw [hb5] at this; exact this
end
end Go.Proofs.YtfilandehjmikaaDoor.Asc
namespace Go.Proofs.YtfilandehjmikaaDoor.Asc
open Go.RowKit Go.Proofs.YtfilandehjmikaaDoor.Sx

section
variable {w0 w : World} {v : Value} {l : List B8} {st : St} {done : List B8} {mb mo sb so rb ro g cap : Nat} {u kv : Value} {two back : Bool} {r : Nat}
theorem left_den {E : Env} {bl : Bl} {x : Nat × Nat} {tc : Nat} (h0 : E.vl 0 = v) (hb : bl 0 = x) (hn : E.nm 200 = tc - l.length) (hsrc : 0 < l.length → v = .slice (some ⟨x.1, x.2, none⟩) l.length tc ∧ l.length ≤ tc) : (leftV l.length).den E bl = v := by
  cases hl : l.length with
  | zero => exact h0
  | succ k =>
    obtain ⟨hv, hle⟩ := hsrc (by omega)
    rw [hv, hl]
    exact slc_den (ib := x.1) (io := x.2) hb (by show E.nm 200 + _ = _; rw [hn]; omega) (by omega) rfl
theorem left_src (hs : SlV w v (vals l)) (hmb : mb < w.heap.size) : ∃ (x : Nat × Nat) (tc : Nat), x.1 < w.heap.size ∧ (0 < l.length → (v = .slice (some ⟨x.1, x.2, none⟩) l.length tc ∧ l.length ≤ tc) ∧ At w x.1 x.2 (vals l)) := by
  cases l with
  | nil => exact ⟨(mb, 0), 0, hmb, fun h => absurd h (Nat.lt_irrefl _)⟩
  | cons y l =>
    obtain ⟨ib, io, tcap, h1, h2, h3, h4⟩ := hs.cons (by simp [vals])
    rw [vals_length] at h1 h2
    exact ⟨(ib, io), tcap, h4, fun _ => ⟨⟨h1, h2⟩, h3⟩⟩
theorem cL_den {E : Env} {bl : Bl} {x : AV} (hx : x.den E bl = v) (h1 : bl 1 = (mb, mo)) (h2 : bl 2 = (sb, so)) (h9 : E.vl 9 = ptrTo rb ro) (h10 : E.vl 10 = u) : denL E bl (cL x back ++ [(10, opV 10)]) = cV v back (ptrTo mb mo) (ptrTo sb so) (ptrTo rb ro) ++ [(10, u)] := by
  simp only [denL, cL, cV, List.map_append, List.map, hx, ptV_den h1, ptV_den h2]
  rw [show (opV 9).den E bl = ptrTo rb ro from h9, show (opV 10).den E bl = u from h10]
  rfl
theorem cL_keys (x : AV) : KeysOk (cL x back ++ [(10, opV 10)]) := by
  intro p hp
  simp only [cL, List.cons_append, List.nil_append, List.mem_cons, List.not_mem_nil, or_false] at hp
  rcases hp with rfl | rfl | rfl | rfl | rfl | rfl <;> rfl
set_option maxHeartbeats 1000000 in
theorem crypt_exit (hX : cExit two back r l.length = true) {a : Act} (hl : l.length < rate two) (hin : CIn w0 w v l st done mb mo sb so rb ro g cap u kv two r)
    (hf : Fr 104 a (cV v back (ptrTo mb mo) (ptrTo sb so) (ptrTo rb ro) ++ [(10, u)])) {Q : Exit → Act → World → Prop}
    (hq : ∀ a' w', Fr 104 a' (cV v back (ptrTo mb mo) (ptrTo sb so) (ptrTo rb ro) ++ [(10, u)]) → CIn w0 w' v l st done mb mo sb so rb ro g cap u kv two r → Q (.exit 0) a' w') : cLp.wp Tryd.prog Q a w := by
  have h16 := rate_le two
  obtain ⟨x, tc, hx, hsrc⟩ := left_src hin.src (at_lt hin.md (by simp [modeV]))
  have huo : u.oneCell' = true := by rw [hin.out.val]; rfl
  have hE0 := envA_ok (st := st) (blk := l) (rows := rowsS [] 0 (tc - l.length)) (vl := vlS v (ptrTo rb ro) u kv) (vlS_one (slV_one hin.src) rfl huo hin.kv1) (rowsS_le (by simp) (by simp)) rowsS_one
  have hsym : SymOk (envA st l (rowsS [] 0 (tc - l.length)) (vlS v (ptrTo rb ro) u kv)) st l := envA_sym
  have n2 : (envA st l (rowsS [] 0 (tc - l.length)) (vlS v (ptrTo rb ro) u kv)).nm 200 = tc - l.length := by simp [envA, rowsS, repl]
  have e0 : (envA st l (rowsS [] 0 (tc - l.length)) (vlS v (ptrTo rb ro) u kv)).vl 0 = v := rfl
  have e1 : (envA st l (rowsS [] 0 (tc - l.length)) (vlS v (ptrTo rb ro) u kv)).vl 1 = .slice none 0 0 := rfl
  have e9 : (envA st l (rowsS [] 0 (tc - l.length)) (vlS v (ptrTo rb ro) u kv)).vl 9 = ptrTo rb ro := rfl
  have e10 : (envA st l (rowsS [] 0 (tc - l.length)) (vlS v (ptrTo rb ro) u kv)).vl 10 = u := rfl
  have e30 : (envA st l (rowsS [] 0 (tc - l.length)) (vlS v (ptrTo rb ro) u kv)).vl 30 = kv := rfl
  generalize envA st l (rowsS [] 0 (tc - l.length)) (vlS v (ptrTo rb ro) u kv) = E at hE0 hsym n2 e0 e1 e9 e10 e30
  have hE : CfgOk Tryd.prog E w (leftG l.length) := leftS_ok hE0 (fun h => by rw [e0]; have := hin.src; rw [h] at this; exact this) e1
  have hm : MRel E (blC x (mb, mo) (sb, so) 0 0 0 (0, 0)) w [srcMB l.length, roB (modeA two r), roB stA] w := by
    refine MRel.lits (fun i b hi => ?_) (fun i k bi bk hik hi hk hr => ?_)
    · match i, hi with
      | 0, hi =>
        cases hi
        by_cases h0 : 0 < l.length
        · rw [srcMB_pos h0]
          have hw := win0 hsym (blC x (mb, mo) (sb, so) 0 0 0 (0, 0)) (by omega)
          exact ⟨rfl, rfl, rfl, win_wf _ _ _, hx, by show At w x.1 x.2 ((win 0 l.length).map _); rw [hw]; exact (hsrc h0).2, fun h => nomatch h⟩
        · rw [show l.length = 0 by omega]
          exact ⟨rfl, rfl, rfl, rfl, hx, (fun j v hv => nomatch hv), fun h => nomatch h⟩
      | 1, hi => cases hi; exact ⟨rfl, rfl, rfl, rfl, at_lt hin.md (by simp [modeV]), by show At w mb mo _; rw [show (roB (modeA two r)).cs = modeA two r from rfl, modeA_den e30]; exact hin.md, fun h => nomatch h⟩
      | 2, hi => cases hi; exact ⟨rfl, rfl, rfl, rfl, at_lt hin.st (by simp [St.vals]), by show At w sb so ((wsA _).map _); rw [(sT5 hsym).vals]; exact hin.st, fun h => nomatch h⟩
      | i + 3, hi => exact nomatch hi
    · match i, hi with
      | 0, hi => cases hi; cases h : l.length <;> rw [h] at hr <;> cases hr
      | 1, hi => cases hi; cases hr
      | 2, hi => cases hi; cases hr
      | i + 3, hi => exact nomatch hi
  have hwf : ((cL (leftV l.length) back ++ [(10, opV 10)]).all fun p => p.2.wf 3) = true := by
    simp only [cL, List.cons_append, List.nil_append, List.all_cons, show (leftV l.length).wf 3 = true from leftV_wf _ 2]; rfl
  refine piece hE noK_ok mix hX (cL_keys _) hwf (Nat.le_refl _) (by
    rw [cL_den (bl := blC x (mb, mo) (sb, so) 0 0 0 (0, 0)) (mb := mb) (mo := mo) (sb := sb) (so := so) (left_den e0 rfl n2 fun h => (hsrc h).1) rfl rfl e9 e10]; exact hf) hm (by rw [leftG_g]; exact gok0) fun bl' a' w' hag hf' hm' => ?_
  have hb0 : bl' 0 = x := hag 0 (by show 0 < 3; decide)
  have hb1 : bl' 1 = (mb, mo) := hag 1 (by show 1 < 3; decide)
  have hb2 : bl' 2 = (sb, so) := hag 2 (by show 2 < 3; decide)
  rw [cL_den (left_den e0 hb0 n2 fun h => (hsrc h).1) hb1 hb2 e9 e10] at hf'
  refine hq a' w' hf' (hin.step (hm'.chg (R := []) fun i b hi hr => ?_).below)
  match i, hi with
  | 0, hi => cases hi; cases h : l.length <;> rw [h] at hr <;> cases hr
  | 1, hi => cases hi; cases hr
  | 2, hi => cases hi; cases hr
  | i + 3, hi => exact nomatch hi
theorem crypt_rounds (hR : cRound two back r = true) (hX : ∀ k, k < rate two → cExit two back r k = true) {Q : Exit → Act → World → Prop} :
    ∀ (N : Nat) (l : List B8) (st : St) (v : Value) (done : List B8) (u : Value) (g cap : Nat) (a : Act) (w : World), l.length ≤ N → l.length + done.length ≤ 1073741824 → Fr 104 a (cV v back (ptrTo mb mo) (ptrTo sb so) (ptrTo rb ro) ++ [(10, u)]) → CIn w0 w v l st done mb mo sb so rb ro g cap u kv two r →
      (∀ (l' : List B8) (st' : St) (v' : Value) (done' : List B8) (u' : Value) (g' cap' : Nat) (a' : Act) (w' : World), (done' ++ (crypt ⟨two, r⟩ back st' l').1, (crypt ⟨two, r⟩ back st' l').2) = (done ++ (crypt ⟨two, r⟩ back st l).1, (crypt ⟨two, r⟩ back st l).2) → l'.length < rate two →
        Fr 104 a' (cV v' back (ptrTo mb mo) (ptrTo sb so) (ptrTo rb ro) ++ [(10, u')]) → CIn w0 w' v' l' st' done' mb mo sb so rb ro g' cap' u' kv two r → Q (.exit 0) a' w') → Code.rounds Tryd.prog cLp Q (N + 1) a w := by
  have hp := rate_pos two
  have h16 := rate_le two
  intro N
  induction N with
  | zero =>
    intro l st v done u g cap a w hN hbig hf hin hq
    rw [rounds_succ]
    exact crypt_exit (hX _ (by omega)) (by omega) hin hf fun a' w' hf' hin' => hq l st v done u g cap a' w' rfl (by omega) hf' hin'
  | succ N ih =>
    intro l st v done u g cap a w hN hbig hf hin hq
    rw [rounds_succ]
    by_cases hlen : rate two ≤ l.length
    · refine crypt_step hR hlen (by omega) (by omega) hin hf fun v' u' g' cap' a' w' hf' hin' => ?_
      have hxl : (xorl (sbytes two st) (l.take (rate two))).length = rate two := by rw [xorl_length, sbytes_length, List.length_take]; omega
      refine ih _ _ v' _ u' g' cap' a' w' (by rw [List.length_drop]; omega) (by rw [List.length_drop, List.length_append, hxl]; omega) hf' hin' fun l'' st'' v'' done'' u'' g'' cap'' a'' w'' h1 h2 h3 h4 => hq l'' st'' v'' done'' u'' g'' cap'' a'' w'' ?_ h2 h3 h4
      rw [h1, crypt_long (md := ⟨two, r⟩) (s := st) (l := l) hlen]
      simp only [List.append_assoc]
    · exact crypt_exit (hX _ (by omega)) (by omega) hin hf fun a' w' hf' hin' => hq l st v done u g cap a' w' rfl (by omega) hf' hin'
set_option maxHeartbeats 1000000 in
theorem crypt_end {fn : Func} (hres : fn.results.toList = [.tmp 8, .cell 9 48]) (hEnd : cEnd two back r l.length = true) {a : Act} (hl : l.length < rate two) (hdb : done.length ≤ 1073741824) (hin : CIn w0 w v l st done mb mo sb so rb ro g cap u kv two r)
    (hf : Fr 104 a (cV v back (ptrTo mb mo) (ptrTo sb so) (ptrTo rb ro) ++ [(10, u)])) {Post : Ending → World → Prop}
    (hq : ∀ g' cap' u' w', Below w0.heap.size w0 w' → OwnG w0 w' g' cap' u' (vals (done ++ xorl (sbytes two st) l)) → Post (.returned (.tuple #[u', .agg (absorb two st (padl (rate two) (if back then xorl (sbytes two st) l else l))).vals.toArray])) w') :
    cRest.wp Tryd.prog (bodyPost Tryd.prog fn Post) a w := by
  have h16 := rate_le two
  obtain ⟨x, tc, hx, hsrc⟩ := left_src hin.src (at_lt hin.md (by simp [modeV]))
  have hE0 := envA_ok (st := st) (blk := l) (rows := rowsS done 0 (tc - l.length)) (vl := vlS v (.bool true) (.bool true) kv) (vlS_one (slV_one hin.src) rfl rfl hin.kv1) (rowsS_le (by omega) (by simp)) rowsS_one
  have hsym : SymOk (envA st l (rowsS done 0 (tc - l.length)) (vlS v (.bool true) (.bool true) kv)) st l := envA_sym
  have hap : ApOk (envA st l (rowsS done 0 (tc - l.length)) (vlS v (.bool true) (.bool true) kv)) := envA_ap
  have n2 : (envA st l (rowsS done 0 (tc - l.length)) (vlS v (.bool true) (.bool true) kv)).nm 200 = tc - l.length := by simp [envA, rowsS, repl]
  have hrow : (envA st l (rowsS done 0 (tc - l.length)) (vlS v (.bool true) (.bool true) kv)).row 0 = vals done := rfl
  have e0 : (envA st l (rowsS done 0 (tc - l.length)) (vlS v (.bool true) (.bool true) kv)).vl 0 = v := rfl
  have e1 : (envA st l (rowsS done 0 (tc - l.length)) (vlS v (.bool true) (.bool true) kv)).vl 1 = .slice none 0 0 := rfl
  have e30 : (envA st l (rowsS done 0 (tc - l.length)) (vlS v (.bool true) (.bool true) kv)).vl 30 = kv := rfl
  generalize envA st l (rowsS done 0 (tc - l.length)) (vlS v (.bool true) (.bool true) kv) = E at hE0 hsym hap n2 hrow e0 e1 e30
  have hE : CfgOk Tryd.prog E w0 (leftG l.length) := leftS_ok hE0 (fun h => by rw [e0]; have := hin.src; rw [h] at this; exact slV_nil this) e1
  have hm := startC (j := l.length) (x := x) hin e30 hrow hsym hx fun h0 => ⟨hin.old (hsrc h0).1.1 h0, by
    have hw := win0 hsym (blC x (mb, mo) (sb, so) g done.length cap (rb, ro)) (by omega)
    rw [hw]; exact (hsrc h0).2⟩
  have hwf : ((cLR (leftV l.length) back ++ [(10, cIn)]).all fun p => p.2.wf 6) = true := by
    simp only [cLR, List.cons_append, List.nil_append, List.all_cons, show (leftV l.length).wf 6 = true from leftV_wf _ 5]; rfl
  have hfr : Fr 104 a (denL E (blC x (mb, mo) (sb, so) g done.length cap (rb, ro)) (cLR (leftV l.length) back ++ [(10, cIn)])) := by
    rw [denL_app, cLR_den (bl := blC x (mb, mo) (sb, so) g done.length cap (rb, ro)) (mb := mb) (mo := mo) (sb := sb) (so := so) (rb := rb) (ro := ro) (left_den e0 rfl n2 fun h => (hsrc h).1) rfl rfl rfl]
    show Fr 104 a (_ ++ [(10, cIn.den E _)])
    rw [cIn_den (g := g) (cap := cap) hE0 hrow rfl rfl hin.out]
    exact hf
  have hrun := hEnd
  unfold cEnd at hrun
  rw [← hres] at hrun
  refine code_wpR hE (KS_ok hE hap) mix hrun (SRel.ofFr hfr hwf hm (by rw [leftG_g]; exact gok0)) fun bl' vs w' hag hr hm' => ?_
  cases hr with
  | cons h1 hr => cases hr with
    | cons h2 hr => cases hr with
      | nil =>
        obtain ⟨g', cap', hown, _⟩ := h1
        have ho := outs_den hsym (fun _ => (0, 0)) two (by omega)
        have hcat : rowOf E 1 ++ (outs l.length).map (AC.den E fun _ => (0, 0)) = vals (done ++ xorl (sbytes two st) l) := by
          rw [vals_append, ← ho, ← hrow]; rfl
        have hown' := hown
        rw [hcat] at hown'
        have := hq g' cap' _ w' (hm'.below (by cases l.length <;> rfl)) hown'
        rw [← (endDen hsym two back hl).vals bl'] at this
        simp only [RS.ok, A1.den] at h2
        rw [h2]
        exact this
end
set_option maxHeartbeats 1000000 in
/-- The specification's Crypt. -/
theorem scrypt_calls {m : Nat} (back : Bool) {l : List B8} (hl : l.length ≤ 1048576) {w : World} {v kv : Value} {st : St} (hkv : kv.oneCell' = true) (hs : SlV w v (vals l)) :
    Calls Tryd.prog 25 #[.agg (modeV kv (mdOf m).two (mdOf m).r).toArray, .agg st.vals.toArray, v, .bool back] w fun e w' => ∃ g cap u, e = .returned (.tuple #[u, .agg (crypt (mdOf m) back st l).2.vals.toArray]) ∧ Below w.heap.size w w' ∧ OwnG w w' g cap u (vals (crypt (mdOf m) back st l).1) := by
  have hmd := mdOf_is m
  obtain ⟨fn, hfn, hbody, hnt, hres⟩ : ∃ fn, Tryd.prog.funcs[25]? = some fn ∧ fn.body = some c25 ∧ fn.ntmps = 104 ∧ fn.results.toList = [.tmp 8, .cell 9 48] := ⟨_, rfl, rfl, rfl, rfl⟩
  refine calls_of_wp hfn hbody ?_
  rw [hnt, c25_eq]
  have hE0 := envA_ok (st := st) (blk := []) (rows := rowsS [] 0 0) (vl := vlS v (.bool true) (.bool true) kv) (vlS_one (slV_one hs) rfl rfl hkv) (rowsS_le (by simp) (by simp)) rowsS_one
  have hsym : SymOk (envA st [] (rowsS [] 0 0) (vlS v (.bool true) (.bool true) kv)) st [] := envA_sym
  have e0 : (envA st [] (rowsS [] 0 0) (vlS v (.bool true) (.bool true) kv)).vl 0 = v := rfl
  have e30 : (envA st [] (rowsS [] 0 0) (vlS v (.bool true) (.bool true) kv)).vl 30 = kv := rfl
  generalize envA st [] (rowsS [] 0 0) (vlS v (.bool true) (.bool true) kv) = E at hE0 hsym e0 e30
  have hE : CfgOk Tryd.prog E w {} := cfgOk0 (r := []) hE0 fun p hp => nomatch hp
  have hst0 := cStarts (back := back) hmd
  simp only [cStart, Bool.and_eq_true] at hst0
  obtain ⟨p0, p1⟩ := hst0
  have hst := start_rel (E := E) (w0 := w) (G := {}) (nt := 104) (bl := fun _ => (0, 0)) (args := [.a (modeA (mdOf m).two (mdOf m).r), .a stA, .c (.o 0), .c (.v (.bool back))]) (MRel.nil E _ w) gok0 (fun x hx => by
    simp only [List.mem_cons, List.not_mem_nil, or_false] at hx
    rcases hx with rfl | rfl | rfl | rfl <;> rfl) (by show 4 ≤ 104; decide)
  have hargs : ([.a (modeA (mdOf m).two (mdOf m).r), .a stA, .c (.o 0), .c (.v (.bool back))] : List A1).map (A1.den E fun _ => (0, 0)) = [.agg (modeV kv (mdOf m).two (mdOf m).r).toArray, .agg st.vals.toArray, v, .bool back] := by
    simp only [List.map, A1.den, AC.den, modeA_den e30, e0, stA, (sT5 hsym).vals]
  rw [hargs] at hst
  refine wp_seq (code_wp hE noK_ok mix p0 (by show 0 ≤ 3; decide) hst fun bl1 a1 w1 g1 h1 => ?_)
  refine wp_seq (code_wpD hE noK_ok mix p1 (Nat.le_refl _) h1 fun bl2 a2 w2 g2 h2 hd => ?_)
  obtain ⟨g, cap, hown, hdis⟩ := hd (10, 0, []) (by simp)
  have hown' : OwnG w w2 g cap (a2.tmps.getD 10 undef) (vals []) := hown
  have hf2 := h2.fr (by
    intro p hp
    simp only [List.mem_cons, List.not_mem_nil, or_false] at hp
    rcases hp with rfl | rfl | rfl | rfl | rfl <;> rfl)
  have hfr : Fr 104 a2 (cV v back (ptrTo (bl2 0).1 (bl2 0).2) (ptrTo (bl2 1).1 (bl2 1).2) (ptrTo (bl2 2).1 (bl2 2).2) ++ [(10, a2.tmps.getD 10 undef)]) := ⟨hf2.defers, hf2.size, fun p hp => by
    simp only [cV, List.cons_append, List.nil_append, List.mem_cons, List.not_mem_nil, or_false] at hp
    rcases hp with rfl | rfl | rfl | rfl | rfl | rfl
    · rw [hf2.get (2, (opV 0).den E bl2) (by simp [denL])]; exact e0
    · rw [hf2.get (3, .bool back) (by simp [denL, AV.den, A1.den, AC.den])]
    · rw [hf2.get (4, (ptV 0).den E bl2) (by simp [denL])]; exact ptV_den (E := E) rfl
    · rw [hf2.get (5, (ptV 1).den E bl2) (by simp [denL])]; exact ptV_den (E := E) rfl
    · rw [hf2.get (9, (ptV 2).den E bl2) (by simp [denL])]; exact ptV_den (E := E) rfl
    · rfl⟩
  have hm2 := h2.mem
  have m0 := hm2.at (i := 0) (b := owB (modeA (mdOf m).two (mdOf m).r)) rfl rfl
  rw [show (owB (modeA (mdOf m).two (mdOf m).r)).cs = modeA (mdOf m).two (mdOf m).r from rfl, modeA_den e30] at m0
  have m1 := hm2.at (i := 1) (b := owB stA) rfl rfl
  rw [show (owB stA).cs = wsA [sT 0, sT 1, sT 2, sT 3, sT 4] from rfl, (sT5 hsym).vals] at m1
  have m2 := hm2.at (i := 2) (b := owB zeroA5) rfl rfl
  have hin : CIn w w2 v l st [] (bl2 0).1 (bl2 0).2 (bl2 1).1 (bl2 1).2 (bl2 2).1 (bl2 2).2 g cap (a2.tmps.getD 10 undef) kv (mdOf m).two (mdOf m).r := by
    have hb := hm2.below (by rfl)
    have hs10 := hm2.sep 1 0 _ _ (by decide) rfl rfl rfl rfl rfl
    have hs20 := hm2.sep 2 0 _ _ (by decide) rfl rfl rfl rfl rfl
    have hs12 := hm2.sep 1 2 _ _ (by decide) rfl rfl rfl rfl rfl
    refine ⟨hb, hs.below hb, fun b hge => ?_, hkv, m0, m1, fun j hj => ?_, m2, fun j hj => ?_, hown', hm2.new 0 _ rfl rfl, hm2.new 1 _ rfl rfl, hm2.new 2 _ rfl rfl, hs10, hs20, hs12, hdis 0 _ rfl rfl, hdis 1 _ rfl rfl, hdis 2 _ rfl rfl⟩
    · cases l with
      | nil => exact NotAt.nil hs b
      | cons x l =>
        obtain ⟨ib, io, c, rfl, _, _, hib⟩ := hs.cons (by simp [vals])
        intro b' o n c e _
        simp only [Value.slice.injEq, Option.some.injEq, Addr.mk.injEq] at e
        omega
    · exact hm2.thaw 1 (owB stA) j rfl rfl rfl hj
    · exact hm2.thaw 2 (owB zeroA5) j rfl rfl rfl hj
  refine wp_seq (wp_block (wp_loop_rounds (l.length + 1) (crypt_rounds (cRounds hmd) (fun k hk => cExits hmd hk) l.length l st v [] (a2.tmps.getD 10 undef) g cap a2 w2 (Nat.le_refl _) (by simp; omega) hfr hin fun l' st' v' done' u' g' cap' a' w' q1 q2 q3 q4 => ?_)))
  have hq : crypt (mdOf m) back st l = (done' ++ xorl (sbytes (mdOf m).two st') l', absorb (mdOf m).two st' (padl (rate (mdOf m).two) (if back then xorl (sbytes (mdOf m).two st') l' else l'))) := by
    rw [crypt_short (md := ⟨(mdOf m).two, (mdOf m).r⟩) q2] at q1
    rw [List.nil_append] at q1
    exact q1.symm
  have hdl : done'.length ≤ 1073741824 := by
    have h1 := congrArg (fun p => p.1.length) hq
    simp only [List.length_append, crypt_length] at h1
    omega
  refine crypt_end hres (cEndsAll hmd q2) q2 hdl q4 q3 fun g'' cap'' u'' w'' hb hown => ⟨g'', cap'', u'', ?_, hb, ?_⟩
  · rw [hq]
  · rw [hq]; exact hown
end Go.Proofs.YtfilandehjmikaaDoor.Asc
