/- A region whose order is drawn, by what holds at each of its operations; one that makes a variable beside calls that only lay blocks. The specification's Begin and Tag as contracts. The specification's Seal as a contract. The specification's Seal as a contract: the call. The specification's Open: its regions. The specification's Open as a contract. No condition. -/
import Derived.Test.YtfilandehjmikaaDoorSxZ
import Derived.Test.YtfilandehjmikaaDoorSpC
import Derived.Test.YtfilandehjmikaaDoorAscJ
import Derived.Test.YtfilandehjmikaaDoorSpH
import Derived.Test.YtfilandehjmikaaDoorAscF
import Derived.Test.YtfilandehjmikaaDoorSame
import Derived.Test.YtfilandehjmikaaDoorAscG
namespace Go.Proofs.YtfilandehjmikaaDoor.Sx
open Go.RowKit

theorem setF {L : Array Bool} {n : Nat} (i j : Nat) (h1 : L.size = n) (h2 : i < n) : (L.setIfInBounds i true).getD j false = if j = i then true else L.getD j false := by
  simp only [Array.getD_eq_getD_getElem?, Array.getElem?_setIfInBounds]
  by_cases hij : i = j
  · subst hij; simp [h1, h2]
  · simp [hij, Ne.symm hij]
theorem region_inv {P : Program} {ops : Array Oper} {Q : Exit → Act → World → Prop} {a : Act} {w : World} {id : Nat} (hmix : P.follows .mixedOrders = true) (Inv : Array Bool → Act → World → Prop)
    (hclo : ((List.range ops.size).all fun j => (deps ops j).all fun d => Nat.blt d j) = true) (hgd : (ops.all fun o => o.guard.isNone) = true)
    (h0 : Inv (Array.replicate ops.size false) a { w with drawn := w.drawn + 1 })
    (hstep : ∀ (L : Array Bool) (a : Act) (w : World) (i : Nat) (o : Oper), L.size = ops.size → i < ops.size → ops[i]? = some o → L.getD i false = false → (∀ d ∈ deps ops i, L.getD d false = true) → (∀ j, j < ops.size → L.getD j false = true → ∀ d ∈ deps ops j, L.getD d false = true) → Inv L a w →
      o.wp P a w (fun a' w' => Inv (L.setIfInBounds i true) a' w') Q)
    (hdone : ∀ (L : Array Bool) (a : Act) (w : World), L.size = ops.size → (∀ i, i < ops.size → L.getD i false = true) → Inv L a w → Q .normal a w) : (Code.region id ops true).wp P Q a w := by
  have getO : ∀ i, i < ops.size → ∃ o, ops[i]? = some o := fun i hi => ⟨_, Array.getElem?_eq_getElem hi⟩
  have getF : ∀ {L : Array Bool} {i : Nat}, L.size = ops.size → i < ops.size → L.getD i true = false → L.getD i false = false := fun {L i} h1 h2 h3 => by
    simp [h1, h2] at h3 ⊢; exact h3
  have noneLeft : ∀ L : Array Bool, L.size = ops.size → Region.ready .any ops L = [] → ∀ i, i < ops.size → L.getD i false = true := by
    intro L hsz hr i
    induction i using Nat.strongRecOn with
    | _ i ih =>
      intro hi
      cases hx : L.getD i false with
      | true => rfl
      | false =>
        obtain ⟨o, ho⟩ := getO i hi
        have hmem : i ∈ Region.ready .any ops L := by
          refine mem_ready.2 ⟨?_, o, ho, fun e he hb => ?_⟩
          · simp [hsz, hi] at hx ⊢; exact hx
          · have hd : e.on ∈ deps ops i := by
              simp only [deps, ho]
              exact List.mem_map.2 ⟨e, List.mem_filter.2 ⟨by simpa using he, hb⟩, rfl⟩
            have h1 := List.all_eq_true.1 hclo i (List.mem_range.2 hi)
            have hlt : e.on < i := by simpa using List.all_eq_true.1 h1 _ hd
            exact ih _ hlt (by omega)
        rw [hr] at hmem
        cases hmem
  have main : ∀ fuel (L : Array Bool) a w, L.size = ops.size → (∀ j, j < ops.size → L.getD j false = true → ∀ d ∈ deps ops j, L.getD d false = true) → Inv L a w → (List.range ops.size).countP (fun i => !L.getD i false) ≤ fuel → wpAny P .any ops Q fuel L a w := by
    intro fuel
    induction fuel with
    | zero =>
      intro L a w hsz hcl hI hc
      have hall : ∀ i, i < ops.size → L.getD i false = true := fun i hi => by
        have := List.countP_eq_zero.1 (Nat.le_zero.1 hc) i (List.mem_range.2 hi)
        simpa using this
      refine ⟨?_, hdone L a w hsz hall hI⟩
      cases hr : Region.ready .any ops L with
      | nil => rfl
      | cons i l =>
        have hmem : i ∈ Region.ready .any ops L := by rw [hr]; simp
        obtain ⟨h1, o, ho, _⟩ := mem_ready.1 hmem
        have hi : i < ops.size := (Array.getElem?_eq_some_iff.1 ho).1
        have := getF hsz hi h1
        rw [hall i hi] at this
        cases this
    | succ fuel ih =>
      intro L a w hsz hcl hI hc
      refine ⟨fun hr => hdone L a w hsz (noneLeft L hsz hr) hI, fun i hmem => ?_⟩
      obtain ⟨hun, o, ho, hdep⟩ := mem_ready.1 hmem
      have hi : i < ops.size := (Array.getElem?_eq_some_iff.1 ho).1
      have hiF := getF hsz hi hun
      have hdeps : ∀ d ∈ deps ops i, L.getD d false = true := fun d hd => by
        simp only [deps, ho] at hd
        obtain ⟨e, he, rfl⟩ := List.mem_map.1 hd
        obtain ⟨he1, he2⟩ := List.mem_filter.1 he
        exact hdep e (by simpa using he1) he2
      have hgo : o.guard = none := by
        have hm : o ∈ ops := Array.mem_of_getElem? ho
        have := (Array.all_eq_true'.1 hgd) o hm
        simpa using this
      have hw := hstep L a w i o hsz hi ho hiF hdeps hcl hI
      show wpOp P ops Q i _ a w
      unfold wpOp
      simp only [ho, Region.wanted, hgo, if_true]
      refine .inl (Oper.wp_mono (fun a' w' hI' => ih _ a' w' (by simp [hsz]) (fun j hj hLj d hd => ?_) hI' ?_) hw)
      · rw [setF i j hsz hi] at hLj
        rw [setF i d hsz hi]
        by_cases hdi : d = i
        · rw [if_pos hdi]
        · rw [if_neg hdi]
          by_cases hji : j = i
          · subst hji; exact hdeps d hd
          · rw [if_neg hji] at hLj; exact hcl j hj hLj d hd
      · have hlt := countP_lt (l := List.range ops.size) (p := fun k => !L.getD k false) (q := fun k => !(L.setIfInBounds i true).getD k false) (fun x _ hx => by
            rw [setF i x hsz hi] at hx
            by_cases hxi : x = i
            · simp [hxi] at hx
            · simpa [hxi] using hx) ⟨i, List.mem_range.2 hi, by rw [hiF]; rfl, by rw [setF i i hsz hi]; simp⟩
        omega
  refine wp_region_any hmix (main ops.size _ a { w with drawn := w.drawn + 1 } (by simp) (fun j hj hL => ?_) h0 ?_)
  · rw [Array.getD_eq_getD_getElem?] at hL; simp [hj] at hL
  · exact Nat.le_trans List.countP_le_length (by simp)
theorem opAt {ops : Array Oper} {i : Nat} {o : Oper} {d : Option Tmp} {op : Op} (hi : ops[i]? = some o) (h : (ops[i]?).map (fun o => (o.dst, o.op)) = some (d, op)) : o.dst = d ∧ o.op = op := by
  rw [hi] at h
  simp only [Option.map_some, Option.some.injEq, Prod.mk.injEq] at h
  exact h
section
variable {P : Program} {o : Oper} {a : Act} {w w' : World} {next : Act → World → Prop} {Q : Exit → Act → World → Prop} {v : Value}
theorem w_move {x : Operand} (ho : o.op = .move x) (hn : next (a.put o.dst (a.eval x)) w) : o.wp P a w next Q := by
  obtain ⟨dst, op, type, pos, after, guard⟩ := o
  simp only at ho
  subst ho
  exact wp_value (by simp only [execOp, Sem.run_pure]) hn
theorem w_assign {x : Operand} (ho : o.op = .assign x) (hn : next (a.put o.dst (a.eval x)) w) : o.wp P a w next Q := by
  obtain ⟨dst, op, type, pos, after, guard⟩ := o
  simp only at ho
  subst ho
  exact wp_value (by simp only [execOp, Sem.run_pure]) hn
theorem w_load {x : Operand} {t : TypeId} (ho : o.op = .load t x) (h : (Instr.loadAt t (a.eval x)).run P w = .ok v w) (hn : next (a.put o.dst v) w) : o.wp P a w next Q := by
  obtain ⟨dst, op, type, pos, after, guard⟩ := o
  simp only at ho
  subst ho
  exact wp_value (by simp only [execOp, Sem.run_bind, h, Result.andThen_ok, Sem.run_pure]) hn
theorem w_slice {x : Operand} {t : TypeId} {lo hi : Option Operand} (ho : o.op = .slice t x lo hi none) (h : (Instr.sliceAt t (a.eval x) (lo.map a.eval) (hi.map a.eval) none).run P w = .ok v w) (hn : next (a.put o.dst v) w) : o.wp P a w next Q := by
  obtain ⟨dst, op, type, pos, after, guard⟩ := o
  simp only at ho
  subst ho
  exact wp_value (by simp only [execOp, Option.map_none, Sem.run_bind, h, Result.andThen_ok, Sem.run_pure]) hn
theorem w_extract {x : Operand} {i : Nat} {vs : Array Value} (ho : o.op = .extract x i) (h : a.eval x = .tuple vs) (hv : vs[i]? = some v) (hn : next (a.put o.dst v) w) : o.wp P a w next Q := by
  obtain ⟨dst, op, type, pos, after, guard⟩ := o
  simp only at ho
  subst ho
  exact wp_value (by simp only [execOp, Instr.extract, h, hv, Sem.run_bind, Sem.run_pure, Result.andThen_ok]) hn
theorem w_alloc {t : TypeId} (ho : o.op = .alloc t) (h : (Instr.alloc t true (.tuple #[])).run P w = .ok v w') (hn : next (a.put o.dst v) w') : o.wp P a w next Q := by
  obtain ⟨dst, op, type, pos, after, guard⟩ := o
  simp only at ho
  subst ho
  exact wp_value (by simp only [execOp, Sem.run_bind, h, Result.andThen_ok, Sem.run_pure]) hn
theorem w_store {t : TypeId} {x y : Operand} (ho : o.op = .store t x y) (h : (Instr.storeAt t (a.eval x) (a.eval y)).run P w = .ok () w') (hn : next (a.put o.dst undef) w') : o.wp P a w next Q := by
  obtain ⟨dst, op, type, pos, after, guard⟩ := o
  simp only at ho
  subst ho
  exact wp_undef (by simp only [execOp, Sem.run_bind, h, Result.andThen_ok, Sem.run_pure]) hn
theorem w_call {f : FuncId} {args : Array Operand} {ts : Array TypeId} {vs : Array Value} (ho : o.op = .call { callee := .value (.func f), args := args, argTypes := ts }) (hent : ∀ (vs : Array Value) (w : World), (callFunc f vs).run P w = .ok (.enter f vs) w) (hargs : args.map a.eval = vs)
    (h : Calls P f vs w fun e w' => ∃ r, e = .returned r ∧ next (a.put o.dst r) w') : o.wp P a w next Q := by
  obtain ⟨dst, op, type, pos, after, guard⟩ := o
  simp only at ho
  subst ho
  have hrun : (execOp a.eval { dst := dst, op := .call { callee := .value (.func f), args := args, argTypes := ts }, type := type, pos := pos, after := after, guard := guard }).run P w = .ok (.enter f vs) w := by
    simp only [execOp, resolve, Act.eval, Deferred.ofValue, Sem.run_bind, Sem.run_pure, Result.andThen_ok, invoke]
    have : (#[] ++ args.map a.eval ++ #[] : Array Value) = vs := by rw [hargs]; simp
    rw [this]
    exact hent _ w
  unfold Oper.wp
  rw [hrun]
  refine h.mono fun e w' ⟨r, he, hn⟩ => ?_
  subst he
  exact hn
end
/-- What holds within such a region: what is in the slots that came up; what a callee made (u, of its block g); the variable's block (rb). -/
structure SIn (W : World) (n nt : Nat) (base : List (Nat × Value)) (D : Nat → Option Nat) (V : Value → Value → Nat → Value) (cI aI sI : Nat) (out z c : List Value) (L : Array Bool) (a : Act) (w : World) (u p : Value) (g cap rb ro : Nat) : Prop where
  defers : a.defers = []
  size : a.tmps.size = nt
  base : ∀ q ∈ base, a.tmps.getD q.1 undef = q.2
  below : Below W.heap.size W w
  vals : ∀ i, i < n → L.getD i false = true → ∀ d, D i = some d → a.tmps.getD d undef = V u p i
  own : L.getD cI false = true → OwnG W w g cap u out
  blk : L.getD aI false = true → p = .pointer (some ⟨rb, ro, none⟩) ∧ W.heap.size ≤ rb ∧ rb < w.heap.size ∧ At w rb ro (if L.getD sI false then c else z) ∧ Thaw w rb ro 5
  apart : L.getD cI false = true → L.getD aI false = true → g ≠ rb
section
variable {W : World} {n nt : Nat} {base : List (Nat × Value)} {D : Nat → Option Nat} {V : Value → Value → Nat → Value} {cI aI sI : Nat} {out z c : List Value} {L : Array Bool} {a : Act} {w : World} {u p : Value} {g cap rb ro : Nat}
/-- The slots' side of a step. -/
theorem SIn.slots (h : SIn W n nt base D V cI aI sI out z c L a w u p g cap rb ro) (hL : L.size = n) {i d : Nat} (hi : i < n) (hd : D i = some d) (hnt : d < nt) (hb : ∀ q ∈ base, q.1 ≠ d) (hj : ∀ j, j < n → j ≠ i → D j ≠ some d) {v u' p' : Value} (hv : v = V u' p' i) (hV : ∀ j, j < n → L.getD j false = true → V u' p' j = V u p j) :
    (a.put (some d) v).defers = [] ∧ (a.put (some d) v).tmps.size = nt ∧ (∀ q ∈ base, (a.put (some d) v).tmps.getD q.1 undef = q.2) ∧ ∀ j, j < n → (L.setIfInBounds i true).getD j false = true → ∀ e, D j = some e → (a.put (some d) v).tmps.getD e undef = V u' p' j := by
  have hlt : d < a.tmps.size := by rw [h.size]; exact hnt
  refine ⟨by rw [put_defers]; exact h.defers, by rw [put_size]; exact h.size, fun q hq => ?_, fun j hjn hLj e he => ?_⟩
  · rw [put_get hlt, if_neg (hb q hq)]
    exact h.base q hq
  · rw [setF i j hL hi] at hLj
    rw [put_get hlt]
    by_cases hji : j = i
    · subst hji
      rw [hd] at he
      cases he
      rw [if_pos rfl, hv]
    · rw [if_neg hji] at hLj
      rw [if_neg (by intro e'; subst e'; exact hj j hjn hji he), h.vals j hjn hLj e he, hV j hjn hLj]
theorem SIn.quiet (h : SIn W n nt base D V cI aI sI out z c L a w u p g cap rb ro) (hL : L.size = n) {i d : Nat} (hi : i < n) (hc : i ≠ cI) (ha : i ≠ aI) (hs : i ≠ sI) (hd : D i = some d) (hnt : d < nt) (hb : ∀ q ∈ base, q.1 ≠ d) (hj : ∀ j, j < n → j ≠ i → D j ≠ some d) {v : Value} (hv : v = V u p i) {w' : World} (hw : Below w.heap.size w w') :
    SIn W n nt base D V cI aI sI out z c (L.setIfInBounds i true) (a.put (some d) v) w' u p g cap rb ro := by
  obtain ⟨h1, h2, h3, h4⟩ := h.slots hL hi hd hnt hb hj hv fun _ _ _ => rfl
  have eC : (L.setIfInBounds i true).getD cI false = L.getD cI false := by rw [setF i cI hL hi, if_neg (Ne.symm hc)]
  have eA : (L.setIfInBounds i true).getD aI false = L.getD aI false := by rw [setF i aI hL hi, if_neg (Ne.symm ha)]
  have eS : (L.setIfInBounds i true).getD sI false = L.getD sI false := by rw [setF i sI hL hi, if_neg (Ne.symm hs)]
  refine ⟨h1, h2, h3, h.below.trans (hw.mono h.below.size), h4, fun hq => (h.own (eC ▸ hq)).below hw, fun hq => ?_, fun hq hq' => h.apart (eC ▸ hq) (eA ▸ hq')⟩
  obtain ⟨q1, q2, q3, q4, q5⟩ := h.blk (eA ▸ hq)
  rw [eS]
  exact ⟨q1, q2, Nat.lt_of_lt_of_le q3 hw.size, q4.below hw, (Chg.of_below (R := []) hw).thaw q3 q5⟩
theorem SIn.callee (h : SIn W n nt base D V cI aI sI out z c L a w u p g cap rb ro) (hL : L.size = n) {d : Nat} (hi : cI < n) (ha : cI ≠ aI) (hs : cI ≠ sI) (hd : D cI = some d) (hnt : d < nt) (hb : ∀ q ∈ base, q.1 ≠ d) (hj : ∀ j, j < n → j ≠ cI → D j ≠ some d) {v u' : Value} {g' cap' : Nat} (hv : v = V u' p cI) (hV : ∀ j, j < n → L.getD j false = true → V u' p j = V u p j)
    {w' : World} (hw : Below w.heap.size w w') (hown : OwnG w w' g' cap' u' out) : SIn W n nt base D V cI aI sI out z c (L.setIfInBounds cI true) (a.put (some d) v) w' u' p g' cap' rb ro := by
  obtain ⟨h1, h2, h3, h4⟩ := h.slots hL hi hd hnt hb hj hv hV
  have eA : (L.setIfInBounds cI true).getD aI false = L.getD aI false := by rw [setF cI aI hL hi, if_neg (Ne.symm ha)]
  have eS : (L.setIfInBounds cI true).getD sI false = L.getD sI false := by rw [setF cI sI hL hi, if_neg (Ne.symm hs)]
  refine ⟨h1, h2, h3, h.below.trans (hw.mono h.below.size), h4, fun _ => hown.mono h.below.size, fun hq => ?_, fun _ hq' => ?_⟩
  · obtain ⟨q1, q2, q3, q4, q5⟩ := h.blk (eA ▸ hq)
    rw [eS]
    exact ⟨q1, q2, Nat.lt_of_lt_of_le q3 hw.size, q4.below hw, (Chg.of_below (R := []) hw).thaw q3 q5⟩
  · obtain ⟨_, _, q3, _⟩ := h.blk (eA ▸ hq')
    have := hown.new
    omega
theorem SIn.made (h : SIn W n nt base D V cI aI sI out z c L a w u p g cap rb ro) (hL : L.size = n) {d : Nat} (hi : aI < n) (ha : aI ≠ cI) (hs : aI ≠ sI) (hsF : L.getD sI false = false) (hd : D aI = some d) (hnt : d < nt) (hb : ∀ q ∈ base, q.1 ≠ d) (hj : ∀ j, j < n → j ≠ aI → D j ≠ some d) {v : Value} {rb' ro' : Nat} (hv : v = V u (.pointer (some ⟨rb', ro', none⟩)) aI) (hV : ∀ j, j < n → L.getD j false = true → V u (.pointer (some ⟨rb', ro', none⟩)) j = V u p j)
    {w' : World} (hw : Below w.heap.size w w') (hn : w.heap.size ≤ rb') (hlt : rb' < w'.heap.size) (hz : At w' rb' ro' z) (ht : Thaw w' rb' ro' 5) : SIn W n nt base D V cI aI sI out z c (L.setIfInBounds aI true) (a.put (some d) v) w' u (.pointer (some ⟨rb', ro', none⟩)) g cap rb' ro' := by
  obtain ⟨h1, h2, h3, h4⟩ := h.slots hL hi hd hnt hb hj hv hV
  have eC : (L.setIfInBounds aI true).getD cI false = L.getD cI false := by rw [setF aI cI hL hi, if_neg (Ne.symm ha)]
  have eS : (L.setIfInBounds aI true).getD sI false = false := by rw [setF aI sI hL hi, if_neg (Ne.symm hs)]; exact hsF
  refine ⟨h1, h2, h3, h.below.trans (hw.mono h.below.size), h4, fun hq => (h.own (eC ▸ hq)).below hw, fun _ => ?_, fun hq _ => ?_⟩
  · rw [eS]
    exact ⟨rfl, Nat.le_trans h.below.size hn, hlt, hz, ht⟩
  · have := (h.own (eC ▸ hq)).lt
    omega
theorem OwnG.chg {w0 w w' : World} {g cap : Nat} {v : Value} {vs : List Value} (h : OwnG w0 w g cap v vs) {R : List (Nat × Nat × Nat)} (hc : Chg w w' R) (hR : ∀ q ∈ R, q.1 ≠ g) : OwnG w0 w' g cap v vs := by
  have hk := hc.keep g h.lt hR
  refine ⟨h.val, h.le, h.max, h.new, Nat.lt_of_lt_of_le h.lt hc.size, hc.at h.cells fun q hq => .inl (hR q hq), fun j hj => ?_⟩
  have := h.room j hj
  simp only [World.cell?, World.frozen?, hk] at this ⊢
  exact this
theorem SIn.kept (h : SIn W n nt base D V cI aI sI out z c L a w u p g cap rb ro) (hL : L.size = n) (hi : sI < n) (ha : sI ≠ aI) (hs : sI ≠ cI) (hd : D sI = none) (hA : L.getD aI false = true) (hC : L.getD cI false = true) {w' : World} (hc : Chg w w' [(rb, ro, 5)]) (hat : At w' rb ro c) :
    SIn W n nt base D V cI aI sI out z c (L.setIfInBounds sI true) (a.put none undef) w' u p g cap rb ro := by
  have eC : (L.setIfInBounds sI true).getD cI false = true := by rw [setF sI cI hL hi, if_neg (Ne.symm hs)]; exact hC
  have eA : (L.setIfInBounds sI true).getD aI false = true := by rw [setF sI aI hL hi, if_neg (Ne.symm ha)]; exact hA
  have eS : (L.setIfInBounds sI true).getD sI false = true := by rw [setF sI sI hL hi, if_pos rfl]
  obtain ⟨q1, q2, q3, q4, q5⟩ := h.blk hA
  have hap := h.apart hC hA
  refine ⟨h.defers, h.size, h.base, (((Chg.of_below h.below).trans hc).mono (R' := []) fun q hq hlt => ?_).below, fun j hj hLj e he => ?_, fun _ => (h.own hC).chg hc fun q hq => ?_, fun _ => ?_, fun _ _ => hap⟩
  · rw [List.mem_singleton] at hq; subst hq
    exact absurd hlt (by show ¬ rb < _; omega)
  · rw [setF sI j hL hi] at hLj
    by_cases hji : j = sI
    · subst hji; rw [hd] at he; cases he
    · rw [if_neg hji] at hLj
      exact h.vals j hj hLj e he
  · rw [List.mem_singleton] at hq; subst hq
    exact Ne.symm hap
  · rw [eS]
    exact ⟨q1, q2, Nat.lt_of_lt_of_le q3 hc.size, hat, hc.thaw q3 q5⟩
end
end Go.Proofs.YtfilandehjmikaaDoor.Sx
namespace Go.Proofs.YtfilandehjmikaaDoor.Asc
open Go.RowKit Go.Proofs.YtfilandehjmikaaDoor.Sx

def modeK (m : Nat) : List AC := [.v (.int .i64 (Int.ofNat (klen m))), .v (.int .i64 (Int.ofNat (rate (mdOf m).two))), .v (.int .i64 (Int.ofNat (mdOf m).r))]
def modeW (m : Nat) : List Value := [.int .i64 (Int.ofNat (klen m)), .int .i64 (Int.ofNat (rate (mdOf m).two)), .int .i64 (Int.ofNat (mdOf m).r)]
theorem modeK_den (E : Env) (bl : Bl) (m : Nat) : (modeK m).map (AC.den E bl) = modeW m := rfl
noncomputable def beginOk (m : Nat) : Bool :=
  endsF [.v (.a (wsA (beginT m)))] [roB (win 0 (klen m)), roB (win 20 16)]
    (runF Tryd.prog {} (KS {}) 100 27 [.a (modeK m), .c (.slc 0 0 0 ⟨0, klen m⟩ ⟨201, klen m⟩), .c (.slc 1 0 0 ⟨0, 16⟩ ⟨202, 16⟩)] [roB (win 0 (klen m)), roB (win 20 16)])
theorem begin_all : ([0, 1, 2].all beginOk) = true := by kernel_rfl
/-- A function that answers with a new slice's part: what it holds. -/
def endsS (cs : List AC) (r : Option (AV × List MB)) : Bool :=
  match r with
  | some (.one (.c x), mF) => (match contOf [] mF x with
    | some (0, cs') => lBeq cs' cs
    | _ => false) && cs.all (AC.wf 0) && mF.all fun b => !b.rw || b.own
  | _ => false
theorem fn_slice {P : Program} {E : Env} {w0 w : World} {G : Cfg} {F : CallF} (hE : CfgOk P E w0 G) (hF : CallOk P E w0 G F) (hmix : P.follows .mixedOrders = true) {fuel : Nat} {f : FuncId} {args : List A1} {m : List MB} {cs : List AC} {bl : Bl}
    (h : endsS cs (runF P G F fuel f args m) = true) (hm : MRel E bl w0 m w) (hG : GOk G.g bl m.length) (hw : args.all (A1.wf m.length) = true) :
    Calls P f (args.map (A1.den E bl)).toArray w fun e w' => ∃ u, e = .returned u ∧ Below w0.heap.size w0 w' ∧ SlV w' u (cs.map (AC.den E fun _ => (0, 0))) := by
  unfold endsS at h
  split at h
  · rename_i x mF hr
    simp only [Bool.and_eq_true] at h
    obtain ⟨⟨h1, h2⟩, h3⟩ := h
    split at h1
    · rename_i cs' hc
      have hcs := lBeq_eq h1
      subst hcs
      refine (runF_sound hE hF hmix hr hm hG fun x hx => List.all_eq_true.1 hw x hx).mono fun e w' ⟨bl', he, ha, hm', _, _⟩ => ⟨_, he, hm'.below h3, ?_⟩
      obtain ⟨_, hs⟩ := contOf_den (w0 := w0) hE.env (so := []) (fun p hp => nomatch hp) hm' hc
      have : rowOf E 0 ++ cs'.map (AC.den E bl') = cs'.map (AC.den E fun _ => (0, 0)) := by
        show [] ++ _ = _
        rw [List.nil_append]
        exact List.map_congr_left fun x hx => AC.den_agree (n := 0) (fun i hi => absurd hi (Nat.not_lt_zero _)) (List.all_eq_true.1 h2 x hx)
      rw [this] at hs
      exact hs
    · cases h1
  · cases h
noncomputable def tagOk (m : Nat) : Bool :=
  endsS (tagA m) (runF Tryd.prog {} (KS {}) 100 28 [.a (modeK m), .a stA, .c (.slc 0 0 0 ⟨0, klen m⟩ ⟨201, klen m⟩)] [roB (win 0 (klen m))])
theorem tag_all : ([0, 1, 2].all tagOk) = true := by kernel_rfl
theorem sbegin_calls {m : Nat} (hm : m ≤ 2) {key nonce : List B8} (hk : key.length = klen m) (hn : nonce.length = 16) {w : World} {kv nv : Value} (hkv : SlV w kv (vals key)) (hs : SlV w nv (vals nonce)) :
    Calls Tryd.prog 27 #[.agg (modeW m).toArray, kv, nv] w fun e w' => e = .returned (.agg (beginS m key nonce).vals.toArray) ∧ Below w.heap.size w w' := by
  have h20 := klen_le m
  obtain ⟨kb, ko, kcap, rfl, hkle, hka, hkb⟩ := hkv.cons (fun e => by have := congrArg List.length e; rw [vals_length, hk, List.length_nil] at this; omega)
  obtain ⟨nb, no, ncap, rfl, hnle, hna, hnb⟩ := hs.cons (fun e => by have := congrArg List.length e; rw [vals_length, hn] at this; cases this)
  rw [vals_length, hk] at hkle
  rw [vals_length, hn] at hnle
  have hE0 := envA_ok (st := ⟨0, 0, 0, 0, 0⟩) (blk := kn key nonce) (rows := rowsN 0 (kcap - klen m) (ncap - 16)) (vl := vl1 (.slice none 0 0) (.slice none 0 0)) (vl1_one rfl rfl) (rowsN_le (by decide)) rowsN_one
  have hsym : SymOk (envA ⟨0, 0, 0, 0, 0⟩ (kn key nonce) (rowsN 0 (kcap - klen m) (ncap - 16)) (vl1 (.slice none 0 0) (.slice none 0 0))) ⟨0, 0, 0, 0, 0⟩ (kn key nonce) := envA_sym
  have hap : ApOk (envA ⟨0, 0, 0, 0, 0⟩ (kn key nonce) (rowsN 0 (kcap - klen m) (ncap - 16)) (vl1 (.slice none 0 0) (.slice none 0 0))) := envA_ap
  have n1 : (envA ⟨0, 0, 0, 0, 0⟩ (kn key nonce) (rowsN 0 (kcap - klen m) (ncap - 16)) (vl1 (.slice none 0 0) (.slice none 0 0))).nm 200 = kcap - klen m := by simp [envA, rowsN, repl]
  have n2 : (envA ⟨0, 0, 0, 0, 0⟩ (kn key nonce) (rowsN 0 (kcap - klen m) (ncap - 16)) (vl1 (.slice none 0 0) (.slice none 0 0))).nm 201 = ncap - 16 := by simp [envA, rowsN, repl]
  generalize envA ⟨0, 0, 0, 0, 0⟩ (kn key nonce) (rowsN 0 (kcap - klen m) (ncap - 16)) (vl1 (.slice none 0 0) (.slice none 0 0)) = E at hE0 hsym hap n1 n2
  have hG : CfgOk Tryd.prog E w {} := cfgOk0 (r := []) hE0 fun p hp => nomatch hp
  have hm0 : MRel E (bl2 (kb, ko) (nb, no)) w [roB (win 0 (klen m)), roB (win 20 16)] w := by
    refine MRel.lits (fun i b hi => ?_) (fun i k bi bk hik hi hk hr => ?_)
    · match i, hi with
      | 0, hi => cases hi; exact ⟨rfl, rfl, rfl, win_wf _ _ _, hkb, by show At w kb ko ((win 0 (klen m)).map _); rw [winK hsym hk]; exact hka, fun h => nomatch h⟩
      | 1, hi => cases hi; exact ⟨rfl, rfl, rfl, win_wf _ _ _, hnb, by show At w nb no ((win 20 16).map _); rw [winN hsym (by omega) hn]; exact hna, fun h => nomatch h⟩
      | i + 2, hi => exact nomatch hi
    · match i, hi with
      | 0, hi => cases hi; cases hr
      | 1, hi => cases hi; cases hr
      | i + 2, hi => exact nomatch hi
  have := fn_calls hG (KS_ok hG hap) mix (List.all_eq_true.1 begin_all m (in3 hm)) hm0 gok0 rfl
  rw [show ([.a (modeK m), .c (.slc 0 0 0 ⟨0, klen m⟩ ⟨201, klen m⟩), .c (.slc 1 0 0 ⟨0, 16⟩ ⟨202, 16⟩)] : List A1).map (A1.den E (bl2 (kb, ko) (nb, no))) = [.agg (modeW m).toArray, .slice (some ⟨kb, ko, none⟩) (vals key).length kcap, .slice (some ⟨nb, no, none⟩) (vals nonce).length ncap] by
    have e1 : (AC.slc 0 0 0 ⟨0, klen m⟩ ⟨201, klen m⟩).den E (bl2 (kb, ko) (nb, no)) = .slice (some ⟨kb, ko, none⟩) (vals key).length kcap :=
      slc_den (E := E) (bl := bl2 (kb, ko) (nb, no)) (b := 0) (ib := kb) (io := ko) rfl (by show E.nm 200 + _ = _; rw [n1]; omega) (by omega) (by rw [vals_length, hk]; rfl)
    have e2 : (AC.slc 1 0 0 ⟨0, 16⟩ ⟨202, 16⟩).den E (bl2 (kb, ko) (nb, no)) = .slice (some ⟨nb, no, none⟩) (vals nonce).length ncap :=
      slc_den (E := E) (bl := bl2 (kb, ko) (nb, no)) (b := 1) (ib := nb) (io := no) rfl (by show E.nm 201 + _ = _; rw [n2]; omega) (by omega) (by rw [vals_length, hn]; rfl)
    simp only [List.map_cons, List.map_nil, A1.den, e1, e2, modeK_den]] at this
  refine this.mono fun e w' ⟨bl', vs, he, hr, _, hm'⟩ => ?_
  obtain ⟨v', q1, q2⟩ := rsOne' hr
  refine ⟨?_, (hm'.chg (R := []) fun i b hi hr => ?_).below⟩
  · rw [he, q1, q2]
    simp only [A1.den, (beginT_den hsym hap (by omega) m).vals]
  · match i, hi with
    | 0, hi => cases hi; cases hr
    | 1, hi => cases hi; cases hr
    | i + 2, hi => exact nomatch hi
theorem stag_calls {m : Nat} (hm : m ≤ 2) {key : List B8} (hk : key.length = klen m) {w : World} {kv : Value} {st : St} (hkv : SlV w kv (vals key)) :
    Calls Tryd.prog 28 #[.agg (modeW m).toArray, .agg st.vals.toArray, kv] w fun e w' => ∃ u, e = .returned u ∧ Below w.heap.size w w' ∧ SlV w' u (vals (tagS m key st)) := by
  have h20 := klen_le m
  obtain ⟨kb, ko, kcap, rfl, hkle, hka, hkb⟩ := hkv.cons (fun e => by have := congrArg List.length e; rw [vals_length, hk, List.length_nil] at this; omega)
  rw [vals_length, hk] at hkle
  have hE0 := envA_ok (st := st) (blk := kn key []) (rows := rowsN 0 (kcap - klen m) 0) (vl := vl1 (.slice none 0 0) (.slice none 0 0)) (vl1_one rfl rfl) (rowsN_le (by decide)) rowsN_one
  have hsym : SymOk (envA st (kn key []) (rowsN 0 (kcap - klen m) 0) (vl1 (.slice none 0 0) (.slice none 0 0))) st (kn key []) := envA_sym
  have hap : ApOk (envA st (kn key []) (rowsN 0 (kcap - klen m) 0) (vl1 (.slice none 0 0) (.slice none 0 0))) := envA_ap
  have n1 : (envA st (kn key []) (rowsN 0 (kcap - klen m) 0) (vl1 (.slice none 0 0) (.slice none 0 0))).nm 200 = kcap - klen m := by simp [envA, rowsN, repl]
  generalize envA st (kn key []) (rowsN 0 (kcap - klen m) 0) (vl1 (.slice none 0 0) (.slice none 0 0)) = E at hE0 hsym hap n1
  have hG : CfgOk Tryd.prog E w {} := cfgOk0 (r := []) hE0 fun p hp => nomatch hp
  have hm0 : MRel E (fun _ => (kb, ko)) w [roB (win 0 (klen m))] w := start1 (win_wf _ _ _) hkb (by rw [winK hsym hk]; exact hka)
  have := fn_slice hG (KS_ok hG hap) mix (List.all_eq_true.1 tag_all m (in3 hm)) hm0 gok0 rfl
  rw [show ([.a (modeK m), .a stA, .c (.slc 0 0 0 ⟨0, klen m⟩ ⟨201, klen m⟩)] : List A1).map (A1.den E fun _ => (kb, ko)) = [.agg (modeW m).toArray, .agg st.vals.toArray, .slice (some ⟨kb, ko, none⟩) (vals key).length kcap] by
    have e1 : (AC.slc 0 0 0 ⟨0, klen m⟩ ⟨201, klen m⟩).den E (fun _ => (kb, ko)) = .slice (some ⟨kb, ko, none⟩) (vals key).length kcap :=
      slc_den (E := E) (bl := fun _ => (kb, ko)) (b := 0) (ib := kb) (io := ko) rfl (by show E.nm 200 + _ = _; rw [n1]; omega) (by omega) (by rw [vals_length, hk]; rfl)
    simp only [List.map_cons, List.map_nil, A1.den, e1, modeK_den, stA, (sT5 hsym).vals]] at this
  rw [tagA_den hsym hap (by omega)] at this
  exact this
end Go.Proofs.YtfilandehjmikaaDoor.Asc
namespace Go.Proofs.YtfilandehjmikaaDoor.Asc
open Go.RowKit Go.Proofs.YtfilandehjmikaaDoor.Sx

noncomputable def rOps (c : Code) : Array Oper := match c with
  | .region _ ops _ => ops
  | _ => #[]
theorem aLd : ∀ m, m ≤ 2 → aLoad Tryd.prog [roB (modeK m)] 26 (.ptr 0 0) = some (.a (modeK m)) := fun m hm => by
  rcases (show m = 0 ∨ m = 1 ∨ m = 2 by omega) with rfl | rfl | rfl <;> kernel_rfl
theorem aAl : aAlloc Tryd.prog [] 48 = some (.ptr 0 0, [owB zeroA5]) := by kernel_rfl
theorem aSt : aStore Tryd.prog [rwB zeroA5] 48 (.ptr 0 0) (.a stA) = some [rwB stA] := by kernel_rfl
def envZ (s : St) : Env := envA s [] (rowsN 0 0 0) (vl1 (.slice none 0 0) (.slice none 0 0))
theorem envZ_ok (s : St) : EnvOk (envZ s) := envA_ok (vl1_one rfl rfl) (rowsN_le (by decide)) rowsN_one
theorem loadMode {m : Nat} (hm : m ≤ 2) {w : World} {mb mo : Nat} (h : At w mb mo (modeW m)) : (Instr.loadAt 26 (ptrTo mb mo)).run Tryd.prog w = .ok (.agg (modeW m).toArray) w := by
  have hm0 : MRel (envZ st0) (fun _ => (mb, mo)) w [roB (modeK m)] w := start1 rfl (at_lt h (by simp [modeW])) h
  exact (aLoad_run (aLd m hm) hm0).1
theorem allocSt (w : World) : ∃ rb ro w', (Instr.alloc 48 true (.tuple #[])).run Tryd.prog w = .ok (.pointer (some ⟨rb, ro, none⟩)) w' ∧ Below w.heap.size w w' ∧ w.heap.size ≤ rb ∧ rb < w'.heap.size ∧ At w' rb ro st0.vals ∧ Thaw w' rb ro 5 := by
  obtain ⟨bl', w', h1, _, h3, _, _⟩ := aAlloc_run Tryd.prog (bl := fun _ => (0, 0)) (envZ_ok st0) aAl (MRel.nil (envZ st0) _ w)
  exact ⟨(bl' 0).1, (bl' 0).2, w', h1, h3.below rfl, h3.new 0 _ rfl rfl, h3.lt 0 _ rfl, h3.at (i := 0) (b := owB zeroA5) rfl rfl, fun j hj => h3.thaw 0 (owB zeroA5) j rfl rfl rfl hj⟩
theorem storeSt {w : World} {rb ro : Nat} {s : St} (hz : At w rb ro st0.vals) (ht : Thaw w rb ro 5) : ∃ w', (Instr.storeAt 48 (.pointer (some ⟨rb, ro, none⟩)) (.agg s.vals.toArray)).run Tryd.prog w = .ok () w' ∧ Chg w w' [(rb, ro, 5)] ∧ At w' rb ro s.vals := by
  have hsym : SymOk (envZ s) s [] := envA_sym
  have hm0 : MRel (envZ s) (fun _ => (rb, ro)) w [rwB zeroA5] w := startW rfl (at_lt hz (by simp [St.vals])) hz ht
  obtain ⟨w', h1, h2, _⟩ := aStore_run (envZ_ok s) aSt hm0
  obtain ⟨h3, h4⟩ := endW h2 rfl
  rw [show stA = wsA [sT 0, sT 1, sT 2, sT 3, sT 4] from rfl, (sT5 hsym).vals] at h4
  refine ⟨w', ?_, h3, h4⟩
  rw [← h1]
  simp only [A1.den, stA, (sT5 hsym).vals]
  rfl
noncomputable def s17 : Code := bodyOf 17
noncomputable def zR0 : Code := pA s17
noncomputable def sOps : Array Oper := rOps (pA (pB s17))
noncomputable def sRest : Code := pB (pB s17)
theorem s17_eq : s17 = .seq zR0 (.seq (.region 1 sOps true) sRest) := by kernel_rfl
abbrev opOf (ops : Array Oper) (i : Nat) : Option (Option Tmp × Op) := (ops[i]?).map fun o => (o.dst, o.op)
theorem sOp0 : opOf sOps 0 = some (some 14, .load 26 (.tmp 5)) := by kernel_rfl
theorem sOp1 : opOf sOps 1 = some (some 15, .load 26 (.tmp 5)) := by kernel_rfl
theorem sOp2 : opOf sOps 2 = some (some 16, .load 26 (.tmp 5)) := by kernel_rfl
theorem sOp3 : opOf sOps 3 = some (some 17, .move (.tmp 1)) := by kernel_rfl
theorem sOp4 : opOf sOps 4 = some (some 18, .move (.tmp 2)) := by kernel_rfl
theorem sOp5 : opOf sOps 5 = some (some 19, .call { callee := .value (.func 27), args := #[.tmp 16, .tmp 17, .tmp 18], argTypes := #[26, 22, 22] }) := by kernel_rfl
theorem sOp6 : opOf sOps 6 = some (some 20, .move (.tmp 4)) := by kernel_rfl
theorem sOp7 : opOf sOps 7 = some (some 21, .call { callee := .value (.func 26), args := #[.tmp 15, .tmp 19, .tmp 20], argTypes := #[26, 48, 22] }) := by kernel_rfl
theorem sOp8 : opOf sOps 8 = some (some 22, .move (.tmp 3)) := by kernel_rfl
theorem sOp9 : opOf sOps 9 = some (some 23, .call { callee := .value (.func 25), args := #[.tmp 14, .tmp 21, .tmp 22, .const (.bool false)], argTypes := #[26, 48, 22, 4] }) := by kernel_rfl
theorem sOp10 : opOf sOps 10 = some (some 13, .move (.tmp 23)) := by kernel_rfl
theorem sOp11 : opOf sOps 11 = some (some 24, .extract (.tmp 13) 0) := by kernel_rfl
theorem sOp12 : opOf sOps 12 = some (some 25, .extract (.tmp 13) 1) := by kernel_rfl
theorem sOp13 : opOf sOps 13 = some (some 12, .alloc 48) := by kernel_rfl
theorem sOp14 : opOf sOps 14 = some (some 11, .assign (.tmp 24)) := by kernel_rfl
theorem sOp15 : opOf sOps 15 = some (none, .store 48 (.tmp 12) (.tmp 25)) := by kernel_rfl
theorem sSize : sOps.size = 16 := by kernel_rfl
theorem sClo : ((List.range sOps.size).all fun j => (deps sOps j).all fun d => Nat.blt d j) = true := by kernel_rfl
theorem sGd : (sOps.all fun o => o.guard.isNone) = true := by kernel_rfl
noncomputable def has (ops : Array Oper) (i : Nat) (l : List Nat) : Bool := l.all fun d => (deps ops i).any (Nat.beq d)
theorem has_mem {ops : Array Oper} {i : Nat} {l : List Nat} (h : has ops i l = true) {d : Nat} (hd : d ∈ l) : d ∈ deps ops i := by
  obtain ⟨x, hx, he⟩ := List.any_eq_true.1 (List.all_eq_true.1 h d hd)
  rw [Nat.eq_of_beq_eq_true he]; exact hx
theorem sHas5 : has sOps 5 [2, 3, 4] = true := by kernel_rfl
theorem sHas7 : has sOps 7 [1, 5, 6] = true := by kernel_rfl
theorem sHas9 : has sOps 9 [0, 7, 8] = true := by kernel_rfl
theorem sHas10 : has sOps 10 [9] = true := by kernel_rfl
theorem sHas11 : has sOps 11 [10] = true := by kernel_rfl
theorem sHas12 : has sOps 12 [10] = true := by kernel_rfl
theorem sHas14 : has sOps 14 [9, 11] = true := by kernel_rfl
theorem sHas15 : has sOps 15 [9, 12, 13] = true := by kernel_rfl
def sD : Nat → Option Nat := fun i => match i with
  | 0 => some 14
  | 1 => some 15
  | 2 => some 16
  | 3 => some 17
  | 4 => some 18
  | 5 => some 19
  | 6 => some 20
  | 7 => some 21
  | 8 => some 22
  | 9 => some 23
  | 10 => some 13
  | 11 => some 24
  | 12 => some 25
  | 13 => some 12
  | 14 => some 11
  | _ => none
theorem sD_all : ∀ i, i < 16 → ∀ j, j < 16 → (j = i ∨ sD j ≠ sD i ∨ sD i = none) := by decide
theorem sD_ne (i : Nat) (hi : i < 16) (j : Nat) (hj : j < 16) (hne : j ≠ i) (d : Nat) (hd : sD i = some d) : sD j ≠ some d := by
  rcases sD_all i hi j hj with h | h | h
  · exact absurd h hne
  · rw [← hd]; exact h
  · rw [hd] at h; cases h
theorem map3 (f : Operand → Value) (x y z : Operand) : #[x, y, z].map f = #[f x, f y, f z] := by simp
theorem map4 (f : Operand → Value) (x y z t : Operand) : #[x, y, z, t].map f = #[f x, f y, f z, f t] := by simp
def sV (md kv nv tv dv bg dt ct : Value) : Value → Value → Nat → Value := fun u p i => match i with
  | 0 => md
  | 1 => md
  | 2 => md
  | 3 => kv
  | 4 => nv
  | 5 => bg
  | 6 => dv
  | 7 => dt
  | 8 => tv
  | 9 => .tuple #[u, ct]
  | 10 => .tuple #[u, ct]
  | 11 => u
  | 12 => ct
  | 13 => p
  | 14 => u
  | _ => undef
def sBase (kv nv tv dv mp : Value) : List (Nat × Value) := [(1, kv), (2, nv), (3, tv), (4, dv), (5, mp)]
theorem sBase_ne {kv nv tv dv mp : Value} {d : Nat} (hd : 6 ≤ d) : ∀ q ∈ sBase kv nv tv dv mp, q.1 ≠ d := fun q hq => by
  simp only [sBase, List.mem_cons, List.not_mem_nil, or_false] at hq
  rcases hq with rfl | rfl | rfl | rfl | rfl <;> show _ ≠ d <;> simp only <;> omega
set_option maxHeartbeats 2000000 in
theorem seal_region {m : Nat} (hm : m ≤ 2) {key nonce text data : List B8} (hk : key.length = klen m) (hn : nonce.length = 16) (htl : text.length ≤ 1048576) (hdl : data.length ≤ 1048576) {W : World} {kv nv tv dv : Value} {mb mo : Nat} {a : Act}
    (hkv : SlV W kv (vals key)) (hnv : SlV W nv (vals nonce)) (htv : SlV W tv (vals text)) (hdv : SlV W dv (vals data)) (hmd : At W mb mo (modeW m)) (hf : Fr 32 a (sBase kv nv tv dv (ptrTo mb mo))) {Q : Exit → Act → World → Prop}
    (hq : ∀ a' w' u g cap rb ro, Fr 32 a' (sBase kv nv tv dv (ptrTo mb mo) ++ [(11, u), (12, ptrTo rb ro)]) → Below W.heap.size W w' → OwnG W w' g cap u (vals (crypt (mdOf m) false (dataSt (mdOf m) (beginS m key nonce) data) text).1) → W.heap.size ≤ rb → g ≠ rb →
      At w' rb ro (crypt (mdOf m) false (dataSt (mdOf m) (beginS m key nonce) data) text).2.vals → Q .normal a' w') : (Code.region 1 sOps true).wp Tryd.prog Q a W := by
  generalize hbg : beginS m key nonce = sb at hq
  generalize hdt : dataSt (mdOf m) sb data = sd at hq
  generalize hct : (crypt (mdOf m) false sd text).2 = sc at hq
  generalize hou : (crypt (mdOf m) false sd text).1 = ou at hq
  let V := sV (.agg (modeW m).toArray) kv nv tv dv (.agg sb.vals.toArray) (.agg sd.vals.toArray) (.agg sc.vals.toArray)
  let I : Array Bool → Act → World → Value → Value → Nat → Nat → Nat → Nat → Prop := SIn W 16 32 (sBase kv nv tv dv (ptrTo mb mo)) sD V 9 13 15 (vals ou) st0.vals sc.vals
  refine region_inv mix (fun L a w => ∃ u p g cap rb ro, I L a w u p g cap rb ro) sClo sGd ?_ (fun L a w i o hL hi ho hLi hdep hcl hI => ?_) (fun L a w hL hall hI => ?_)
  · refine ⟨undef, undef, 0, 0, 0, 0, hf.defers, hf.size, hf.get, ⟨rfl, rfl, rfl, Nat.le_refl _, fun _ _ => rfl⟩, fun i hi h => ?_, fun h => ?_, fun h => ?_, fun h => ?_⟩
    · rw [sSize, Array.getD_eq_getD_getElem?] at h; simp [hi] at h
    · rw [sSize, Array.getD_eq_getD_getElem?] at h; simp at h
    · rw [sSize, Array.getD_eq_getD_getElem?] at h; simp at h
    · rw [sSize, Array.getD_eq_getD_getElem?] at h; simp at h
  · obtain ⟨u, p, g, cap, rb, ro, hI⟩ := hI
    rw [sSize] at hL hi hcl
    have slot : ∀ {j d : Nat} {l : List Nat}, has sOps i l = true → j ∈ l → j < 16 → sD j = some d → a.tmps.getD d undef = V u p j := fun {j d l} h1 h2 h3 h4 => hI.vals j h3 (hdep j (has_mem h1 h2)) d h4
    have quiet : ∀ (d : Nat) (v : Value) (w' : World), i ≠ 9 → i ≠ 13 → i ≠ 15 → sD i = some d → 6 ≤ d → d < 32 → v = V u p i → Below w.heap.size w w' → ∃ u p g cap rb ro, I (L.setIfInBounds i true) (a.put (some d) v) w' u p g cap rb ro := fun d v w' h1 h2 h3 h4 h5 h6 h7 h8 =>
      ⟨u, p, g, cap, rb, ro, hI.quiet hL hi h1 h2 h3 h4 h6 (sBase_ne h5) (fun j hj hne => sD_ne i hi j hj hne d h4) h7 h8⟩
    have hb1 : ∀ {q : Nat × Value}, q ∈ sBase kv nv tv dv (ptrTo mb mo) → a.tmps.getD q.1 undef = q.2 := fun {q} hq => hI.base q hq
    have hmw : At w mb mo (modeW m) := hmd.below hI.below
    rcases (show i = 0 ∨ i = 1 ∨ i = 2 ∨ i = 3 ∨ i = 4 ∨ i = 5 ∨ i = 6 ∨ i = 7 ∨ i = 8 ∨ i = 9 ∨ i = 10 ∨ i = 11 ∨ i = 12 ∨ i = 13 ∨ i = 14 ∨ i = 15 by omega) with rfl | rfl | rfl | rfl | rfl | rfl | rfl | rfl | rfl | rfl | rfl | rfl | rfl | rfl | rfl | rfl
    · obtain ⟨e1, e2⟩ := opAt ho sOp0
      refine w_load e2 (v := .agg (modeW m).toArray) ?_ (e1 ▸ quiet 14 _ w (by decide) (by decide) (by decide) rfl (by decide) (by decide) rfl (Below.refl _ _))
      rw [show a.eval (.tmp 5) = ptrTo mb mo from hb1 (q := (5, ptrTo mb mo)) (by simp [sBase])]
      exact loadMode hm hmw
    · obtain ⟨e1, e2⟩ := opAt ho sOp1
      refine w_load e2 (v := .agg (modeW m).toArray) ?_ (e1 ▸ quiet 15 _ w (by decide) (by decide) (by decide) rfl (by decide) (by decide) rfl (Below.refl _ _))
      rw [show a.eval (.tmp 5) = ptrTo mb mo from hb1 (q := (5, ptrTo mb mo)) (by simp [sBase])]
      exact loadMode hm hmw
    · obtain ⟨e1, e2⟩ := opAt ho sOp2
      refine w_load e2 (v := .agg (modeW m).toArray) ?_ (e1 ▸ quiet 16 _ w (by decide) (by decide) (by decide) rfl (by decide) (by decide) rfl (Below.refl _ _))
      rw [show a.eval (.tmp 5) = ptrTo mb mo from hb1 (q := (5, ptrTo mb mo)) (by simp [sBase])]
      exact loadMode hm hmw
    · obtain ⟨e1, e2⟩ := opAt ho sOp3
      exact w_move e2 (e1 ▸ quiet 17 _ w (by decide) (by decide) (by decide) rfl (by decide) (by decide) (hb1 (q := (1, kv)) (by simp [sBase])) (Below.refl _ _))
    · obtain ⟨e1, e2⟩ := opAt ho sOp4
      exact w_move e2 (e1 ▸ quiet 18 _ w (by decide) (by decide) (by decide) rfl (by decide) (by decide) (hb1 (q := (2, nv)) (by simp [sBase])) (Below.refl _ _))
    · obtain ⟨e1, e2⟩ := opAt ho sOp5
      have s1 : a.tmps.getD 16 undef = .agg (modeW m).toArray := slot sHas5 (j := 2) (by simp) (by decide) rfl
      have s2 : a.tmps.getD 17 undef = kv := slot sHas5 (j := 3) (by simp) (by decide) rfl
      have s3 : a.tmps.getD 18 undef = nv := slot sHas5 (j := 4) (by simp) (by decide) rfl
      refine w_call e2 (vs := #[.agg (modeW m).toArray, kv, nv]) (fun _ _ => by kernel_rfl) ((map3 _ _ _ _).trans (by show #[a.tmps.getD 16 undef, a.tmps.getD 17 undef, a.tmps.getD 18 undef] = _; rw [s1, s2, s3])) ?_
      refine (sbegin_calls hm hk hn (hkv.below hI.below) (hnv.below hI.below)).mono fun e w' ⟨he, hb⟩ => ⟨_, he, e1 ▸ quiet 19 _ w' (by decide) (by decide) (by decide) rfl (by decide) (by decide) (by rw [hbg]; rfl) hb⟩
    · obtain ⟨e1, e2⟩ := opAt ho sOp6
      exact w_move e2 (e1 ▸ quiet 20 _ w (by decide) (by decide) (by decide) rfl (by decide) (by decide) (hb1 (q := (4, dv)) (by simp [sBase])) (Below.refl _ _))
    · obtain ⟨e1, e2⟩ := opAt ho sOp7
      have s1 : a.tmps.getD 15 undef = .agg (modeW m).toArray := slot sHas7 (j := 1) (by simp) (by decide) rfl
      have s2 : a.tmps.getD 19 undef = .agg sb.vals.toArray := slot sHas7 (j := 5) (by simp) (by decide) rfl
      have s3 : a.tmps.getD 20 undef = dv := slot sHas7 (j := 6) (by simp) (by decide) rfl
      refine w_call e2 (vs := #[.agg (modeW m).toArray, .agg sb.vals.toArray, dv]) (fun _ _ => by kernel_rfl) ((map3 _ _ _ _).trans (by show #[a.tmps.getD 15 undef, a.tmps.getD 19 undef, a.tmps.getD 20 undef] = _; rw [s1, s2, s3])) ?_
      have hc := sdata_calls (m := m) (st := sb) hdl (w := w) (kv := .int .i64 (Int.ofNat (klen m))) rfl (hdv.below hI.below)
      rw [hdt] at hc
      exact Calls.mono hc fun e w' ⟨he, hb⟩ => ⟨_, he, e1 ▸ quiet 21 _ w' (by decide) (by decide) (by decide) rfl (by decide) (by decide) rfl hb⟩
    · obtain ⟨e1, e2⟩ := opAt ho sOp8
      exact w_move e2 (e1 ▸ quiet 22 _ w (by decide) (by decide) (by decide) rfl (by decide) (by decide) (hb1 (q := (3, tv)) (by simp [sBase])) (Below.refl _ _))
    · obtain ⟨e1, e2⟩ := opAt ho sOp9
      have s1 : a.tmps.getD 14 undef = .agg (modeW m).toArray := slot sHas9 (j := 0) (by simp) (by decide) rfl
      have s2 : a.tmps.getD 21 undef = .agg sd.vals.toArray := slot sHas9 (j := 7) (by simp) (by decide) rfl
      have s3 : a.tmps.getD 22 undef = tv := slot sHas9 (j := 8) (by simp) (by decide) rfl
      refine w_call e2 (vs := #[.agg (modeW m).toArray, .agg sd.vals.toArray, tv, .bool false]) (fun _ _ => by kernel_rfl) ((map4 _ _ _ _ _).trans (by show #[a.tmps.getD 14 undef, a.tmps.getD 21 undef, a.tmps.getD 22 undef, Value.bool false] = _; rw [s1, s2, s3])) ?_
      have hc := scrypt_calls (m := m) false (st := sd) htl (w := w) (kv := .int .i64 (Int.ofNat (klen m))) rfl (htv.below hI.below)
      rw [hct, hou] at hc
      refine Calls.mono hc fun e w' ⟨g', cap', u', he, hb, hown⟩ => ⟨_, he, e1 ▸ ⟨u', p, g', cap', rb, ro, hI.callee hL (by decide) (by decide) (by decide) rfl (by decide) (sBase_ne (by decide)) (fun j hj hne => sD_ne 9 (by decide) j hj hne 23 rfl) rfl (fun j hj hLj => ?_) hb hown⟩⟩
      have n9 : ¬ L.getD 9 false = true := by rw [hLi]; decide
      have n10 : ¬ L.getD 10 false = true := fun h => n9 (hcl 10 (by decide) h 9 (has_mem sHas10 (by simp)))
      have n11 : ¬ L.getD 11 false = true := fun h => n10 (hcl 11 (by decide) h 10 (has_mem sHas11 (by simp)))
      have n14 : ¬ L.getD 14 false = true := fun h => n9 (hcl 14 (by decide) h 9 (has_mem sHas14 (by simp)))
      rcases (show j = 0 ∨ j = 1 ∨ j = 2 ∨ j = 3 ∨ j = 4 ∨ j = 5 ∨ j = 6 ∨ j = 7 ∨ j = 8 ∨ j = 9 ∨ j = 10 ∨ j = 11 ∨ j = 12 ∨ j = 13 ∨ j = 14 ∨ j = 15 by omega) with rfl | rfl | rfl | rfl | rfl | rfl | rfl | rfl | rfl | rfl | rfl | rfl | rfl | rfl | rfl | rfl <;> first | rfl | exact absurd hLj n9 | exact absurd hLj n10 | exact absurd hLj n11 | exact absurd hLj n14
    · obtain ⟨e1, e2⟩ := opAt ho sOp10
      exact w_move e2 (e1 ▸ quiet 13 _ w (by decide) (by decide) (by decide) rfl (by decide) (by decide) (slot sHas10 (j := 9) (by simp) (by decide) rfl) (Below.refl _ _))
    · obtain ⟨e1, e2⟩ := opAt ho sOp11
      exact w_extract e2 (vs := #[u, .agg sc.vals.toArray]) (slot sHas11 (j := 10) (by simp) (by decide) rfl) rfl (e1 ▸ quiet 24 u w (by decide) (by decide) (by decide) rfl (by decide) (by decide) rfl (Below.refl _ _))
    · obtain ⟨e1, e2⟩ := opAt ho sOp12
      exact w_extract e2 (vs := #[u, .agg sc.vals.toArray]) (slot sHas12 (j := 10) (by simp) (by decide) rfl) rfl (e1 ▸ quiet 25 (.agg sc.vals.toArray) w (by decide) (by decide) (by decide) rfl (by decide) (by decide) rfl (Below.refl _ _))
    · obtain ⟨e1, e2⟩ := opAt ho sOp13
      obtain ⟨rb', ro', w', h1, h2, h3, h4, h5, h6⟩ := allocSt w
      have n13 : ¬ L.getD 13 false = true := by rw [hLi]; decide
      have n15 : L.getD 15 false = false := by
        cases h : L.getD 15 false with
        | false => rfl
        | true => exact absurd (hcl 15 (by decide) h 13 (has_mem sHas15 (by simp))) n13
      refine w_alloc e2 h1 (e1 ▸ ⟨u, _, g, cap, rb', ro', hI.made hL (by decide) (by decide) (by decide) n15 rfl (by decide) (sBase_ne (by decide)) (fun j hj hne => sD_ne 13 (by decide) j hj hne 12 rfl) rfl (fun j hj hLj => ?_) h2 h3 h4 h5 h6⟩)
      rcases (show j = 0 ∨ j = 1 ∨ j = 2 ∨ j = 3 ∨ j = 4 ∨ j = 5 ∨ j = 6 ∨ j = 7 ∨ j = 8 ∨ j = 9 ∨ j = 10 ∨ j = 11 ∨ j = 12 ∨ j = 13 ∨ j = 14 ∨ j = 15 by omega) with rfl | rfl | rfl | rfl | rfl | rfl | rfl | rfl | rfl | rfl | rfl | rfl | rfl | rfl | rfl | rfl <;> first | rfl | exact absurd hLj n13
    · obtain ⟨e1, e2⟩ := opAt ho sOp14
      exact w_assign e2 (e1 ▸ quiet 11 _ w (by decide) (by decide) (by decide) rfl (by decide) (by decide) (slot sHas14 (j := 11) (by simp) (by decide) rfl) (Below.refl _ _))
    · obtain ⟨e1, e2⟩ := opAt ho sOp15
      have l13 := hdep 13 (has_mem sHas15 (by simp))
      have l9 := hdep 9 (has_mem sHas15 (by simp))
      obtain ⟨q1, q2, q3, q4, q5⟩ := hI.blk l13
      rw [hLi] at q4
      have s1 : a.eval (.tmp 12) = .pointer (some ⟨rb, ro, none⟩) := (slot sHas15 (j := 13) (by simp) (by decide) rfl).trans q1
      have s2 : a.eval (.tmp 25) = .agg sc.vals.toArray := slot sHas15 (j := 12) (by simp) (by decide) rfl
      obtain ⟨w', h1, h2, h3⟩ := storeSt (s := sc) q4 q5
      refine w_store e2 (w' := w') (by rw [s1, s2]; exact h1) ?_
      rw [e1]
      exact ⟨u, p, g, cap, rb, ro, hI.kept hL (by decide) (by decide) (by decide) rfl l13 l9 h2 h3⟩
  · obtain ⟨u, p, g, cap, rb, ro, hI⟩ := hI
    rw [sSize] at hL hall
    obtain ⟨q1, q2, q3, q4, q5⟩ := hI.blk (hall 13 (by decide))
    rw [hall 15 (by decide)] at q4
    refine hq a w u g cap rb ro ⟨hI.defers, hI.size, fun q hq => ?_⟩ hI.below (hI.own (hall 9 (by decide))) q2 (hI.apart (hall 9 (by decide)) (hall 13 (by decide))) q4
    rcases List.mem_append.1 hq with hq | hq
    · exact hI.base q hq
    · simp only [List.mem_cons, List.not_mem_nil, or_false] at hq
      rcases hq with rfl | rfl
      · exact hI.vals 14 (by decide) (hall 14 (by decide)) 11 rfl
      · exact (hI.vals 13 (by decide) (hall 13 (by decide)) 12 rfl).trans q1
end Go.Proofs.YtfilandehjmikaaDoor.Asc
namespace Go.Proofs.YtfilandehjmikaaDoor.Asc
open Go.RowKit Go.Proofs.YtfilandehjmikaaDoor.Sx

def fsT : List FuncId := [28, 37]
noncomputable def KT (G : Cfg) : CallF := callN Tryd.prog G specK fsT 100 3
theorem entsT : ∀ f ∈ fsT, Enters Tryd.prog f := fun f hf => by
  simp only [fsT, List.mem_cons, List.not_mem_nil, or_false] at hf
  rcases hf with rfl | rfl <;> exact fun _ _ => by kernel_rfl
theorem KT_ok {E : Env} {w0 : World} {G : Cfg} (hE : CfgOk Tryd.prog E w0 G) (hap : ApOk E) : CallOk Tryd.prog E w0 G (KT G) := callN_sound hE (specK_ok hE.env hap) mix entsT 3
noncomputable def sealStart (m : Nat) : Bool :=
  endsAt .nrm [(1, opV 0), (2, opV 1), (3, opV 2), (4, opV 3), (5, ptV 0)] [owB (modeK m)]
    (aCode Tryd.prog {} noK 32 100 zR0 (mkTr [(0, .one (.a (modeK m))), (1, opV 0), (2, opV 1), (3, opV 2), (4, opV 3)]) [])
def endL (m : Nat) : List (Nat × AV) := [(1, .one (.c (.slc 0 0 0 ⟨0, klen m⟩ ⟨201, klen m⟩))), (5, ptV 1), (11, cIn), (12, ptV 2)]
noncomputable def sealEnd (m : Nat) : Bool :=
  endsR Tryd.prog [.tmp 10] [.d 1 (tagA m)] [roB (win 0 (klen m)), roB (modeK m), roB stA, deadMB, capMB]
    (aCode Tryd.prog {} (KT {}) 32 100 sRest (mkTr (endL m)) [roB (win 0 (klen m)), roB (modeK m), roB stA, newMB 1 [], capMB])
theorem sealStart_all : ([0, 1, 2].all sealStart) = true := by kernel_rfl
theorem sealEnd_all : ([0, 1, 2].all sealEnd) = true := by kernel_rfl
def vlK (a b c d : Value) : Nat → Value := fun i => match i with
  | 0 => a
  | 1 => b
  | 2 => c
  | 3 => d
  | _ => .bool true
theorem vlK_one {a b c d : Value} (h1 : a.oneCell' = true) (h2 : b.oneCell' = true) (h3 : c.oneCell' = true) (h4 : d.oneCell' = true) (i : Nat) : (vlK a b c d i).oneCell' = true := by
  unfold vlK
  split <;> first | assumption | rfl
theorem startT {E : Env} {W w : World} {m kb ko mb mo rb ro g cap : Nat} {u : Value} {blk key done : List B8} {st : St} (hm : 0 < klen m) (hb : Below W.heap.size W w) (hrow : E.row 0 = vals done) (hsym : SymOk E st blk) (hk : key.length = klen m) (hka : At w kb ko (vals key)) (hkn : kb < W.heap.size)
    (hkw : ∀ bl : Bl, (win 0 (klen m)).map (AC.den E bl) = vals key) (hmd : At w mb mo (modeW m)) (hmn : mb < W.heap.size) (hst : At w rb ro st.vals) (hgr : g ≠ rb) (hown : OwnG W w g cap u (vals done)) :
    MRel E (blC (kb, ko) (mb, mo) (rb, ro) g done.length cap (0, 0)) W [roB (win 0 (klen m)), roB (modeK m), roB stA, newMB 1 [], capMB] w := by
  have hlo : (rowOf E 1).length = done.length := by show (E.row 0).length = _; rw [hrow, vals_length]
  have hg0 : W.heap.size ≤ g := hown.new
  have e5 : ∀ i, i < 5 → i = 0 ∨ i = 1 ∨ i = 2 ∨ i = 3 ∨ i = 4 := by omega
  refine MRel.start' hb (fun i b hi => ?_) (fun i k bi bk hik hi hk' hr hl hl' => ?_)
  · rcases e5 i (List.getElem?_eq_some_iff.1 hi).1 with rfl | rfl | rfl | rfl | rfl
    · cases hi
      exact ⟨at_lt hka (by intro e; have := congrArg List.length e; rw [vals_length, hk, List.length_nil] at this; omega), (fun h => nomatch h), fun _ => ⟨win_wf _ _ _, Nat.zero_le _, by show At w kb ko ((win 0 (klen m)).map _); rw [hkw]; exact hka, (fun h => nomatch h), (fun h => nomatch h)⟩⟩
    · cases hi
      exact ⟨at_lt hmd (by simp [modeW]), (fun h => nomatch h), fun _ => ⟨rfl, Nat.zero_le _, hmd, (fun h => nomatch h), (fun h => nomatch h)⟩⟩
    · cases hi
      exact ⟨at_lt hst (by simp [St.vals]), (fun h => nomatch h), fun _ => ⟨rfl, Nat.zero_le _, by show At w rb ro ((wsA _).map _); rw [(sT5 hsym).vals]; exact hst, (fun h => nomatch h), (fun h => nomatch h)⟩⟩
    · cases hi
      refine ⟨hown.lt, fun _ => hg0, fun _ => ⟨rfl, by show (rowOf E 1).length ≤ done.length; omega, ?_, fun _ j hj => absurd hj (Nat.not_lt_zero _), fun _ => ⟨by show 4 < 5; decide, by show done.length = (rowOf E 1).length; omega, ?_, hown.max, hown.room, fun k bk hk hbk hlk => ?_⟩⟩⟩
      · show At w g (done.length - (rowOf E 1).length) (E.row 0 ++ [])
        rw [hlo, Nat.sub_self, hrow, List.append_nil]
        exact hown.cells
      · show (rowOf E 1).length + 0 ≤ cap
        have := hown.le
        rw [vals_length] at this
        omega
      · rcases e5 k (List.getElem?_eq_some_iff.1 hbk).1 with rfl | rfl | rfl | rfl | rfl
        · show kb ≠ g; omega
        · show mb ≠ g; omega
        · exact Ne.symm hgr
        · exact absurd rfl hk
        · cases hbk; cases hlk
    · cases hi
      exact ⟨hown.lt, fun _ => hg0, fun h => nomatch h⟩
  · rcases e5 i (List.getElem?_eq_some_iff.1 hi).1 with rfl | rfl | rfl | rfl | rfl
    · cases hi; cases hr
    · cases hi; cases hr
    · cases hi; cases hr
    · cases hi
      refine .inl ?_
      rcases e5 k (List.getElem?_eq_some_iff.1 hk').1 with rfl | rfl | rfl | rfl | rfl
      · show g ≠ kb; omega
      · show g ≠ mb; omega
      · exact hgr
      · exact absurd rfl hik
      · cases hk'; cases hl'
    · cases hi; cases hl
set_option maxHeartbeats 1000000 in
theorem sseal_calls {m : Nat} (hm : m ≤ 2) {key nonce text data : List B8} (hk : key.length = klen m) (hn : nonce.length = 16) (htl : text.length ≤ 1048576) (hdl : data.length ≤ 1048576) {w : World} {kv nv tv dv : Value}
    (hkv : SlV w kv (vals key)) (hnv : SlV w nv (vals nonce)) (htv : SlV w tv (vals text)) (hdv : SlV w dv (vals data)) :
    Calls Tryd.prog 17 #[.agg (modeW m).toArray, kv, nv, tv, dv] w fun e w' => ∃ u, e = .returned u ∧ Below w.heap.size w w' ∧ SlV w' u (vals (sealB m key nonce text data)) := by
  have h20 := klen_le m
  obtain ⟨fn, hfn, hbody, hnt, hres⟩ : ∃ fn, Tryd.prog.funcs[17]? = some fn ∧ fn.body = some s17 ∧ fn.ntmps = 32 ∧ fn.results.toList = [.tmp 10] := ⟨_, rfl, rfl, rfl, rfl⟩
  refine calls_of_wp hfn hbody ?_
  rw [hnt, s17_eq]
  obtain ⟨kb, ko, kcap, hkvv, hkle, hka, hkb⟩ := hkv.cons (fun e => by have := congrArg List.length e; rw [vals_length, hk, List.length_nil] at this; omega)
  rw [vals_length, hk] at hkle hkvv
  have hE0 := envA_ok (st := st0) (blk := []) (rows := rowsN 0 0 0) (vl := vlK kv nv tv dv) (vlK_one (slV_one hkv) (slV_one hnv) (slV_one htv) (slV_one hdv)) (rowsN_le (by decide)) rowsN_one
  have e0 : (envA st0 [] (rowsN 0 0 0) (vlK kv nv tv dv)).vl 0 = kv := rfl
  have e1 : (envA st0 [] (rowsN 0 0 0) (vlK kv nv tv dv)).vl 1 = nv := rfl
  have e2 : (envA st0 [] (rowsN 0 0 0) (vlK kv nv tv dv)).vl 2 = tv := rfl
  have e3 : (envA st0 [] (rowsN 0 0 0) (vlK kv nv tv dv)).vl 3 = dv := rfl
  generalize envA st0 [] (rowsN 0 0 0) (vlK kv nv tv dv) = E at hE0 e0 e1 e2 e3
  have hE : CfgOk Tryd.prog E w {} := cfgOk0 (r := []) hE0 fun p hp => nomatch hp
  have hst := start_rel (E := E) (w0 := w) (G := {}) (nt := 32) (bl := fun _ => (0, 0)) (args := [.a (modeK m), .c (.o 0), .c (.o 1), .c (.o 2), .c (.o 3)]) (MRel.nil E _ w) gok0 (fun x hx => by
    simp only [List.mem_cons, List.not_mem_nil, or_false] at hx
    rcases hx with rfl | rfl | rfl | rfl | rfl <;> rfl) (by show 5 ≤ 32; decide)
  have hargs : ([.a (modeK m), .c (.o 0), .c (.o 1), .c (.o 2), .c (.o 3)] : List A1).map (A1.den E fun _ => (0, 0)) = [.agg (modeW m).toArray, kv, nv, tv, dv] := by
    simp only [List.map_cons, List.map_nil, A1.den, AC.den, modeK_den, e0, e1, e2, e3]
  rw [hargs] at hst
  refine wp_seq (code_wp hE noK_ok mix (List.all_eq_true.1 sealStart_all m (in3 hm)) (by show 0 ≤ 1; decide) hst fun bl1 a1 w1 g1 h1 => ?_)
  have hf1 := h1.fr (by
    intro p hp
    simp only [List.mem_cons, List.not_mem_nil, or_false] at hp
    rcases hp with rfl | rfl | rfl | rfl | rfl <;> rfl)
  have hb1 : Below w.heap.size w w1 := h1.mem.below (by rfl)
  have m0 : At w1 (bl1 0).1 (bl1 0).2 (modeW m) := h1.mem.at (i := 0) (b := owB (modeK m)) rfl rfl
  have hfr : Fr 32 a1 (sBase kv nv tv dv (ptrTo (bl1 0).1 (bl1 0).2)) := ⟨hf1.defers, hf1.size, fun p hp => by
    simp only [sBase, List.mem_cons, List.not_mem_nil, or_false] at hp
    rcases hp with rfl | rfl | rfl | rfl | rfl
    · rw [hf1.get (1, (opV 0).den E bl1) (by simp [denL])]; exact e0
    · rw [hf1.get (2, (opV 1).den E bl1) (by simp [denL])]; exact e1
    · rw [hf1.get (3, (opV 2).den E bl1) (by simp [denL])]; exact e2
    · rw [hf1.get (4, (opV 3).den E bl1) (by simp [denL])]; exact e3
    · rw [hf1.get (5, (ptV 0).den E bl1) (by simp [denL])]; exact ptV_den (E := E) rfl⟩
  refine wp_seq (seal_region hm hk hn htl hdl (hkv.below hb1) (hnv.below hb1) (htv.below hb1) (hdv.below hb1) m0 hfr fun a2 w2 u g cap rb ro hf2 hb2 hown hrn hgr hst2 => ?_)
  generalize hD : dataSt (mdOf m) (beginS m key nonce) data = sd at hown hst2
  generalize hO : (crypt (mdOf m) false sd text).1 = ou at hown
  generalize hC : (crypt (mdOf m) false sd text).2 = sc at hst2
  have hol : ou.length = text.length := by rw [← hO, crypt_length]
  have hE2 := envA_ok (st := sc) (blk := kn key []) (rows := fun i => if i = 0 then vals ou else if i = 200 then repl (kcap - klen m) else []) (vl := vl1 (.slice none 0 0) (.slice none 0 0)) (vl1_one rfl rfl) (fun i hi => by
    split
    · rw [vals_length]; omega
    · rw [if_neg (by omega)]; simp) (fun i x hx => by
    split at hx
    · obtain ⟨b, _, rfl⟩ := List.mem_map.1 hx; rfl
    · split at hx
      · rw [(List.mem_replicate.1 hx).2]; rfl
      · cases hx)
  have hsym : SymOk (envA sc (kn key []) (fun i => if i = 0 then vals ou else if i = 200 then repl (kcap - klen m) else []) (vl1 (.slice none 0 0) (.slice none 0 0))) sc (kn key []) := envA_sym
  have hap : ApOk (envA sc (kn key []) (fun i => if i = 0 then vals ou else if i = 200 then repl (kcap - klen m) else []) (vl1 (.slice none 0 0) (.slice none 0 0))) := envA_ap
  have n1 : (envA sc (kn key []) (fun i => if i = 0 then vals ou else if i = 200 then repl (kcap - klen m) else []) (vl1 (.slice none 0 0) (.slice none 0 0))).nm 200 = kcap - klen m := by simp [envA, repl]
  have hrow : (envA sc (kn key []) (fun i => if i = 0 then vals ou else if i = 200 then repl (kcap - klen m) else []) (vl1 (.slice none 0 0) (.slice none 0 0))).row 0 = vals ou := rfl
  generalize envA sc (kn key []) (fun i => if i = 0 then vals ou else if i = 200 then repl (kcap - klen m) else []) (vl1 (.slice none 0 0) (.slice none 0 0)) = E2 at hE2 hsym hap n1 hrow
  have hG2 : CfgOk Tryd.prog E2 w1 {} := cfgOk0 (r := []) hE2 fun p hp => nomatch hp
  have hm2 := startT (m := m) (E := E2) (by omega) hb2 hrow hsym hk ((hka.below hb1).below hb2) (Nat.lt_of_lt_of_le hkb hb1.size) (fun bl => winK hsym hk bl) (m0.below hb2) (at_lt m0 (by simp [modeW])) hst2 hgr hown
  have hd : denL E2 (blC (kb, ko) ((bl1 0).1, (bl1 0).2) (rb, ro) g ou.length cap (0, 0)) (endL m) = [(1, kv), (5, ptrTo (bl1 0).1 (bl1 0).2), (11, u), (12, ptrTo rb ro)] := by
    have e1 : (AC.slc 0 0 0 ⟨0, klen m⟩ ⟨201, klen m⟩).den E2 (blC (kb, ko) ((bl1 0).1, (bl1 0).2) (rb, ro) g ou.length cap (0, 0)) = kv :=
      (slc_den (E := E2) (bl := blC (kb, ko) ((bl1 0).1, (bl1 0).2) (rb, ro) g ou.length cap (0, 0)) (b := 0) (ib := kb) (io := ko) (n := klen m) (cap := kcap) rfl (by show E2.nm 200 + _ = _; rw [n1]; omega) (by omega) rfl).trans hkvv.symm
    simp only [denL, endL, List.map_cons, List.map_nil, ptV_den (E := E2) (bl := blC (kb, ko) ((bl1 0).1, (bl1 0).2) (rb, ro) g ou.length cap (0, 0)) (i := 1) rfl, ptV_den (E := E2) (bl := blC (kb, ko) ((bl1 0).1, (bl1 0).2) (rb, ro) g ou.length cap (0, 0)) (i := 2) rfl, cIn_den (bl := blC (kb, ko) ((bl1 0).1, (bl1 0).2) (rb, ro) g ou.length cap (0, 0)) hE2 hrow rfl rfl hown]
    show [(1, (AC.slc 0 0 0 ⟨0, klen m⟩ ⟨201, klen m⟩).den E2 _), _, _, _] = _
    rw [e1]
  have hrun := List.all_eq_true.1 sealEnd_all m (in3 hm)
  unfold sealEnd at hrun
  rw [← hres] at hrun
  refine code_wpR hG2 (KT_ok hG2 hap) mix hrun (SRel.ofFr (bl := blC (kb, ko) ((bl1 0).1, (bl1 0).2) (rb, ro) g ou.length cap (0, 0)) (by
    rw [hd]
    exact hf2.sub fun p hp => by
      simp only [List.mem_cons, List.not_mem_nil, or_false] at hp
      rcases hp with rfl | rfl | rfl | rfl <;> simp [sBase]) rfl hm2 gok0) fun bl' vs w' hag hr hm' => ?_
  obtain ⟨v', q1, g', cap', q2, _⟩ := rsOne' hr
  refine ⟨v', by rw [q1], hb1.trans ((hm'.below (by rfl)).mono hb1.size), ?_⟩
  have hfin : vals (sealB m key nonce text data) = rowOf E2 1 ++ (tagA m).map (AC.den E2 fun _ => (0, 0)) := by
    show _ = E2.row 0 ++ _
    unfold sealB
    rw [hD, hO, hC, vals_append, hrow, tagA_den hsym hap (by omega)]
  rw [hfin]
  exact q2.sl
end Go.Proofs.YtfilandehjmikaaDoor.Asc
namespace Go.Proofs.YtfilandehjmikaaDoor.Asc
open Go.RowKit Go.Proofs.YtfilandehjmikaaDoor.Sx

noncomputable def o19 : Code := bodyOf 19
noncomputable def oR0 : Code := pA o19
noncomputable def oR1 : Code := pA (pA (pB o19))
noncomputable def oR2 : Code := pC (pB (pA (pB o19)))
noncomputable def oR3 : Code := pA (pB (pB o19))
noncomputable def oOps : Array Oper := rOps (pA (pB (pB (pB o19))))
noncomputable def oQs : Array Oper := rOps (pA (pB (pB (pB (pB o19)))))
theorem o19_eq : o19 = .seq oR0 (.seq (.seq oR1 (.cond (.tmp 17) oR2 .skip)) (.seq oR3 (.seq (.region 4 oOps true) (.seq (.region 5 oQs true) .ret)))) := by kernel_rfl
theorem oOp0 : opOf oOps 0 = some (some 22, .load 26 (.tmp 5)) := by kernel_rfl
theorem oOp1 : opOf oOps 1 = some (some 23, .load 26 (.tmp 5)) := by kernel_rfl
theorem oOp2 : opOf oOps 2 = some (some 24, .load 26 (.tmp 5)) := by kernel_rfl
theorem oOp3 : opOf oOps 3 = some (some 25, .move (.tmp 1)) := by kernel_rfl
theorem oOp4 : opOf oOps 4 = some (some 26, .move (.tmp 2)) := by kernel_rfl
theorem oOp5 : opOf oOps 5 = some (some 27, .call { callee := .value (.func 27), args := #[.tmp 24, .tmp 25, .tmp 26], argTypes := #[26, 22, 22] }) := by kernel_rfl
theorem oOp6 : opOf oOps 6 = some (some 28, .move (.tmp 4)) := by kernel_rfl
theorem oOp7 : opOf oOps 7 = some (some 29, .call { callee := .value (.func 26), args := #[.tmp 23, .tmp 27, .tmp 28], argTypes := #[26, 48, 22] }) := by kernel_rfl
theorem oOp8 : opOf oOps 8 = some (some 30, .move (.tmp 3)) := by kernel_rfl
theorem oOp9 : opOf oOps 9 = some (some 31, .move (.tmp 12)) := by kernel_rfl
theorem oOp10 : opOf oOps 10 = some (some 32, .slice 22 (.tmp 30) none (some (.tmp 31)) none) := by kernel_rfl
theorem oOp11 : opOf oOps 11 = some (some 33, .call { callee := .value (.func 25), args := #[.tmp 22, .tmp 29, .tmp 32, .const (.bool true)], argTypes := #[26, 48, 22, 4] }) := by kernel_rfl
theorem oOp12 : opOf oOps 12 = some (some 21, .move (.tmp 33)) := by kernel_rfl
theorem oOp13 : opOf oOps 13 = some (some 34, .extract (.tmp 21) 0) := by kernel_rfl
theorem oOp14 : opOf oOps 14 = some (some 35, .extract (.tmp 21) 1) := by kernel_rfl
theorem oOp15 : opOf oOps 15 = some (some 14, .alloc 48) := by kernel_rfl
theorem oOp16 : opOf oOps 16 = some (some 13, .assign (.tmp 34)) := by kernel_rfl
theorem oOp17 : opOf oOps 17 = some (none, .store 48 (.tmp 14) (.tmp 35)) := by kernel_rfl
theorem oSize : oOps.size = 18 := by kernel_rfl
theorem oClo : ((List.range oOps.size).all fun j => (deps oOps j).all fun d => Nat.blt d j) = true := by kernel_rfl
theorem oGd : (oOps.all fun o => o.guard.isNone) = true := by kernel_rfl
theorem oHas5 : has oOps 5 [2, 3, 4] = true := by kernel_rfl
theorem oHas7 : has oOps 7 [1, 5, 6] = true := by kernel_rfl
theorem oHas10 : has oOps 10 [8, 9] = true := by kernel_rfl
theorem oHas11 : has oOps 11 [0, 7, 10] = true := by kernel_rfl
theorem oHas12 : has oOps 12 [11] = true := by kernel_rfl
theorem oHas13 : has oOps 13 [12] = true := by kernel_rfl
theorem oHas14 : has oOps 14 [12] = true := by kernel_rfl
theorem oHas16 : has oOps 16 [11, 13] = true := by kernel_rfl
theorem oHas17 : has oOps 17 [11, 14, 15] = true := by kernel_rfl
def oD : Nat → Option Nat := fun i => match i with
  | 0 => some 22
  | 1 => some 23
  | 2 => some 24
  | 3 => some 25
  | 4 => some 26
  | 5 => some 27
  | 6 => some 28
  | 7 => some 29
  | 8 => some 30
  | 9 => some 31
  | 10 => some 32
  | 11 => some 33
  | 12 => some 21
  | 13 => some 34
  | 14 => some 35
  | 15 => some 14
  | 16 => some 13
  | _ => none
theorem oD_all : ∀ i, i < 18 → ∀ j, j < 18 → (j = i ∨ oD j ≠ oD i ∨ oD i = none) := by decide
theorem oD_ne (i : Nat) (hi : i < 18) (j : Nat) (hj : j < 18) (hne : j ≠ i) (d : Nat) (hd : oD i = some d) : oD j ≠ some d := by
  rcases oD_all i hi j hj with h | h | h
  · exact absurd h hne
  · rw [← hd]; exact h
  · rw [hd] at h; cases h
def oV (md kv nv sv dv nn cv bg dt ct : Value) : Value → Value → Nat → Value := fun u p i => match i with
  | 0 => md
  | 1 => md
  | 2 => md
  | 3 => kv
  | 4 => nv
  | 5 => bg
  | 6 => dv
  | 7 => dt
  | 8 => sv
  | 9 => nn
  | 10 => cv
  | 11 => .tuple #[u, ct]
  | 12 => .tuple #[u, ct]
  | 13 => u
  | 14 => ct
  | 15 => p
  | 16 => u
  | _ => undef
def oBase (kv nv sv dv mp nn : Value) : List (Nat × Value) := [(1, kv), (2, nv), (3, sv), (4, dv), (5, mp), (12, nn)]
theorem oBase_ne {kv nv sv dv mp nn : Value} {d : Nat} (hd : 13 ≤ d) : ∀ q ∈ oBase kv nv sv dv mp nn, q.1 ≠ d := fun q hq => by
  simp only [oBase, List.mem_cons, List.not_mem_nil, or_false] at hq
  rcases hq with rfl | rfl | rfl | rfl | rfl | rfl <;> show _ ≠ d <;> simp only <;> omega
theorem cutLo (w : World) {b o n c h : Nat} (hh : h ≤ c) : (Instr.sliceAt 22 (.slice (some ⟨b, o, none⟩) n c) none (some (.int .i64 (h : Int))) none).run Tryd.prog w = .ok (.slice (some ⟨b, o, none⟩) h c) w := by
  obtain ⟨j, h1, _, h3, _⟩ := info5
  have := slice_val (B := b) (S := o) (L := n) (C := c) (l := 0) (h := h) bund22 h1 h3 w (.inr ⟨.i64, rfl, hh⟩) (low := none) (.inl ⟨rfl, rfl⟩) (.inl rfl)
  simpa using this
theorem cutHi (w : World) {b o n c l : Nat} (hl : l ≤ n) (hlc : l < c) : (Instr.sliceAt 22 (.slice (some ⟨b, o, none⟩) n c) (some (.int .i64 (l : Int))) none none).run Tryd.prog w = .ok (.slice (some ⟨b, o + l, none⟩) (n - l) (c - l)) w := by
  obtain ⟨j, h1, _, h3, _⟩ := info5
  exact slice_val (B := b) (S := o) (L := n) (C := c) (l := l) (h := n) bund22 h1 h3 w (high := none) (.inl ⟨rfl, rfl⟩) (.inr ⟨.i64, rfl, hl⟩) (.inr hlc)
set_option maxHeartbeats 2000000 in
theorem open_region {m : Nat} (hm : m ≤ 2) {key nonce cc data : List B8} (hk : key.length = klen m) (hn : nonce.length = 16) (htl : cc.length ≤ 1048576) (hdl : data.length ≤ 1048576) {W : World} {kv nv dv : Value} {mb mo kb ko kl kc : Nat} {a : Act}
    (hkv : SlV W kv (vals key)) (hnv : SlV W nv (vals nonce)) (hcc : At W kb ko (vals cc)) (hkc : cc.length ≤ kc) (hdv : SlV W dv (vals data)) (hmd : At W mb mo (modeW m)) (hf : Fr 47 a (oBase kv nv (.slice (some ⟨kb, ko, none⟩) kl kc) dv (ptrTo mb mo) (.int .i64 (cc.length : Int)))) {Q : Exit → Act → World → Prop}
    (hq : ∀ a' w' u g cap rb ro, Fr 47 a' (oBase kv nv (.slice (some ⟨kb, ko, none⟩) kl kc) dv (ptrTo mb mo) (.int .i64 (cc.length : Int)) ++ [(13, u), (14, ptrTo rb ro)]) → Below W.heap.size W w' → OwnG W w' g cap u (vals (crypt (mdOf m) true (dataSt (mdOf m) (beginS m key nonce) data) cc).1) → W.heap.size ≤ rb → g ≠ rb →
      At w' rb ro (crypt (mdOf m) true (dataSt (mdOf m) (beginS m key nonce) data) cc).2.vals → Q .normal a' w') : (Code.region 4 oOps true).wp Tryd.prog Q a W := by
  generalize hbg : beginS m key nonce = sb at hq
  generalize hdt : dataSt (mdOf m) sb data = sd at hq
  generalize hct : (crypt (mdOf m) true sd cc).2 = sc at hq
  generalize hou : (crypt (mdOf m) true sd cc).1 = ou at hq
  generalize hsv : Value.slice (some ⟨kb, ko, none⟩) kl kc = sv at hf hq
  generalize hcv : Value.slice (some ⟨kb, ko, none⟩) cc.length kc = cv
  have htv : SlV W cv (vals cc) := by
    rw [← hcv, ← vals_length cc]
    exact SlV.mk hcc (by rw [vals_length]; exact hkc)
  let V := oV (.agg (modeW m).toArray) kv nv sv dv (.int .i64 (cc.length : Int)) cv (.agg sb.vals.toArray) (.agg sd.vals.toArray) (.agg sc.vals.toArray)
  let I : Array Bool → Act → World → Value → Value → Nat → Nat → Nat → Nat → Prop := SIn W 18 47 (oBase kv nv sv dv (ptrTo mb mo) (.int .i64 (cc.length : Int))) oD V 11 15 17 (vals ou) st0.vals sc.vals
  refine region_inv mix (fun L a w => ∃ u p g cap rb ro, I L a w u p g cap rb ro) oClo oGd ?_ (fun L a w i o hL hi ho hLi hdep hcl hI => ?_) (fun L a w hL hall hI => ?_)
  · refine ⟨undef, undef, 0, 0, 0, 0, hf.defers, hf.size, hf.get, ⟨rfl, rfl, rfl, Nat.le_refl _, fun _ _ => rfl⟩, fun i hi h => ?_, fun h => ?_, fun h => ?_, fun h => ?_⟩
    · rw [oSize, Array.getD_eq_getD_getElem?] at h; simp [hi] at h
    · rw [oSize, Array.getD_eq_getD_getElem?] at h; simp at h
    · rw [oSize, Array.getD_eq_getD_getElem?] at h; simp at h
    · rw [oSize, Array.getD_eq_getD_getElem?] at h; simp at h
  · obtain ⟨u, p, g, cap, rb, ro, hI⟩ := hI
    rw [oSize] at hL hi hcl
    have slot : ∀ {j d : Nat} {l : List Nat}, has oOps i l = true → j ∈ l → j < 18 → oD j = some d → a.tmps.getD d undef = V u p j := fun {j d l} h1 h2 h3 h4 => hI.vals j h3 (hdep j (has_mem h1 h2)) d h4
    have quiet : ∀ (d : Nat) (v : Value) (w' : World), i ≠ 11 → i ≠ 15 → i ≠ 17 → oD i = some d → 13 ≤ d → d < 47 → v = V u p i → Below w.heap.size w w' → ∃ u p g cap rb ro, I (L.setIfInBounds i true) (a.put (some d) v) w' u p g cap rb ro := fun d v w' h1 h2 h3 h4 h5 h6 h7 h8 =>
      ⟨u, p, g, cap, rb, ro, hI.quiet hL hi h1 h2 h3 h4 h6 (oBase_ne h5) (fun j hj hne => oD_ne i hi j hj hne d h4) h7 h8⟩
    have hb1 : ∀ {q : Nat × Value}, q ∈ oBase kv nv sv dv (ptrTo mb mo) (.int .i64 (cc.length : Int)) → a.tmps.getD q.1 undef = q.2 := fun {q} hq => hI.base q hq
    have hmw : At w mb mo (modeW m) := hmd.below hI.below
    rcases (show i = 0 ∨ i = 1 ∨ i = 2 ∨ i = 3 ∨ i = 4 ∨ i = 5 ∨ i = 6 ∨ i = 7 ∨ i = 8 ∨ i = 9 ∨ i = 10 ∨ i = 11 ∨ i = 12 ∨ i = 13 ∨ i = 14 ∨ i = 15 ∨ i = 16 ∨ i = 17 by omega) with rfl | rfl | rfl | rfl | rfl | rfl | rfl | rfl | rfl | rfl | rfl | rfl | rfl | rfl | rfl | rfl | rfl | rfl
    · obtain ⟨e1, e2⟩ := opAt ho oOp0
      refine w_load e2 (v := .agg (modeW m).toArray) ?_ (e1 ▸ quiet 22 _ w (by decide) (by decide) (by decide) rfl (by decide) (by decide) rfl (Below.refl _ _))
      rw [show a.eval (.tmp 5) = ptrTo mb mo from hb1 (q := (5, ptrTo mb mo)) (by simp [oBase])]
      exact loadMode hm hmw
    · obtain ⟨e1, e2⟩ := opAt ho oOp1
      refine w_load e2 (v := .agg (modeW m).toArray) ?_ (e1 ▸ quiet 23 _ w (by decide) (by decide) (by decide) rfl (by decide) (by decide) rfl (Below.refl _ _))
      rw [show a.eval (.tmp 5) = ptrTo mb mo from hb1 (q := (5, ptrTo mb mo)) (by simp [oBase])]
      exact loadMode hm hmw
    · obtain ⟨e1, e2⟩ := opAt ho oOp2
      refine w_load e2 (v := .agg (modeW m).toArray) ?_ (e1 ▸ quiet 24 _ w (by decide) (by decide) (by decide) rfl (by decide) (by decide) rfl (Below.refl _ _))
      rw [show a.eval (.tmp 5) = ptrTo mb mo from hb1 (q := (5, ptrTo mb mo)) (by simp [oBase])]
      exact loadMode hm hmw
    · obtain ⟨e1, e2⟩ := opAt ho oOp3
      exact w_move e2 (e1 ▸ quiet 25 _ w (by decide) (by decide) (by decide) rfl (by decide) (by decide) (hb1 (q := (1, kv)) (by simp [oBase])) (Below.refl _ _))
    · obtain ⟨e1, e2⟩ := opAt ho oOp4
      exact w_move e2 (e1 ▸ quiet 26 _ w (by decide) (by decide) (by decide) rfl (by decide) (by decide) (hb1 (q := (2, nv)) (by simp [oBase])) (Below.refl _ _))
    · obtain ⟨e1, e2⟩ := opAt ho oOp5
      have s1 : a.tmps.getD 24 undef = .agg (modeW m).toArray := slot oHas5 (j := 2) (by simp) (by decide) rfl
      have s2 : a.tmps.getD 25 undef = kv := slot oHas5 (j := 3) (by simp) (by decide) rfl
      have s3 : a.tmps.getD 26 undef = nv := slot oHas5 (j := 4) (by simp) (by decide) rfl
      refine w_call e2 (vs := #[.agg (modeW m).toArray, kv, nv]) (fun _ _ => by kernel_rfl) ((map3 _ _ _ _).trans (by show #[a.tmps.getD 24 undef, a.tmps.getD 25 undef, a.tmps.getD 26 undef] = _; rw [s1, s2, s3])) ?_
      refine (sbegin_calls hm hk hn (hkv.below hI.below) (hnv.below hI.below)).mono fun e w' ⟨he, hb⟩ => ⟨_, he, e1 ▸ quiet 27 _ w' (by decide) (by decide) (by decide) rfl (by decide) (by decide) (by rw [hbg]; rfl) hb⟩
    · obtain ⟨e1, e2⟩ := opAt ho oOp6
      exact w_move e2 (e1 ▸ quiet 28 _ w (by decide) (by decide) (by decide) rfl (by decide) (by decide) (hb1 (q := (4, dv)) (by simp [oBase])) (Below.refl _ _))
    · obtain ⟨e1, e2⟩ := opAt ho oOp7
      have s1 : a.tmps.getD 23 undef = .agg (modeW m).toArray := slot oHas7 (j := 1) (by simp) (by decide) rfl
      have s2 : a.tmps.getD 27 undef = .agg sb.vals.toArray := slot oHas7 (j := 5) (by simp) (by decide) rfl
      have s3 : a.tmps.getD 28 undef = dv := slot oHas7 (j := 6) (by simp) (by decide) rfl
      refine w_call e2 (vs := #[.agg (modeW m).toArray, .agg sb.vals.toArray, dv]) (fun _ _ => by kernel_rfl) ((map3 _ _ _ _).trans (by show #[a.tmps.getD 23 undef, a.tmps.getD 27 undef, a.tmps.getD 28 undef] = _; rw [s1, s2, s3])) ?_
      have hc := sdata_calls (m := m) (st := sb) hdl (w := w) (kv := .int .i64 (Int.ofNat (klen m))) rfl (hdv.below hI.below)
      rw [hdt] at hc
      exact Calls.mono hc fun e w' ⟨he, hb⟩ => ⟨_, he, e1 ▸ quiet 29 _ w' (by decide) (by decide) (by decide) rfl (by decide) (by decide) rfl hb⟩
    · obtain ⟨e1, e2⟩ := opAt ho oOp8
      exact w_move e2 (e1 ▸ quiet 30 _ w (by decide) (by decide) (by decide) rfl (by decide) (by decide) (hb1 (q := (3, sv)) (by simp [oBase])) (Below.refl _ _))
    · obtain ⟨e1, e2⟩ := opAt ho oOp9
      exact w_move e2 (e1 ▸ quiet 31 _ w (by decide) (by decide) (by decide) rfl (by decide) (by decide) (hb1 (q := (12, .int .i64 (cc.length : Int))) (by simp [oBase])) (Below.refl _ _))
    · obtain ⟨e1, e2⟩ := opAt ho oOp10
      have s1 : a.eval (.tmp 30) = sv := slot oHas10 (j := 8) (by simp) (by decide) rfl
      have s2 : a.eval (.tmp 31) = .int .i64 (cc.length : Int) := slot oHas10 (j := 9) (by simp) (by decide) rfl
      refine w_slice e2 (v := cv) ?_ (e1 ▸ quiet 32 _ w (by decide) (by decide) (by decide) rfl (by decide) (by decide) rfl (Below.refl _ _))
      simp only [Option.map_none, Option.map_some]
      rw [s1, s2, ← hsv, ← hcv]
      exact cutLo w hkc
    · obtain ⟨e1, e2⟩ := opAt ho oOp11
      have s1 : a.tmps.getD 22 undef = .agg (modeW m).toArray := slot oHas11 (j := 0) (by simp) (by decide) rfl
      have s2 : a.tmps.getD 29 undef = .agg sd.vals.toArray := slot oHas11 (j := 7) (by simp) (by decide) rfl
      have s3 : a.tmps.getD 32 undef = cv := slot oHas11 (j := 10) (by simp) (by decide) rfl
      refine w_call e2 (vs := #[.agg (modeW m).toArray, .agg sd.vals.toArray, cv, .bool true]) (fun _ _ => by kernel_rfl) ((map4 _ _ _ _ _).trans (by show #[a.tmps.getD 22 undef, a.tmps.getD 29 undef, a.tmps.getD 32 undef, Value.bool true] = _; rw [s1, s2, s3])) ?_
      have hc := scrypt_calls (m := m) true (st := sd) htl (w := w) (kv := .int .i64 (Int.ofNat (klen m))) rfl (htv.below hI.below)
      rw [hct, hou] at hc
      refine Calls.mono hc fun e w' ⟨g', cap', u', he, hb, hown⟩ => ⟨_, he, e1 ▸ ⟨u', p, g', cap', rb, ro, hI.callee hL (by decide) (by decide) (by decide) rfl (by decide) (oBase_ne (by decide)) (fun j hj hne => oD_ne 11 (by decide) j hj hne 33 rfl) rfl (fun j hj hLj => ?_) hb hown⟩⟩
      have n9 : ¬ L.getD 11 false = true := by rw [hLi]; decide
      have n10 : ¬ L.getD 12 false = true := fun h => n9 (hcl 12 (by decide) h 11 (has_mem oHas12 (by simp)))
      have n11 : ¬ L.getD 13 false = true := fun h => n10 (hcl 13 (by decide) h 12 (has_mem oHas13 (by simp)))
      have n14 : ¬ L.getD 16 false = true := fun h => n9 (hcl 16 (by decide) h 11 (has_mem oHas16 (by simp)))
      rcases (show j = 0 ∨ j = 1 ∨ j = 2 ∨ j = 3 ∨ j = 4 ∨ j = 5 ∨ j = 6 ∨ j = 7 ∨ j = 8 ∨ j = 9 ∨ j = 10 ∨ j = 11 ∨ j = 12 ∨ j = 13 ∨ j = 14 ∨ j = 15 ∨ j = 16 ∨ j = 17 by omega) with rfl | rfl | rfl | rfl | rfl | rfl | rfl | rfl | rfl | rfl | rfl | rfl | rfl | rfl | rfl | rfl | rfl | rfl <;> first | rfl | exact absurd hLj n9 | exact absurd hLj n10 | exact absurd hLj n11 | exact absurd hLj n14
    · obtain ⟨e1, e2⟩ := opAt ho oOp12
      exact w_move e2 (e1 ▸ quiet 21 _ w (by decide) (by decide) (by decide) rfl (by decide) (by decide) (slot oHas12 (j := 11) (by simp) (by decide) rfl) (Below.refl _ _))
    · obtain ⟨e1, e2⟩ := opAt ho oOp13
      exact w_extract e2 (vs := #[u, .agg sc.vals.toArray]) (slot oHas13 (j := 12) (by simp) (by decide) rfl) rfl (e1 ▸ quiet 34 u w (by decide) (by decide) (by decide) rfl (by decide) (by decide) rfl (Below.refl _ _))
    · obtain ⟨e1, e2⟩ := opAt ho oOp14
      exact w_extract e2 (vs := #[u, .agg sc.vals.toArray]) (slot oHas14 (j := 12) (by simp) (by decide) rfl) rfl (e1 ▸ quiet 35 (.agg sc.vals.toArray) w (by decide) (by decide) (by decide) rfl (by decide) (by decide) rfl (Below.refl _ _))
    · obtain ⟨e1, e2⟩ := opAt ho oOp15
      obtain ⟨rb', ro', w', h1, h2, h3, h4, h5, h6⟩ := allocSt w
      have n13 : ¬ L.getD 15 false = true := by rw [hLi]; decide
      have n15 : L.getD 17 false = false := by
        cases h : L.getD 17 false with
        | false => rfl
        | true => exact absurd (hcl 17 (by decide) h 15 (has_mem oHas17 (by simp))) n13
      refine w_alloc e2 h1 (e1 ▸ ⟨u, _, g, cap, rb', ro', hI.made hL (by decide) (by decide) (by decide) n15 rfl (by decide) (oBase_ne (by decide)) (fun j hj hne => oD_ne 15 (by decide) j hj hne 14 rfl) rfl (fun j hj hLj => ?_) h2 h3 h4 h5 h6⟩)
      rcases (show j = 0 ∨ j = 1 ∨ j = 2 ∨ j = 3 ∨ j = 4 ∨ j = 5 ∨ j = 6 ∨ j = 7 ∨ j = 8 ∨ j = 9 ∨ j = 10 ∨ j = 11 ∨ j = 12 ∨ j = 13 ∨ j = 14 ∨ j = 15 ∨ j = 16 ∨ j = 17 by omega) with rfl | rfl | rfl | rfl | rfl | rfl | rfl | rfl | rfl | rfl | rfl | rfl | rfl | rfl | rfl | rfl | rfl | rfl <;> first | rfl | exact absurd hLj n13
    · obtain ⟨e1, e2⟩ := opAt ho oOp16
      exact w_assign e2 (e1 ▸ quiet 13 _ w (by decide) (by decide) (by decide) rfl (by decide) (by decide) (slot oHas16 (j := 13) (by simp) (by decide) rfl) (Below.refl _ _))
    · obtain ⟨e1, e2⟩ := opAt ho oOp17
      have l13 := hdep 15 (has_mem oHas17 (by simp))
      have l9 := hdep 11 (has_mem oHas17 (by simp))
      obtain ⟨q1, q2, q3, q4, q5⟩ := hI.blk l13
      rw [hLi] at q4
      have s1 : a.eval (.tmp 14) = .pointer (some ⟨rb, ro, none⟩) := (slot oHas17 (j := 15) (by simp) (by decide) rfl).trans q1
      have s2 : a.eval (.tmp 35) = .agg sc.vals.toArray := slot oHas17 (j := 14) (by simp) (by decide) rfl
      obtain ⟨w', h1, h2, h3⟩ := storeSt (s := sc) q4 q5
      refine w_store e2 (w' := w') (by rw [s1, s2]; exact h1) ?_
      rw [e1]
      exact ⟨u, p, g, cap, rb, ro, hI.kept hL (by decide) (by decide) (by decide) rfl l13 l9 h2 h3⟩
  · obtain ⟨u, p, g, cap, rb, ro, hI⟩ := hI
    rw [oSize] at hL hall
    obtain ⟨q1, q2, q3, q4, q5⟩ := hI.blk (hall 15 (by decide))
    rw [hall 17 (by decide)] at q4
    refine hq a w u g cap rb ro ⟨hI.defers, hI.size, fun q hq => ?_⟩ hI.below (hI.own (hall 11 (by decide))) q2 (hI.apart (hall 11 (by decide)) (hall 15 (by decide))) q4
    rcases List.mem_append.1 hq with hq | hq
    · exact hI.base q hq
    · simp only [List.mem_cons, List.not_mem_nil, or_false] at hq
      rcases hq with rfl | rfl
      · exact hI.vals 16 (by decide) (hall 16 (by decide)) 13 rfl
      · exact (hI.vals 15 (by decide) (hall 15 (by decide)) 14 rfl).trans q1
end Go.Proofs.YtfilandehjmikaaDoor.Asc
namespace Go.Proofs.YtfilandehjmikaaDoor.Asc
open Go.RowKit Go.Proofs.YtfilandehjmikaaDoor.Sx

def bints (l : List B8) : List Int := l.map fun b => (b.toNat : Int)
theorem vals_bints (l : List B8) : vals l = (bints l).map (Value.int .u8) := by simp [vals, bints, bval]
theorem bints_wf (l : List B8) : ∀ n ∈ bints l, (Lit.int .u8 n).wf = true := fun n hn => by
  obtain ⟨b, _, rfl⟩ := List.mem_map.1 hn
  have := b.isLt
  simp [Lit.wf, IntKind.min, IntKind.max, IntKind.signed, IntKind.bits]
  omega
theorem bints_inj {a b : List B8} (h : bints a = bints b) : a = b := by
  unfold bints at h
  induction a generalizing b with
  | nil => cases b with
    | nil => rfl
    | cons => simp at h
  | cons x a ih => cases b with
    | nil => simp at h
    | cons y b =>
      simp only [List.map_cons, List.cons.injEq] at h
      rw [ih h.2]
      congr 1
      exact BitVec.eq_of_toNat_eq (by omega)
def strB (l : List B8) : Value := .string (strOfNums (bints l))
theorem conv_str {w : World} {v : Value} {l : List B8} (h : SlV w v (vals l)) : (convert 22 9 v).run Tryd.prog w = .ok (strB l) w := by
  rw [vals_bints] at h
  exact slv_str h
theorem eql_str (w : World) (u v : Operand) (a b : List B8) : (do eqGuard .eql 9 u v (strB a) (strB b); binOp .eql 9 (strB a) (strB b) : Sem Value).run Tryd.prog w = .ok (.bool (decide (a = b))) w := by
  have h2 : binOp .eql 9 (strB a) (strB b) = pure (.bool (decide (a = b))) := by
    show binOp .eql 9 (.string (strOfNums (bints a))) (.string (strOfNums (bints b))) = _
    rw [binOp_string_eql]
    congr 2
    by_cases h : a = b
    · subst h; simp
    · have : ¬ (strOfNums (bints a)).toList = (strOfNums (bints b)).toList := fun e => h (bints_inj (strOf_inj (bints_wf a) (bints_wf b) e))
      simp [h, this]
  have h0 : eqGuard .eql 9 u v (strB a) (strB b) = pure () := rfl
  rw [h0, h2]
  rfl
section
variable {P : Program} {o : Oper} {a : Act} {w w' : World} {next : Act → World → Prop} {Q : Exit → Act → World → Prop} {v : Value}
theorem w_convert {x : Operand} {s d : TypeId} (ho : o.op = .convert s d x) (h : (convert s d (a.eval x)).run P w = .ok v w) (hn : next (a.put o.dst v) w) : o.wp P a w next Q := by
  obtain ⟨dst, op, type, pos, after, guard⟩ := o
  simp only at ho
  subst ho
  exact wp_value (by simp only [execOp, Sem.run_bind, h, Result.andThen_ok, Sem.run_pure]) hn
theorem w_binop {x y : Operand} {op : BinOp} {t t' : TypeId} (ho : o.op = .binOp op t x y t') (h : (do eqGuard op t x y (a.eval x) (a.eval y); binOp op t (a.eval x) (a.eval y) : Sem Value).run P w = .ok v w) (hn : next (a.put o.dst v) w) : o.wp P a w next Q := by
  obtain ⟨dst, op, type, pos, after, guard⟩ := o
  simp only at ho
  subst ho
  refine wp_value ?_ hn
  show (do let z ← (do eqGuard op t x y (a.eval x) (a.eval y); binOp op t (a.eval x) (a.eval y) : Sem Value); pure (.value z) : Sem Next).run P w = _
  rw [Sem.run_bind, h]
  rfl
end
theorem qOp0 : opOf oQs 0 = some (some 36, .move (.tmp 13)) := by kernel_rfl
theorem qOp1 : opOf oQs 1 = some (some 37, .load 26 (.tmp 5)) := by kernel_rfl
theorem qOp2 : opOf oQs 2 = some (some 38, .load 48 (.tmp 14)) := by kernel_rfl
theorem qOp3 : opOf oQs 3 = some (some 39, .move (.tmp 1)) := by kernel_rfl
theorem qOp4 : opOf oQs 4 = some (some 40, .call { callee := .value (.func 28), args := #[.tmp 37, .tmp 38, .tmp 39], argTypes := #[26, 48, 22] }) := by kernel_rfl
theorem qOp5 : opOf oQs 5 = some (some 41, .convert 22 9 (.tmp 40)) := by kernel_rfl
theorem qOp6 : opOf oQs 6 = some (some 42, .move (.tmp 3)) := by kernel_rfl
theorem qOp7 : opOf oQs 7 = some (some 43, .move (.tmp 12)) := by kernel_rfl
theorem qOp8 : opOf oQs 8 = some (some 44, .slice 22 (.tmp 42) (some (.tmp 43)) none none) := by kernel_rfl
theorem qOp9 : opOf oQs 9 = some (some 45, .convert 22 9 (.tmp 44)) := by kernel_rfl
theorem qOp10 : opOf oQs 10 = some (some 46, .binOp .eql 9 (.tmp 41) (.tmp 45) 9) := by kernel_rfl
theorem qOp11 : opOf oQs 11 = some (some 10, .assign (.tmp 36)) := by kernel_rfl
theorem qOp12 : opOf oQs 12 = some (some 11, .assign (.tmp 46)) := by kernel_rfl
theorem qSize : oQs.size = 13 := by kernel_rfl
theorem qClo : ((List.range oQs.size).all fun j => (deps oQs j).all fun d => Nat.blt d j) = true := by kernel_rfl
theorem qGd : (oQs.all fun o => o.guard.isNone) = true := by kernel_rfl
theorem qHas4 : has oQs 4 [1, 2, 3] = true := by kernel_rfl
theorem qHas5 : has oQs 5 [4] = true := by kernel_rfl
theorem qHas8 : has oQs 8 [6, 7] = true := by kernel_rfl
theorem qHas9 : has oQs 9 [8] = true := by kernel_rfl
theorem qHas10 : has oQs 10 [5, 9] = true := by kernel_rfl
theorem qHas11 : has oQs 11 [0] = true := by kernel_rfl
theorem qHas12 : has oQs 12 [10] = true := by kernel_rfl
def qD : Nat → Option Nat := fun i => match i with
  | 0 => some 36
  | 1 => some 37
  | 2 => some 38
  | 3 => some 39
  | 4 => some 40
  | 5 => some 41
  | 6 => some 42
  | 7 => some 43
  | 8 => some 44
  | 9 => some 45
  | 10 => some 46
  | 11 => some 10
  | 12 => some 11
  | _ => none
theorem qD_ne : ∀ i, i < 13 → ∀ j, j < 13 → j ≠ i → qD j ≠ qD i := by decide
def qV (md st kv sv nn hv u t1 t2 bb : Value) : Value → Nat → Value := fun tv i => match i with
  | 0 => u
  | 1 => md
  | 2 => st
  | 3 => kv
  | 4 => tv
  | 5 => t1
  | 6 => sv
  | 7 => nn
  | 8 => hv
  | 9 => t2
  | 10 => bb
  | 11 => u
  | 12 => bb
  | _ => undef
def qBase (kv sv mp nn u rp : Value) : List (Nat × Value) := [(1, kv), (3, sv), (5, mp), (12, nn), (13, u), (14, rp)]
theorem qBase_ne {kv sv mp nn u rp : Value} {i d : Nat} (hi : i < 13) (hd : qD i = some d) : ∀ q ∈ qBase kv sv mp nn u rp, q.1 ≠ d := fun q hq => by
  have : d ≠ 1 ∧ d ≠ 3 ∧ d ≠ 5 ∧ d ≠ 12 ∧ d ≠ 13 ∧ d ≠ 14 := by
    rcases (show i = 0 ∨ i = 1 ∨ i = 2 ∨ i = 3 ∨ i = 4 ∨ i = 5 ∨ i = 6 ∨ i = 7 ∨ i = 8 ∨ i = 9 ∨ i = 10 ∨ i = 11 ∨ i = 12 by omega) with rfl | rfl | rfl | rfl | rfl | rfl | rfl | rfl | rfl | rfl | rfl | rfl | rfl <;> cases hd <;> decide
  simp only [qBase, List.mem_cons, List.not_mem_nil, or_false] at hq
  rcases hq with rfl | rfl | rfl | rfl | rfl | rfl <;> simp only <;> omega
structure QIn (W : World) (base : List (Nat × Value)) (V : Value → Nat → Value) (tag : List Value) (L : Array Bool) (a : Act) (w : World) (tv : Value) : Prop where
  defers : a.defers = []
  size : a.tmps.size = 47
  base : ∀ q ∈ base, a.tmps.getD q.1 undef = q.2
  below : Below W.heap.size W w
  vals : ∀ i, i < 13 → L.getD i false = true → ∀ d, qD i = some d → a.tmps.getD d undef = V tv i
  tag : L.getD 4 false = true → SlV w tv tag
theorem QIn.step {W : World} {base : List (Nat × Value)} {V : Value → Nat → Value} {tag : List Value} {L : Array Bool} {a : Act} {w w' : World} {tv tv' v : Value} {i d : Nat} (h : QIn W base V tag L a w tv) (hL : L.size = 13) (hi : i < 13) (hd : qD i = some d) (hd47 : d < 47) (hb : ∀ q ∈ base, q.1 ≠ d) (hv : v = V tv' i)
    (hV : ∀ j, j < 13 → L.getD j false = true → V tv' j = V tv j) (hw : Below w.heap.size w w') (ht : L.getD 4 false = true ∨ i = 4 → SlV w' tv' tag) : QIn W base V tag (L.setIfInBounds i true) (a.put (some d) v) w' tv' := by
  have hlt : d < a.tmps.size := by rw [h.size]; exact hd47
  refine ⟨by rw [put_defers]; exact h.defers, by rw [put_size]; exact h.size, fun q hq => ?_, h.below.trans (hw.mono h.below.size), fun j hjn hLj e he => ?_, fun h4 => ht ?_⟩
  · rw [put_get hlt, if_neg (hb q hq)]
    exact h.base q hq
  · rw [setF i j hL hi] at hLj
    rw [put_get hlt]
    by_cases hji : j = i
    · subst hji
      rw [hd] at he
      cases he
      rw [if_pos rfl, hv]
    · rw [if_neg hji] at hLj
      rw [if_neg (by intro e'; subst e'; exact qD_ne i hi j hjn hji (he.trans hd.symm)), h.vals j hjn hLj e he, hV j hjn hLj]
  · rw [setF i 4 hL hi] at h4
    by_cases h4i : 4 = i
    · exact .inr h4i.symm
    · rw [if_neg h4i] at h4; exact .inl h4
theorem aLd48 : aLoad Tryd.prog [roB stA] 48 (.ptr 0 0) = some (.a stA) := by kernel_rfl
theorem loadSt {w : World} {rb ro : Nat} {s : St} (h : At w rb ro s.vals) : (Instr.loadAt 48 (ptrTo rb ro)).run Tryd.prog w = .ok (.agg s.vals.toArray) w := by
  have hsym : SymOk (envZ s) s [] := envA_sym
  have hm0 : MRel (envZ s) (fun _ => (rb, ro)) w [roB stA] w := start1 rfl (at_lt h (by simp [St.vals])) (by
    show At w rb ro ((wsA _).map _)
    rw [(sT5 hsym).vals]; exact h)
  have := (aLoad_run aLd48 hm0).1
  rw [show ((A1.a stA).den (envZ s) fun _ => (rb, ro)) = .agg s.vals.toArray by show Value.agg _ = _; rw [show stA = wsA [sT 0, sT 1, sT 2, sT 3, sT 4] from rfl, (sT5 hsym).vals]] at this
  exact this
set_option maxHeartbeats 2000000 in
theorem open_last {m : Nat} (hm : m ≤ 2) {key c t : List B8} {s : St} (hk : key.length = klen m) (h16 : t.length = 16) {W : World} {kv u : Value} {mb mo kb ko kc rb ro : Nat} {a : Act} (hkv : SlV W kv (vals key)) (hca : At W kb ko (vals (c ++ t))) (hkc : c.length + 16 ≤ kc) (hmd : At W mb mo (modeW m)) (hst : At W rb ro s.vals)
    (hf : Fr 47 a (qBase kv (.slice (some ⟨kb, ko, none⟩) (c.length + 16) kc) (ptrTo mb mo) (.int .i64 (c.length : Int)) u (ptrTo rb ro))) {Q : Exit → Act → World → Prop}
    (hq : ∀ a' w', Fr 47 a' [(10, u), (11, .bool (decide (tagS m key s = t)))] → Below W.heap.size W w' → Q .normal a' w') : (Code.region 5 oQs true).wp Tryd.prog Q a W := by
  generalize hsv : Value.slice (some ⟨kb, ko, none⟩) (c.length + 16) kc = sv at hf
  generalize hhv : Value.slice (some ⟨kb, ko + c.length, none⟩) 16 (kc - c.length) = hv
  generalize htg : tagS m key s = tg at hq
  have hth : SlV W hv (vals t) := by
    rw [← hhv, show (16 : Nat) = (vals t).length by rw [vals_length, h16]]
    refine SlV.mk (b := kb) (o := ko + c.length) (cap := kc - c.length) (vs := vals t) ?_ (by rw [vals_length, h16]; omega)
    have := hca
    rw [vals_append] at this
    have h2 := (At.append.1 this).2
    rwa [vals_length] at h2
  let B := qBase kv sv (ptrTo mb mo) (.int .i64 (c.length : Int)) u (ptrTo rb ro)
  let V := qV (.agg (modeW m).toArray) (.agg s.vals.toArray) kv sv (.int .i64 (c.length : Int)) hv u (strB tg) (strB t) (.bool (decide (tg = t)))
  let I : Array Bool → Act → World → Value → Prop := QIn W B V (vals tg)
  refine region_inv mix (fun L a w => ∃ tv, I L a w tv) qClo qGd ?_ (fun L a w i o hL hi ho hLi hdep hcl hI => ?_) (fun L a w hL hall hI => ?_)
  · refine ⟨undef, hf.defers, hf.size, hf.get, ⟨rfl, rfl, rfl, Nat.le_refl _, fun _ _ => rfl⟩, fun i hi h => ?_, fun h => ?_⟩
    · rw [qSize, Array.getD_eq_getD_getElem?] at h; simp [hi] at h
    · rw [qSize, Array.getD_eq_getD_getElem?] at h; simp at h
  · obtain ⟨tv, hI⟩ := hI
    rw [qSize] at hL hi hcl
    have slot : ∀ {j d : Nat} {l : List Nat}, has oQs i l = true → j ∈ l → j < 13 → qD j = some d → a.tmps.getD d undef = V tv j := fun {j d l} h1 h2 h3 h4 => hI.vals j h3 (hdep j (has_mem h1 h2)) d h4
    have quiet : ∀ (d : Nat) (v : Value), i ≠ 4 → qD i = some d → d < 47 → v = V tv i → ∃ tv, I (L.setIfInBounds i true) (a.put (some d) v) w tv := fun d v h1 h4 h6 h7 =>
      ⟨tv, hI.step hL hi h4 h6 (qBase_ne hi h4) h7 (fun _ _ _ => rfl) (Below.refl _ _) fun h => h.elim hI.tag fun e => absurd e h1⟩
    have hb1 : ∀ {q : Nat × Value}, q ∈ B → a.tmps.getD q.1 undef = q.2 := fun {q} hq => hI.base q hq
    have hmw : At w mb mo (modeW m) := hmd.below hI.below
    have hsw : At w rb ro s.vals := hst.below hI.below
    rcases (show i = 0 ∨ i = 1 ∨ i = 2 ∨ i = 3 ∨ i = 4 ∨ i = 5 ∨ i = 6 ∨ i = 7 ∨ i = 8 ∨ i = 9 ∨ i = 10 ∨ i = 11 ∨ i = 12 by omega) with rfl | rfl | rfl | rfl | rfl | rfl | rfl | rfl | rfl | rfl | rfl | rfl | rfl
    · obtain ⟨e1, e2⟩ := opAt ho qOp0
      exact w_move e2 (e1 ▸ quiet 36 _ (by decide) rfl (by decide) (hb1 (q := (13, u)) (by simp [B, qBase])))
    · obtain ⟨e1, e2⟩ := opAt ho qOp1
      refine w_load e2 (v := .agg (modeW m).toArray) ?_ (e1 ▸ quiet 37 _ (by decide) rfl (by decide) rfl)
      rw [show a.eval (.tmp 5) = ptrTo mb mo from hb1 (q := (5, ptrTo mb mo)) (by simp [B, qBase])]
      exact loadMode hm hmw
    · obtain ⟨e1, e2⟩ := opAt ho qOp2
      refine w_load e2 (v := .agg s.vals.toArray) ?_ (e1 ▸ quiet 38 _ (by decide) rfl (by decide) rfl)
      rw [show a.eval (.tmp 14) = ptrTo rb ro from hb1 (q := (14, ptrTo rb ro)) (by simp [B, qBase])]
      exact loadSt hsw
    · obtain ⟨e1, e2⟩ := opAt ho qOp3
      exact w_move e2 (e1 ▸ quiet 39 _ (by decide) rfl (by decide) (hb1 (q := (1, kv)) (by simp [B, qBase])))
    · obtain ⟨e1, e2⟩ := opAt ho qOp4
      have s1 : a.tmps.getD 37 undef = .agg (modeW m).toArray := slot qHas4 (j := 1) (by simp) (by decide) rfl
      have s2 : a.tmps.getD 38 undef = .agg s.vals.toArray := slot qHas4 (j := 2) (by simp) (by decide) rfl
      have s3 : a.tmps.getD 39 undef = kv := slot qHas4 (j := 3) (by simp) (by decide) rfl
      refine w_call e2 (vs := #[.agg (modeW m).toArray, .agg s.vals.toArray, kv]) (fun _ _ => by kernel_rfl) ((map3 _ _ _ _).trans (by show #[a.tmps.getD 37 undef, a.tmps.getD 38 undef, a.tmps.getD 39 undef] = _; rw [s1, s2, s3])) ?_
      have hc := stag_calls (m := m) hm hk (st := s) (hkv.below hI.below)
      rw [htg] at hc
      refine Calls.mono hc fun e w' ⟨tv', he, hb, hsl⟩ => ⟨tv', he, e1 ▸ ⟨tv', hI.step hL (by decide) rfl (by decide) (qBase_ne (i := 4) (by decide) rfl) rfl (fun j hj hLj => ?_) hb fun _ => hsl⟩⟩
      rcases (show j = 0 ∨ j = 1 ∨ j = 2 ∨ j = 3 ∨ j = 4 ∨ j = 5 ∨ j = 6 ∨ j = 7 ∨ j = 8 ∨ j = 9 ∨ j = 10 ∨ j = 11 ∨ j = 12 by omega) with rfl | rfl | rfl | rfl | rfl | rfl | rfl | rfl | rfl | rfl | rfl | rfl | rfl <;> first | rfl | (rw [hLi] at hLj; cases hLj)
    · skip
      obtain ⟨e1, e2⟩ := opAt ho qOp5
      refine w_convert e2 (v := strB tg) ?_ (e1 ▸ quiet 41 _ (by decide) rfl (by decide) rfl)
      rw [show a.eval (.tmp 40) = tv from slot qHas5 (j := 4) (by simp) (by decide) rfl]
      exact conv_str (hI.tag (hdep 4 (has_mem qHas5 (by simp))))
    · obtain ⟨e1, e2⟩ := opAt ho qOp6
      exact w_move e2 (e1 ▸ quiet 42 _ (by decide) rfl (by decide) (hb1 (q := (3, sv)) (by simp [B, qBase])))
    · obtain ⟨e1, e2⟩ := opAt ho qOp7
      exact w_move e2 (e1 ▸ quiet 43 _ (by decide) rfl (by decide) (hb1 (q := (12, .int .i64 (c.length : Int))) (by simp [B, qBase])))
    · obtain ⟨e1, e2⟩ := opAt ho qOp8
      have s1 : a.eval (.tmp 42) = sv := slot qHas8 (j := 6) (by simp) (by decide) rfl
      have s2 : a.eval (.tmp 43) = .int .i64 (c.length : Int) := slot qHas8 (j := 7) (by simp) (by decide) rfl
      refine w_slice e2 (v := hv) ?_ (e1 ▸ quiet 44 _ (by decide) rfl (by decide) rfl)
      simp only [Option.map_none, Option.map_some]
      rw [s1, s2, ← hsv, ← hhv]
      have := cutHi w (b := kb) (o := ko) (n := c.length + 16) (c := kc) (l := c.length) (by omega) (by omega)
      rwa [show c.length + 16 - c.length = 16 by omega] at this
    · obtain ⟨e1, e2⟩ := opAt ho qOp9
      refine w_convert e2 (v := strB t) ?_ (e1 ▸ quiet 45 _ (by decide) rfl (by decide) rfl)
      rw [show a.eval (.tmp 44) = hv from slot qHas9 (j := 8) (by simp) (by decide) rfl]
      exact conv_str (hth.below hI.below)
    · obtain ⟨e1, e2⟩ := opAt ho qOp10
      refine w_binop e2 (v := .bool (decide (tg = t))) ?_ (e1 ▸ quiet 46 _ (by decide) rfl (by decide) rfl)
      rw [show a.eval (.tmp 41) = strB tg from slot qHas10 (j := 5) (by simp) (by decide) rfl, show a.eval (.tmp 45) = strB t from slot qHas10 (j := 9) (by simp) (by decide) rfl]
      exact eql_str w _ _ tg t
    · obtain ⟨e1, e2⟩ := opAt ho qOp11
      exact w_assign e2 (e1 ▸ quiet 10 _ (by decide) rfl (by decide) (slot qHas11 (j := 0) (by simp) (by decide) rfl))
    · obtain ⟨e1, e2⟩ := opAt ho qOp12
      exact w_assign e2 (e1 ▸ quiet 11 _ (by decide) rfl (by decide) (slot qHas12 (j := 10) (by simp) (by decide) rfl))
  · obtain ⟨tv, hI⟩ := hI
    rw [qSize] at hL hall
    refine hq a w ⟨hI.defers, hI.size, fun q hq => ?_⟩ hI.below
    simp only [List.mem_cons, List.not_mem_nil, or_false] at hq
    rcases hq with rfl | rfl
    · exact hI.vals 11 (by decide) (hall 11 (by decide)) 10 rfl
    · exact hI.vals 12 (by decide) (hall 12 (by decide)) 11 rfl
def oG (b : Bool) : Cfg := { ln := [(2, 5)], cm := [(.lss, 3, .o 5, .v (.int .i64 16), .v (.bool b)), (.sub, 3, .o 5, .v (.int .i64 16), .o 6)] }
noncomputable def oTest : Code := pA (pB o19)
theorem o19_top : o19 = .seq oR0 (.seq oTest (.seq oR3 (.seq (.region 4 oOps true) (.seq (.region 5 oQs true) .ret)))) := by kernel_rfl
def oL0 (m : Nat) : List (Nat × AV) := [(0, .one (.a (modeK m))), (1, opV 0), (2, opV 1), (3, opV 2), (4, opV 3)]
def oL1 : List (Nat × AV) := [(1, opV 0), (2, opV 1), (3, opV 2), (4, opV 3), (5, ptV 0)]
def oL2 : List (Nat × AV) := [(1, opV 0), (2, opV 1), (3, opV 2), (4, opV 3), (5, ptV 0), (12, opV 6)]
noncomputable def oHead (m : Nat) : Bool :=
  endsAt .nrm oL1 [owB (modeK m)] (aCode Tryd.prog (oG false) noK 47 100 oR0 (mkTr (oL0 m)) []) &&
  endsAt .nrm oL1 [owB (modeK m)] (aCode Tryd.prog (oG false) noK 47 100 oTest (mkTr oL1) [owB (modeK m)]) &&
  endsAt .nrm oL2 [owB (modeK m)] (aCode Tryd.prog (oG false) noK 47 100 oR3 (mkTr oL1) [owB (modeK m)])
theorem oHead_all : ([0, 1, 2].all oHead) = true := by kernel_rfl
noncomputable def oShort (m : Nat) : Bool :=
  endsF [.v (.c (.v (.slice none 0 0))), .v (.c (.v (.bool false)))] [] (runF Tryd.prog (oG true) noK 100 19 [.a (modeK m), .c (.o 0), .c (.o 1), .c (.o 2), .c (.o 3)] [])
theorem oShort_all : ([0, 1, 2].all oShort) = true := by kernel_rfl
def vlO (a b c d : Value) (n : Nat) : Nat → Value := fun i => match i with
  | 0 => a
  | 1 => b
  | 2 => c
  | 3 => d
  | 5 => .int .i64 (n : Int)
  | 6 => .int .i64 ((n : Int) - 16)
  | _ => .bool true
theorem vlO_one {a b c d : Value} {n : Nat} (h1 : a.oneCell' = true) (h2 : b.oneCell' = true) (h3 : c.oneCell' = true) (h4 : d.oneCell' = true) (i : Nat) : (vlO a b c d n i).oneCell' = true := by
  unfold vlO
  split <;> first | assumption | rfl
theorem oG_ok {E : Env} {w : World} {a : Option Addr} {n cap : Nat} (hE : EnvOk E) (hn : n ≤ 2147483647) (e2 : E.vl 2 = .slice a n cap) (e5 : E.vl 5 = .int .i64 (n : Int)) (e6 : E.vl 6 = .int .i64 ((n : Int) - 16)) : CfgOk Tryd.prog E w (oG (decide (n < 16))) :=
  ⟨hE, (fun p hp => nomatch hp), (fun p hp => nomatch hp), (fun p hp => by
    simp only [oG, List.mem_cons, List.not_mem_nil, or_false] at hp
    rcases hp with rfl | rfl
    · exact cm_int (fun _ => e5) (fun _ => rfl) fun w => run_lss3 w _ _ _ (by rw [decide_eq_true_eq]; exact propext (by omega))
    · exact one_bin (fun _ => e5) (fun _ => rfl) (fun _ => e6) rfl fun w => run_sub3 w _ _ _ rfl (by omega) (by omega)), (fun p hp => nomatch hp), (fun p hp => by
    simp only [oG, List.mem_cons, List.not_mem_nil, or_false] at hp
    subst hp
    exact ⟨a, n, cap, e2, e5⟩), (fun p hp => nomatch hp)⟩
theorem sopen_short {m : Nat} (hm : m ≤ 2) {key nonce data s : List B8} {w : World} {kv nv sv dv : Value} (hs : s.length < 16)
    (hkv : SlV w kv (vals key)) (hnv : SlV w nv (vals nonce)) (hsv : SlV w sv (vals s)) (hdv : SlV w dv (vals data)) :
    Calls Tryd.prog 19 #[.agg (modeW m).toArray, kv, nv, sv, dv] w fun e w' => e = .returned (.tuple #[.slice none 0 0, .bool false]) ∧ Below w.heap.size w w' := by
  obtain ⟨sa, sc, hsv'⟩ := slV_shape hsv
  have hE0 := envA_ok (st := st0) (blk := []) (rows := rowsN 0 0 0) (vl := vlO kv nv sv dv s.length) (vlO_one (slV_one hkv) (slV_one hnv) (slV_one hsv) (slV_one hdv)) (rowsN_le (by decide)) rowsN_one
  have ev : ∀ i, (envA st0 [] (rowsN 0 0 0) (vlO kv nv sv dv s.length)).vl i = vlO kv nv sv dv s.length i := fun _ => rfl
  generalize envA st0 [] (rowsN 0 0 0) (vlO kv nv sv dv s.length) = E at hE0 ev
  have hG : CfgOk Tryd.prog E w (oG true) := by
    have := oG_ok (w := w) (a := sa) (n := s.length) (cap := sc) hE0 (by omega) ((ev 2).trans hsv') (ev 5) (ev 6)
    rwa [decide_eq_true hs] at this
  have := fn_calls hG noK_ok mix (List.all_eq_true.1 oShort_all m (in3 hm)) (MRel.nil E (fun _ => (0, 0)) w) gok0 rfl
  have hargs : ([.a (modeK m), .c (.o 0), .c (.o 1), .c (.o 2), .c (.o 3)] : List A1).map (A1.den E fun _ => (0, 0)) = [.agg (modeW m).toArray, kv, nv, sv, dv] := by
    simp only [List.map_cons, List.map_nil, A1.den, AC.den, modeK_den]
    rw [ev 0, ev 1, ev 2, ev 3]; rfl
  rw [hargs] at this
  refine this.mono fun e w' ⟨bl', vs, he, hr, _, hm'⟩ => ⟨?_, hm'.below (by rfl)⟩
  rw [he]
  rcases hr with _ | ⟨r1, _ | ⟨r2, _ | _⟩⟩
  rw [r1, r2]
  rfl
theorem oRet_ok : endsR Tryd.prog [.tmp 10, .tmp 11] [.v (.c (.o 0)), .v (.c (.o 1))] [] (aCode Tryd.prog {} noK 47 100 .ret (mkTr [(10, opV 0), (11, opV 1)]) []) = true := by kernel_rfl
set_option maxHeartbeats 1000000 in
theorem sopen_calls {m : Nat} (hm : m ≤ 2) {key nonce data c t : List B8} (hk : key.length = klen m) (hn : nonce.length = 16) (h16 : t.length = 16) (hcl : c.length ≤ 1048576) (hdl : data.length ≤ 1048576) {w : World} {kv nv sv dv : Value}
    (hkv : SlV w kv (vals key)) (hnv : SlV w nv (vals nonce)) (hsv : SlV w sv (vals (c ++ t))) (hdv : SlV w dv (vals data)) :
    Calls Tryd.prog 19 #[.agg (modeW m).toArray, kv, nv, sv, dv] w fun e w' => ∃ u, e = .returned (.tuple #[u, .bool (decide (tagS m key (crypt (mdOf m) true (dataSt (mdOf m) (beginS m key nonce) data) c).2 = t))]) ∧ Below w.heap.size w w' ∧
      SlV w' u (vals (crypt (mdOf m) true (dataSt (mdOf m) (beginS m key nonce) data) c).1) := by
  obtain ⟨fn, hfn, hbody, hnt, hres⟩ : ∃ fn, Tryd.prog.funcs[19]? = some fn ∧ fn.body = some o19 ∧ fn.ntmps = 47 ∧ fn.results.toList = [.tmp 10, .tmp 11] := ⟨_, rfl, rfl, rfl, rfl⟩
  refine calls_of_wp hfn hbody ?_
  rw [hnt, o19_top]
  obtain ⟨kb, ko, kc, hsvv, hkc, hca, hkb⟩ := hsv.cons (fun e => by have := congrArg List.length e; rw [vals_length, List.length_append, h16] at this; simp at this)
  rw [vals_length, List.length_append, h16] at hkc hsvv
  have hE0 := envA_ok (st := st0) (blk := []) (rows := rowsN 0 0 0) (vl := vlO kv nv sv dv (c.length + 16)) (vlO_one (slV_one hkv) (slV_one hnv) (slV_one hsv) (slV_one hdv)) (rowsN_le (by decide)) rowsN_one
  have ev : ∀ i, (envA st0 [] (rowsN 0 0 0) (vlO kv nv sv dv (c.length + 16))).vl i = vlO kv nv sv dv (c.length + 16) i := fun _ => rfl
  generalize envA st0 [] (rowsN 0 0 0) (vlO kv nv sv dv (c.length + 16)) = E at hE0 ev
  have hG : CfgOk Tryd.prog E w (oG false) := by
    have := oG_ok (w := w) (n := c.length + 16) (cap := kc) hE0 (by omega) ((ev 2).trans hsvv) (ev 5) (ev 6)
    rwa [decide_eq_false (by omega)] at this
  have hst := start_rel (E := E) (w0 := w) (G := oG false) (nt := 47) (bl := fun _ => (0, 0)) (args := [.a (modeK m), .c (.o 0), .c (.o 1), .c (.o 2), .c (.o 3)]) (MRel.nil E _ w) gok0 (fun x hx => by
    simp only [List.mem_cons, List.not_mem_nil, or_false] at hx
    rcases hx with rfl | rfl | rfl | rfl | rfl <;> rfl) (by show 5 ≤ 47; decide)
  have hargs : ([.a (modeK m), .c (.o 0), .c (.o 1), .c (.o 2), .c (.o 3)] : List A1).map (A1.den E fun _ => (0, 0)) = [.agg (modeW m).toArray, kv, nv, sv, dv] := by
    simp only [List.map_cons, List.map_nil, A1.den, AC.den, modeK_den]
    rw [ev 0, ev 1, ev 2, ev 3]; rfl
  rw [hargs] at hst
  have v6 : vlO kv nv sv dv (c.length + 16) 6 = .int .i64 (c.length : Int) := by
    show Value.int .i64 (((c.length + 16 : Nat) : Int) - 16) = _
    congr 1; omega
  have hh := List.all_eq_true.1 oHead_all m (in3 hm)
  simp only [oHead, Bool.and_eq_true] at hh
  obtain ⟨⟨hh1, hh2⟩, hh3⟩ := hh
  refine wp_seq (code_wp hG noK_ok mix hh1 (by show 0 ≤ 1; decide) hst fun bl1 a1 w1 g1 h1 => ?_)
  refine wp_seq (code_wp hG noK_ok mix hh2 (by show 1 ≤ 1; decide) h1 fun bl2 a2 w2 g2 h2 => ?_)
  refine wp_seq (code_wp hG noK_ok mix hh3 (by show 1 ≤ 1; decide) h2 fun bl3 a3 w3 g3 h3 => ?_)
  have hf3 := h3.fr (by
    intro p hp
    simp only [oL2, List.mem_cons, List.not_mem_nil, or_false] at hp
    rcases hp with rfl | rfl | rfl | rfl | rfl | rfl <;> rfl)
  have hb3 : Below w.heap.size w w3 := h3.mem.below (by rfl)
  have m0 : At w3 (bl3 0).1 (bl3 0).2 (modeW m) := h3.mem.at (i := 0) (b := owB (modeK m)) rfl rfl
  have hfr : Fr 47 a3 (oBase kv nv (.slice (some ⟨kb, ko, none⟩) (c.length + 16) kc) dv (ptrTo (bl3 0).1 (bl3 0).2) (.int .i64 (c.length : Int))) := ⟨hf3.defers, hf3.size, fun p hp => by
    simp only [oBase, List.mem_cons, List.not_mem_nil, or_false] at hp
    rcases hp with rfl | rfl | rfl | rfl | rfl | rfl
    · rw [hf3.get (1, (opV 0).den E bl3) (by simp [denL, oL2])]; exact ev 0
    · rw [hf3.get (2, (opV 1).den E bl3) (by simp [denL, oL2])]; exact ev 1
    · rw [hf3.get (3, (opV 2).den E bl3) (by simp [denL, oL2])]; exact (ev 2).trans hsvv
    · rw [hf3.get (4, (opV 3).den E bl3) (by simp [denL, oL2])]; exact ev 3
    · rw [hf3.get (5, (ptV 0).den E bl3) (List.mem_map.2 ⟨(5, ptV 0), by simp [oL2], rfl⟩)]; exact ptV_den (E := E) rfl
    · rw [hf3.get (12, (opV 6).den E bl3) (by simp [denL, oL2])]
      exact (ev 6).trans v6⟩
  have hca' := hca
  rw [vals_append] at hca'
  refine wp_seq (open_region hm hk hn hcl hdl (hkv.below hb3) (hnv.below hb3) ((At.append.1 hca').1.below hb3) (by omega) (hdv.below hb3) m0 hfr fun a4 w4 u g cap rb ro hf4 hb4 hown hrn hgr hst4 => ?_)
  refine wp_seq (open_last hm hk h16 ((hkv.below hb3).below hb4) ((hca.below hb3).below hb4) (by omega) (m0.below hb4) hst4 (hf4.sub fun p hp => by
    simp only [qBase, List.mem_cons, List.not_mem_nil, or_false] at hp
    rcases hp with rfl | rfl | rfl | rfl | rfl | rfl <;> first | exact List.mem_append.2 (.inr (List.mem_cons_self ..)) | simp [oBase]) fun a5 w5 hf5 hb5 => ?_)
  have hu := (hown.sl).below hb5
  have hE2 := envA_ok (st := st0) (blk := []) (rows := rowsN 0 0 0) (vl := vl1 u (.bool (decide (tagS m key (crypt (mdOf m) true (dataSt (mdOf m) (beginS m key nonce) data) c).2 = t)))) (vl1_one (slV_one hu) rfl) (rowsN_le (by decide)) rowsN_one
  have ev2 : ∀ i, (envA st0 [] (rowsN 0 0 0) (vl1 u (.bool (decide (tagS m key (crypt (mdOf m) true (dataSt (mdOf m) (beginS m key nonce) data) c).2 = t))))).vl i = vl1 u (.bool (decide (tagS m key (crypt (mdOf m) true (dataSt (mdOf m) (beginS m key nonce) data) c).2 = t))) i := fun _ => rfl
  generalize envA st0 [] (rowsN 0 0 0) (vl1 u (.bool (decide (tagS m key (crypt (mdOf m) true (dataSt (mdOf m) (beginS m key nonce) data) c).2 = t)))) = E2 at hE2 ev2
  have hrun := oRet_ok
  rw [← hres] at hrun
  refine code_wpR (E := E2) (w0 := w5) (bl := fun _ => (0, 0)) (cfgOk0 (r := []) hE2 fun p hp => nomatch hp) noK_ok mix hrun (SRel.ofFr (by
    refine hf5.sub fun p hp => ?_
    simp only [denL, List.map_cons, List.map_nil, List.mem_cons, List.not_mem_nil, or_false] at hp
    rcases hp with rfl | rfl
    · rw [show (opV 0).den E2 (fun _ => (0, 0)) = u from ev2 0]; simp
    · rw [show (opV 1).den E2 (fun _ => (0, 0)) = _ from ev2 1]; simp [vl1]) rfl (MRel.nil E2 _ w5) gok0) fun bl' vs w6 _ hr hm' => ?_
  have hb6 : Below w5.heap.size w5 w6 := hm'.below (by rfl)
  rcases hr with _ | ⟨r1, _ | ⟨r2, _ | _⟩⟩
  rw [r1, r2]
  refine ⟨u, ?_, ((hb3.trans (hb4.mono hb3.size)).trans (hb5.mono (hb3.trans (hb4.mono hb3.size)).size)).trans (hb6.mono ((hb3.trans (hb4.mono hb3.size)).trans (hb5.mono (hb3.trans (hb4.mono hb3.size)).size)).size), hu.below hb6⟩
  show Ending.returned (.tuple #[(AC.o 0).den E2 bl', (AC.o 1).den E2 bl']) = _
  rw [show (AC.o 0).den E2 bl' = u from ev2 0, show (AC.o 1).den E2 bl' = _ from ev2 1]
  rfl
end Go.Proofs.YtfilandehjmikaaDoor.Asc
