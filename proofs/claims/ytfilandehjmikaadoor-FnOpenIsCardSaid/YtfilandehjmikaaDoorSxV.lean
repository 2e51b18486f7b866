/- A region whose order is drawn: if a few closed facts on its edges hold, the abstract run in the text's order serves for each order. No condition. -/
import Derived.Test.YtfilandehjmikaaDoorSxU
namespace Go.Proofs.YtfilandehjmikaaDoor.Sx
open Go.RowKit

def stepR (P : Program) (G : Cfg) (F : CallF) (nt : Nat) (ops : Array Oper) (tr : Tr) (m : List MB) (o : Oper) : Option (AV × List MB) := stepO P G F nt ops (restr (o.looksAt ops) tr.get) m o
def deps (ops : Array Oper) (j : Nat) : List Nat :=
  match ops[j]? with
  | some o => (o.after.toList.filter fun e => Region.binds .any e).map (·.on)
  | none => []
def maskOf (acc : List Nat) (o : Oper) : Nat :=
  o.after.toList.foldl (fun s e => match Region.binds .any e with
    | true => s ||| 2 ^ e.on ||| acc.getD e.on 0
    | false => s) 0
def masksOf (ops : Array Oper) : List Nat := ops.toList.foldl (fun acc o => acc ++ [maskOf acc o]) []
def cloOk (ops : Array Oper) (ms : List Nat) : Bool :=
  (List.range ops.size).all fun j => ((deps ops j).all fun d => Nat.blt d j) &&
    (List.range ops.size).all fun i => !(ms.getD j 0).testBit i || (deps ops j).any fun d => Nat.beq d i || (ms.getD d 0).testBit i
def namesOf (ops : Array Oper) (o : Oper) : List Nat := o.looksAt ops ++ o.dst.toList
def clash (ops : Array Oper) (x y : Oper) : Bool :=
  match x.dst with
  | some d => (namesOf ops y).any (Nat.beq d)
  | none => false
def effAt (ops : Array Oper) (i : Nat) : Bool :=
  match ops[i]? with
  | some o => !quietOp o
  | none => false
def dstAt (ops : Array Oper) (i : Nat) : Option Tmp := (ops[i]?).bind (·.dst)
def pairsOk (ops : Array Oper) (ms : List Nat) : Bool :=
  (List.range ops.size).all fun j => (List.range j).all fun i => (ms.getD j 0).testBit i ||
    (match ops[i]?, ops[j]? with
     | some x, some y => !clash ops x y && !clash ops y x && !(!quietOp x && !quietOp y)
     | _, _ => true)
/-- The abstract run in the text's order: what each operation yields, the frame and the memory ahead of it; and those behind all. -/
def lexRun (P : Program) (G : Cfg) (F : CallF) (nt : Nat) (ops : Array Oper) : List Oper → Tr → List MB → Option (List AV × List (Tr × List MB))
  | [], tr, m => some ([], [(tr, m)])
  | o :: l, tr, m => match stepR P G F nt ops tr m o with
    | some (u, m') => fOp o u fun u => fMem m' fun m' => putK tr o.dst u fun tr' => match lexRun P G F nt ops l tr' m' with
      | some (us, ss) => some (u :: us, (tr, m) :: ss)
      | none => none
    | none => none
def valsOk (P : Program) (G : Cfg) (F : CallF) (nt : Nat) (ops : Array Oper) (ms : List Nat) (us : List AV) (ss : List (Tr × List MB)) : Bool :=
  (List.range ops.size).all fun i => effAt ops i || (0 :: ((List.range ops.size).filter (effAt ops)).map (· + 1)).all fun p =>
    !((List.range ops.size).all fun e => !effAt ops e || ((!(ms.getD i 0).testBit e || Nat.blt e p) && (!(ms.getD e 0).testBit i || Nat.ble p e))) ||
    ((List.range ops.size).all fun e => !effAt ops e || (Nat.blt e p == Nat.blt e i)) ||
    (match ops[i]?, ss[i]?, ss[p]? with
     | some o, some (tr, _), some (_, m) => (match stepR P G F nt ops tr m o with
       | some (u, _) => u.beq (us.getD i undefV)
       | none => false)
     | _, _, _ => false)
def aDraw (P : Program) (G : Cfg) (F : CallF) (nt : Nat) (ops : Array Oper) (tr : Tr) (m : List MB) : Option (Tr × List MB) :=
  match lexRun P G F nt ops ops.toList tr m with
  | some (us, ss) =>
    if cloOk ops (masksOf ops) && pairsOk ops (masksOf ops) && valsOk P G F nt ops (masksOf ops) us ss then ss[ops.size]? else none
  | none => none

section
variable {P : Program} {E : Env} {w0 : World} {G : Cfg} {F : CallF} {nt : Nat} {ops : Array Oper}

theorem lexRun_spec : ∀ (l : List Oper) (tr : Tr) (m : List MB) (us : List AV) (ss : List (Tr × List MB)), lexRun P G F nt ops l tr m = some (us, ss) →
    us.length = l.length ∧ ss.length = l.length + 1 ∧ ss[0]? = some (tr, m) ∧
    ∀ (i : Nat) (o : Oper), l[i]? = some o → ∃ tri mi u mi', ss[i]? = some (tri, mi) ∧ us[i]? = some u ∧ stepR P G F nt ops tri mi o = some (u, mi') ∧ ss[i + 1]? = some (putT tri o.dst u, mi')
  | [], tr, m, us, ss, h => by
    cases h
    exact ⟨rfl, rfl, rfl, fun i o hi => by simp at hi⟩
  | o :: l, tr, m, us, ss, h => by
    unfold lexRun at h
    split at h
    · rename_i u m' hst
      rw [fOp_eq, fMem_eq, putK_eq] at h
      split at h
      · rename_i us' ss' hr
        cases h
        obtain ⟨h1, h2, h3, h4⟩ := lexRun_spec l _ _ _ _ hr
        refine ⟨by simp [h1], by simp [h2], rfl, fun i o' hi => ?_⟩
        cases i with
        | zero =>
          simp only [List.getElem?_cons_zero, Option.some.injEq] at hi
          subst hi
          exact ⟨tr, m, u, m', rfl, rfl, hst, by simpa using h3⟩
        | succ i =>
          simp only [List.getElem?_cons_succ] at hi
          obtain ⟨tri, mi, u', mi', g1, g2, g3, g4⟩ := h4 i o' hi
          exact ⟨tri, mi, u', mi', by simpa using g1, by simpa using g2, g3, by simpa using g4⟩
      · cases h
    · cases h

/-- The value of a temporary where just these operations have come up. -/
def lk (dst : Nat → Option Tmp) (U : Nat → AV) (tr0 : Tr) (t : Tmp) (L : Nat → Bool) : Nat → Option AV
  | 0 => tr0.get t
  | i + 1 => if L i = true ∧ dst i = some t then some (U i) else lk dst U tr0 t L i
section
variable {dst : Nat → Option Tmp} {U : Nat → AV} {tr0 : Tr} {t : Tmp}
theorem lk_congr {L L' : Nat → Bool} : ∀ n, (∀ i, i < n → dst i = some t → L i = L' i) → lk dst U tr0 t L n = lk dst U tr0 t L' n
  | 0, _ => rfl
  | n + 1, h => by
    unfold lk
    rw [lk_congr n fun i hi => h i (by omega)]
    by_cases hd : dst n = some t
    · simp only [hd, and_true, h n (by omega) hd]
    · simp only [hd, and_false]
theorem lk_below (L : Nat → Bool) (k : Nat) : ∀ n, k ≤ n → (∀ i, k ≤ i → i < n → dst i = some t → L i = false) → lk dst U tr0 t L n = lk dst U tr0 t L k
  | 0, hk, _ => by rw [Nat.le_zero.1 hk]
  | n + 1, hk, h => by
    rcases Nat.lt_or_ge n k with hlt | hge
    · rw [show k = n + 1 by omega]
    · unfold lk
      rw [if_neg (by rintro ⟨h1, h2⟩; rw [h n hge (by omega) h2] at h1; cases h1)]
      rw [lk_below L k n hge fun i h1 h2 => h i h1 (by omega)]
      cases k <;> rfl
theorem lk_at (L : Nat → Bool) (i n : Nat) (hi : i < n) (hL : L i = true) (hd : dst i = some t) (h : ∀ j, i < j → j < n → dst j = some t → L j = false) : lk dst U tr0 t L n = some (U i) := by
  rw [lk_below L (i + 1) n (by omega) fun j h1 h2 => h j (by omega) h2]
  unfold lk
  rw [if_pos ⟨hL, hd⟩]
end

theorem clo_listed {ms : List Nat} (hc : cloOk ops ms = true) {L : Nat → Bool} (hL : ∀ j, j < ops.size → L j = true → ∀ d ∈ deps ops j, L d = true) :
    ∀ j, j < ops.size → (∀ d ∈ deps ops j, L d = true) → ∀ i, i < ops.size → (ms.getD j 0).testBit i = true → L i = true := by
  intro j
  induction j using Nat.strongRecOn with
  | _ j ih =>
    intro hj hd i hi hb
    have h1 := List.all_eq_true.1 hc j (List.mem_range.2 hj)
    simp only [Bool.and_eq_true] at h1
    obtain ⟨hlt, h1⟩ := h1
    have h2 := List.all_eq_true.1 h1 i (List.mem_range.2 hi)
    simp only [hb, Bool.not_true, Bool.false_or] at h2
    obtain ⟨d, hdm, hh⟩ := List.any_eq_true.1 h2
    have hdj : d < j := by simpa using List.all_eq_true.1 hlt d hdm
    simp only [Bool.or_eq_true, Nat.beq_eq] at hh
    rcases hh with rfl | hh
    · exact hd _ hdm
    · exact ih d hdj (by omega) (hL d (by omega) (hd d hdm)) i hi hh

theorem countP_lt {p q : Nat → Bool} : ∀ {l : List Nat}, (∀ x ∈ l, q x = true → p x = true) → (∃ x ∈ l, p x = true ∧ q x = false) → l.countP q < l.countP p
  | [], _, ⟨x, hx, _⟩ => by cases hx
  | y :: l, h, ⟨x, hx, hp, hq⟩ => by
    have hle : l.countP q ≤ l.countP p := List.countP_mono_left fun z hz => h z (List.mem_cons_of_mem _ hz)
    rcases List.mem_cons.1 hx with rfl | hx'
    · rw [List.countP_cons_of_pos hp, List.countP_cons_of_neg (by simp [hq])]
      omega
    · have ih := countP_lt (fun z hz => h z (List.mem_cons_of_mem _ hz)) ⟨x, hx', hp, hq⟩
      by_cases hy : q y = true
      · rw [List.countP_cons_of_pos hy, List.countP_cons_of_pos (h y (List.mem_cons_self ..) hy)]
        omega
      · rw [List.countP_cons_of_neg hy]
        have : l.countP p ≤ (y :: l).countP p := by rw [List.countP_cons]; omega
        omega

theorem aDraw_sound (hE : CfgOk P E w0 G) (hF : CallOk P E w0 G F) (hmix : P.follows .mixedOrders = true) {Q : Exit → Act → World → Prop} {tr tr' : Tr} {m m' : List MB} {bl : Bl} {a : Act} {w : World} {id : Nat}
    (h : aDraw P G F nt ops tr m = some (tr', m')) (hs : SRel E bl w0 G nt tr m a w)
    (hq : ∀ bl' a' w', Agree m.length bl bl' → m.length ≤ m'.length → SRel E bl' w0 G nt tr' m' a' w' → Q .normal a' w') : (Code.region id ops true).wp P Q a w := by
  unfold aDraw at h
  split at h
  · rename_i us ss hlex
    split at h
    · rename_i hck
      simp only [Bool.and_eq_true] at hck
      obtain ⟨⟨hclo, hpair⟩, hval⟩ := hck
      obtain ⟨hlu, hls, hs0, hstep⟩ := lexRun_spec _ _ _ _ _ hlex
      generalize masksOf ops = ms at hclo hpair hval
      have hn : ops.toList.length = ops.size := Array.length_toList
      -- the text's order by numbers
      let TR : Nat → Tr := fun i => (ss.getD i (.lf, [])).1
      let ME : Nat → List MB := fun i => (ss.getD i (.lf, [])).2
      let U : Nat → AV := fun i => us.getD i undefV
      let D : Nat → Option Tmp := dstAt ops
      have step : ∀ i o, ops[i]? = some o → stepR P G F nt ops (TR i) (ME i) o = some (U i, ME (i + 1)) ∧ TR (i + 1) = putT (TR i) o.dst (U i) := fun i o hi => by
        obtain ⟨tri, mi, u, mi', g1, g2, g3, g4⟩ := hstep i o (by simpa using hi)
        simp only [TR, ME, U, List.getD_eq_getElem?_getD, g1, g2, g4, Option.getD_some]
        exact ⟨g3, trivial⟩
      have tr0 : TR 0 = tr := by simp only [TR, List.getD_eq_getElem?_getD, hs0, Option.getD_some]
      have me0 : ME 0 = m := by simp only [ME, List.getD_eq_getElem?_getD, hs0, Option.getD_some]
      have trn : TR ops.size = tr' := by simp only [TR, List.getD_eq_getElem?_getD, h, Option.getD_some]
      have men : ME ops.size = m' := by simp only [ME, List.getD_eq_getElem?_getD, h, Option.getD_some]
      have getO : ∀ i, i < ops.size → ∃ o, ops[i]? = some o := fun i hi => ⟨_, Array.getElem?_eq_getElem hi⟩
      have dAt : ∀ {i o}, ops[i]? = some o → D i = o.dst := fun {i o} hi => by simp only [D, dstAt, hi, Option.bind_some]
      -- what the frame holds in the text's order
      have lex_lk : ∀ i, i ≤ ops.size → ∀ t u, (TR i).get t = some u → lk D U tr t (fun _ => true) i = some u := by
        intro i
        induction i with
        | zero => intro _ t u hu; rw [tr0] at hu; exact hu
        | succ i ih =>
          intro hi t u hu
          obtain ⟨o, ho⟩ := getO i (by omega)
          rw [(step i o ho).2] at hu
          unfold lk
          have hd := dAt ho
          cases hdst : o.dst with
          | none =>
            rw [hdst] at hu hd
            rw [if_neg (by rw [hd]; simp)]
            exact ih (by omega) t u hu
          | some d =>
            rw [hdst] at hu hd
            rcases Tr.get_set _ _ _ _ _ _ hu with ⟨e1, e2⟩ | ⟨e1, e2⟩
            · subst e1; subst e2; rw [if_pos ⟨rfl, hd⟩]
            · rw [if_neg (by rw [hd]; rintro ⟨_, e⟩; exact e1 (Option.some.inj e).symm)]
              exact ih (by omega) t u e2
      -- the memory turns at the effects alone
      have memEq : ∀ p i, p ≤ ops.size → i ≤ ops.size → (∀ e, e < ops.size → effAt ops e = true → (e < p ↔ e < i)) → ME p = ME i := by
        have up : ∀ d p, p + d ≤ ops.size → (∀ e, p ≤ e → e < p + d → effAt ops e = false) → ME (p + d) = ME p := by
          intro d
          induction d with
          | zero => intro p _ _; rfl
          | succ d ih =>
            intro p hp he
            obtain ⟨o, ho⟩ := getO (p + d) (by omega)
            have hqo : quietOp o = true := by
              have := he (p + d) (by omega) (by omega)
              simpa [effAt, ho] using this
            have := stepO_quiet hqo (step (p + d) o ho).1
            rw [← Nat.add_assoc, this]
            exact ih p (by omega) fun e h1 h2 => he e h1 (by omega)
        intro p i hp hi he
        rcases Nat.le_total p i with hle | hle
        · have := up (i - p) p (by omega) fun e h1 h2 => by
            cases hx : effAt ops e with
            | false => rfl
            | true => have := (he e (by omega) hx).2 (by omega); omega
          rw [show p + (i - p) = i by omega] at this
          exact this.symm
        · have := up (p - i) i (by omega) fun e h1 h2 => by
            cases hx : effAt ops e with
            | false => rfl
            | true => have := (he e (by omega) hx).1 (by omega); omega
          rw [show i + (p - i) = p by omega] at this
          exact this
      -- pairs that clash wait for each other
      have pair : ∀ i j, i < j → j < ops.size → ∀ x y, ops[i]? = some x → ops[j]? = some y → (clash ops x y = true ∨ clash ops y x = true ∨ (quietOp x = false ∧ quietOp y = false)) → (ms.getD j 0).testBit i = true := by
        intro i j hij hj x y hx hy hc
        have h1 := List.all_eq_true.1 hpair j (List.mem_range.2 hj)
        have h2 := List.all_eq_true.1 h1 i (List.mem_range.2 hij)
        simp only [hx, hy, Bool.or_eq_true, Bool.and_eq_true, Bool.not_eq_true'] at h2
        rcases h2 with h2 | ⟨⟨h2, h3⟩, h4⟩
        · exact h2
        · rcases hc with hc | hc | ⟨h5, h6⟩
          · rw [hc] at h2; cases h2
          · rw [hc] at h3; cases h3
          · rw [h5, h6] at h4; simp at h4
      have clashD : ∀ {x y : Oper} {d : Tmp}, x.dst = some d → d ∈ namesOf ops y → clash ops x y = true := fun {x y d} h1 h2 => by
        unfold clash
        rw [h1]
        exact List.any_eq_true.2 ⟨d, h2, by simp⟩
      -- the invariant
      let Inv : Array Bool → Act → World → Prop := fun L a w =>
        L.size = ops.size ∧ (∀ j, j < ops.size → L.getD j false = true → ∀ d ∈ deps ops j, L.getD d false = true) ∧
        ∃ bl' p, Agree m.length bl bl' ∧ p ≤ ops.size ∧ (p = 0 ∨ ∃ e, effAt ops e = true ∧ e < ops.size ∧ p = e + 1) ∧ m.length ≤ (ME p).length ∧ (∀ e, e < ops.size → effAt ops e = true → (L.getD e false = true ↔ e < p)) ∧
          MRel E bl' w0 (ME p) w ∧ GOk G.g bl' (ME p).length ∧ a.defers = [] ∧ a.tmps.size = nt ∧
          ∀ t u, lk D U tr t (fun i => L.getD i false) ops.size = some u → a.tmps.getD t undef = u.den E bl' ∧ u.wf (ME p).length = true
      have getF : ∀ {L : Array Bool} {i : Nat}, L.size = ops.size → i < ops.size → L.getD i true = false → L.getD i false = false := fun {L i} h1 h2 h3 => by
        simp [h1, h2] at h3 ⊢; exact h3
      have setF : ∀ {L : Array Bool} (i j : Nat), L.size = ops.size → i < ops.size → (L.setIfInBounds i true).getD j false = if j = i then true else L.getD j false := fun {L} i j h1 h2 => by
        simp only [Array.getD_eq_getD_getElem?, Array.getElem?_setIfInBounds]
        by_cases hij : i = j
        · subst hij; simp [h1, h2]
        · simp [hij, Ne.symm hij]
      have done : ∀ L a w, Inv L a w → (∀ i, i < ops.size → L.getD i false = true) → Q .normal a w := by
        intro L a w ⟨hsz, _, bl', p, ha, hp, _, hml, heff, hm, hg, hdf, hts, ht⟩ hall
        have e1 : ME p = ME ops.size := memEq p ops.size hp (Nat.le_refl _) fun e he hx => by
          have := heff e he hx
          have := hall e he
          simp_all
        rw [e1, men] at hm hg hml ht
        refine hq bl' a w ha hml ⟨hdf, hts, fun t u hu => ?_, hm, hg⟩
        refine ht t u ?_
        rw [lk_congr (L' := fun _ => true) _ fun i hi _ => hall i hi]
        exact lex_lk ops.size (Nat.le_refl _) t u (by rw [trn]; exact hu)
      have noneLeft : ∀ L : Array Bool, L.size = ops.size → Region.ready .any ops L = [] → ∀ i, i < ops.size → L.getD i false = true := by
        intro L hsz hr i
        induction i using Nat.strongRecOn with
        | _ i ih =>
          intro hi
          cases hx : L.getD i false with
          | true => rfl
          | false =>
            obtain ⟨o, ho⟩ := getO i hi
            have hmem : i ∈ Region.ready .any ops L := by
              refine mem_ready.2 ⟨?_, o, ho, fun e he hb => ?_⟩
              · simp [hsz, hi] at hx ⊢; exact hx
              · have hd : e.on ∈ deps ops i := by
                  simp only [deps, ho]
                  exact List.mem_map.2 ⟨e, List.mem_filter.2 ⟨by simpa using he, hb⟩, rfl⟩
                have h1 := List.all_eq_true.1 hclo i (List.mem_range.2 hi)
                simp only [Bool.and_eq_true] at h1
                have hlt : e.on < i := by simpa using List.all_eq_true.1 h1.1 _ hd
                exact ih _ hlt (by omega)
            rw [hr] at hmem
            cases hmem
      have main : ∀ fuel L a w, Inv L a w → (List.range ops.size).countP (fun i => !L.getD i false) ≤ fuel → wpAny P .any ops Q fuel L a w := by
        intro fuel
        induction fuel with
        | zero =>
          intro L a w hI hc
          have hall : ∀ i, i < ops.size → L.getD i false = true := fun i hi => by
            have := List.countP_eq_zero.1 (Nat.le_zero.1 hc) i (List.mem_range.2 hi)
            simpa using this
          refine ⟨?_, done L a w hI hall⟩
          cases hr : Region.ready .any ops L with
          | nil => rfl
          | cons i l =>
            have hmem : i ∈ Region.ready .any ops L := by rw [hr]; simp
            obtain ⟨h1, o, ho, _⟩ := mem_ready.1 hmem
            have hi : i < ops.size := (Array.getElem?_eq_some_iff.1 ho).1
            have := getF hI.1 hi h1
            rw [hall i hi] at this
            cases this
        | succ fuel ih =>
          intro L a w hI hc
          refine ⟨fun hr => done L a w hI (noneLeft L hI.1 hr), fun i hmem => ?_⟩
          obtain ⟨hun, o, ho, hdep⟩ := mem_ready.1 hmem
          have hi : i < ops.size := (Array.getElem?_eq_some_iff.1 ho).1
          obtain ⟨hsz, hcl, bl', p, ha, hp, hcan, hml, heff, hm, hg, hdf, hts, ht⟩ := hI
          have hiF := getF hsz hi hun
          have hdeps : ∀ d ∈ deps ops i, L.getD d false = true := fun d hd => by
            simp only [deps, ho] at hd
            obtain ⟨e, he, rfl⟩ := List.mem_map.1 hd
            obtain ⟨he1, he2⟩ := List.mem_filter.1 he
            exact hdep e (by simpa using he1) he2
          have cloI : ∀ j, j < ops.size → (ms.getD i 0).testBit j = true → L.getD j false = true := clo_listed hclo (L := fun k => L.getD k false) hcl i hi hdeps
          have cloJ : ∀ j, j < ops.size → (ms.getD j 0).testBit i = true → L.getD j false = false := fun j hj hb => by
            cases hx : L.getD j false with
            | false => rfl
            | true =>
              have := clo_listed hclo (L := fun k => L.getD k false) hcl j hj (hcl j hj hx) i hi hb
              rw [show L.getD i false = false from hiF] at this
              cases this
          -- whoever clashes with it: listed just if ahead of it in the text
          have near : ∀ j y, ops[j]? = some y → j ≠ i → (clash ops y o = true ∨ clash ops o y = true ∨ (quietOp y = false ∧ quietOp o = false)) → L.getD j false = decide (j < i) := fun j y hy hne hcl' => by
            have hj : j < ops.size := (Array.getElem?_eq_some_iff.1 hy).1
            rcases Nat.lt_or_ge j i with hlt | hge
            · rw [decide_eq_true hlt]
              exact cloI j hj (pair j i hlt hi y o hy ho hcl')
            · rw [decide_eq_false (by omega)]
              exact cloJ j hj (pair i j (by omega) hj o y ho hy (by
                rcases hcl' with h1 | h1 | ⟨h1, h2⟩
                · exact .inr (.inl h1)
                · exact .inl h1
                · exact .inr (.inr ⟨h2, h1⟩)))
          have look : ∀ t ∈ o.looksAt ops, ∀ u, (TR i).get t = some u → lk D U tr t (fun k => L.getD k false) ops.size = some u := fun t ht' u hu => by
            rw [lk_congr (L' := fun k => decide (k < i)) _ fun j hj hd => ?_]
            · rw [lk_below _ i ops.size (by omega) fun j h1 h2 _ => decide_eq_false (by omega)]
              rw [lk_congr (L' := fun _ => true) _ fun j hj _ => decide_eq_true hj]
              exact lex_lk i (by omega) t u hu
            · by_cases hji : j = i
              · subst hji; simp [hiF]
              · obtain ⟨y, hy⟩ := getO j hj
                rw [dAt hy] at hd
                exact near j y hy hji (.inl (clashD hd (List.mem_append_left _ ht')))
          have hT : ∀ t ∈ o.looksAt ops, ∀ v, (TR i).get t = some v → a.tmps.getD t undef = v.den E bl' ∧ v.wf (ME p).length = true := fun t ht' v hv => ht t v (look t ht' v hv)
          have hT' : TOk E bl' (ME p).length (restr (o.looksAt ops) (TR i).get) a := fun t v hv => by
            obtain ⟨g1, g2⟩ := restr_some hv
            exact hT t g1 v g2
          -- what comes behind
          have next : ∀ (p' : Nat) (bl1 : Bl) (w1 : World), p' ≤ ops.size → (p' = 0 ∨ ∃ e, effAt ops e = true ∧ e < ops.size ∧ p' = e + 1) → (ME p).length ≤ (ME p').length → Agree (ME p).length bl' bl1 → MRel E bl1 w0 (ME p') w1 → (U i).wf (ME p').length = true →
              (∀ e, e < ops.size → effAt ops e = true → ((if e = i then true else L.getD e false) = true ↔ e < p')) → dstOk nt o.dst = true →
              wpAny P .any ops Q fuel (L.setIfInBounds i true) (a.put o.dst ((U i).den E bl1)) w1 := by
            intro p' bl1 w1 hp' hcan' hlen ha1 hm1 hu1 heff' hdst
            refine ih _ _ _ ⟨by simp [hsz], ?_, bl1, p', ha.trans ha1 hml, hp', hcan', Nat.le_trans hml hlen, ?_, hm1, hg.agree ha1 hlen, by rw [put_defers]; exact hdf, by rw [put_size]; exact hts, ?_⟩ ?_
            · intro j hj hLj d hd
              rw [setF i j hsz hi] at hLj
              rw [setF i d hsz hi]
              by_cases hdi : d = i
              · rw [if_pos hdi]
              · rw [if_neg hdi]
                by_cases hji : j = i
                · subst hji; exact hdeps d hd
                · rw [if_neg hji] at hLj; exact hcl j hj hLj d hd
            · intro e he hx
              rw [setF i e hsz hi]
              exact heff' e he hx
            · intro t v hv
              rw [lk_congr (L' := fun k => if k = i then true else L.getD k false) _ fun j _ _ => setF i j hsz hi] at hv
              by_cases hdt : o.dst = some t
              · rw [lk_at _ i ops.size hi (by simp) (by rw [dAt ho]; exact hdt) fun j h1 h2 hd => by
                  obtain ⟨y, hy⟩ := getO j h2
                  rw [if_neg (by omega)]
                  rw [dAt hy] at hd
                  have := near j y hy (by omega) (.inl (clashD hd (List.mem_append_right _ (by rw [hdt]; simp))))
                  rw [this]; exact decide_eq_false (by omega)] at hv
                cases hv
                rw [hdt] at hdst ⊢
                have hlt : t < a.tmps.size := by rw [hts]; simpa [dstOk] using hdst
                rw [put_get hlt, if_pos rfl]
                exact ⟨rfl, hu1⟩
              · rw [lk_congr (L' := fun k => L.getD k false) _ fun j hj hd => by
                  by_cases hji : j = i
                  · subst hji; rw [dAt ho] at hd; exact absurd hd hdt
                  · rw [if_neg hji]] at hv
                obtain ⟨e1, e2⟩ := ht t v hv
                refine ⟨?_, AV.wf_mono hlen e2⟩
                rw [AV.den_agree ha1 e2, ← e1]
                cases hdd : o.dst with
                | none => rfl
                | some d =>
                  have hlt : d < a.tmps.size := by rw [hts]; rw [hdd] at hdst; simpa [dstOk] using hdst
                  rw [put_get hlt, if_neg (by intro e; apply hdt; rw [hdd, e])]
            · have hlt := countP_lt (l := List.range ops.size) (p := fun k => !L.getD k false) (q := fun k => !(L.setIfInBounds i true).getD k false) (fun x _ hx => by
                  rw [setF i x hsz hi] at hx
                  by_cases hxi : x = i
                  · simp [hxi] at hx
                  · simpa [hxi] using hx) ⟨i, List.mem_range.2 hi, by rw [show L.getD i false = false from hiF]; rfl, by rw [setF i i hsz hi]; simp⟩
              omega
          show wpOp P ops Q i _ a w
          unfold wpOp
          simp only [ho]
          by_cases hqo : quietOp o = true
          · -- it leaves the memory as it is
            have hne : effAt ops i = false := by simp [effAt, ho, hqo]
            have hval' := List.all_eq_true.1 hval i (List.mem_range.2 hi)
            simp only [hne, Bool.false_or] at hval'
            have hpin : p ∈ (0 :: ((List.range ops.size).filter (effAt ops)).map (· + 1)) := by
              rcases hcan with rfl | ⟨e, he1, he2, rfl⟩
              · simp
              · exact List.mem_cons_of_mem _ (List.mem_map.2 ⟨e, List.mem_filter.2 ⟨List.mem_range.2 he2, he1⟩, rfl⟩)
            have hv := List.all_eq_true.1 hval' p hpin
            simp only [Bool.or_eq_true, Bool.not_eq_true'] at hv
            have hcons : ((List.range ops.size).all fun e => !effAt ops e || ((!(ms.getD i 0).testBit e || Nat.blt e p) && (!(ms.getD e 0).testBit i || Nat.ble p e))) = true := by
              refine List.all_eq_true.2 fun e he => ?_
              have he' := List.mem_range.1 he
              cases hx : effAt ops e with
              | false => rfl
              | true =>
                have h1 := heff e he' hx
                simp only [Bool.not_true, Bool.false_or, Bool.and_eq_true, Bool.or_eq_true, Bool.not_eq_true', Nat.blt_eq, Nat.ble_eq]
                refine ⟨?_, ?_⟩
                · cases hb : (ms.getD i 0).testBit e with
                  | false => exact .inl rfl
                  | true => exact .inr (h1.1 (cloI e he' hb))
                · cases hb : (ms.getD e 0).testBit i with
                  | false => exact .inl rfl
                  | true =>
                    refine .inr ?_
                    have := cloJ e he' hb
                    have h2 : ¬ e < p := fun hlt => by rw [h1.2 hlt] at this; cases this
                    omega
            rw [hcons] at hv
            have hstp : stepR P G F nt ops (TR i) (ME p) o = some (U i, ME p) := by
              rcases hv with (hv | hv) | hv
              · cases hv
              · have e1 : ME p = ME i := memEq p i hp (by omega) fun e he hx => by
                  have := List.all_eq_true.1 hv e (List.mem_range.2 he)
                  simp only [hx, Bool.not_true, Bool.false_or, beq_iff_eq] at this
                  have h1 : Nat.blt e p = true ↔ e < p := Iff.of_eq Nat.blt_eq
                  have h2 : Nat.blt e i = true ↔ e < i := Iff.of_eq Nat.blt_eq
                  rw [← h1, ← h2, this]
                have := (step i o ho).1
                rw [e1, this, stepO_quiet hqo this]
              · obtain ⟨tri, mi, u, mi', g1, g2, g3, g4⟩ := hstep i o (by simpa using ho)
                have hssp : ∃ q, ss[p]? = some q := ⟨_, List.getElem?_eq_getElem (by omega)⟩
                obtain ⟨q, hq'⟩ := hssp
                simp only [ho, g1, hq'] at hv
                have eTR : TR i = tri := by simp only [TR, List.getD_eq_getElem?_getD, g1, Option.getD_some]
                have eME : ME p = q.2 := by simp only [ME, List.getD_eq_getElem?_getD, hq', Option.getD_some]
                rw [eTR, eME]
                split at hv
                · rename_i u' m1 hst'
                  rw [hst', stepO_quiet hqo hst', AV.beq_eq hv]
                · cases hv
            refine stepO_wp hE hF hstp hm hg hT' fun bl1 w1 ha1 hm1 hu1 _ => ?_
            refine next p bl1 w1 hp hcan (Nat.le_refl _) ha1 hm1 hu1 (fun e he hx => ?_) (stepO_dst hstp)
            rw [if_neg (by rintro rfl; rw [hne] at hx; cases hx)]
            exact heff e he hx
          · -- it turns the memory
            have hef : effAt ops i = true := by simp [effAt, ho, hqo]
            have hqf : quietOp o = false := by simpa using hqo
            have e1 : ME p = ME i := memEq p i hp (by omega) fun e he hx => by
              rw [← heff e he hx]
              by_cases hei : e = i
              · subst hei; simp [hiF]
              · obtain ⟨y, hy⟩ := getO e he
                have hqy : quietOp y = false := by simpa [effAt, hy] using hx
                rw [near e y hy hei (.inr (.inr ⟨hqy, hqf⟩))]
                simp
            have hst := (step i o ho).1
            rw [← e1] at hst
            refine stepO_wp hE hF hst hm hg hT' fun bl1 w1 ha1 hm1 hu1 hl1 => ?_
            refine next (i + 1) bl1 w1 (by omega) (.inr ⟨i, hef, hi, rfl⟩) hl1 ha1 hm1 hu1 (fun e he hx => ?_) (stepO_dst hst)
            by_cases hei : e = i
            · subst hei; simp
            · rw [if_neg hei]
              obtain ⟨y, hy⟩ := getO e he
              have hqy : quietOp y = false := by simpa [effAt, hy] using hx
              rw [near e y hy hei (.inr (.inr ⟨hqy, hqf⟩))]
              simp only [decide_eq_true_eq]
              omega
      refine wp_region_any hmix (main ops.size _ a { w with drawn := w.drawn + 1 } ⟨by simp, fun j hj hL => ?_, bl, 0, Agree.refl _ _, Nat.zero_le _, .inl rfl, by rw [me0]; exact Nat.le_refl _, fun e he hx => ?_, by rw [me0]; exact hs.mem.drew, by rw [me0]; exact hs.glob, hs.defers, hs.size, fun t u hu => ?_⟩ ?_)
      · rw [Array.getD_eq_getD_getElem?] at hL; simp [hj] at hL
      · rw [Array.getD_eq_getD_getElem?]; simp [he]
      · rw [lk_below _ 0 ops.size (Nat.zero_le _) fun i _ h2 _ => by rw [Array.getD_eq_getD_getElem?]; simp [h2]] at hu
        rw [me0]
        exact hs.tmps t u hu
      · exact Nat.le_trans List.countP_le_length (by simp)
    · cases h
  · cases h
end
end Go.Proofs.YtfilandehjmikaaDoor.Sx
