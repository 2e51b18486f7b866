/- From a closed run to a law's row: arrays of integers by value opened and shut, the row's last step where only new blocks were written, a law's call by one closed run. No condition. -/
import Derived.Test.YtfilandehjmikaaDoorSxX
import Derived.Below
import Derived.ChangeSame
import Derived.JoinedOf
import Derived.JoinedAt
import Derived.RowKit3
import Derived.OpenShut
namespace Go.Proofs.YtfilandehjmikaaDoor.Sx
open Go.ChangeShapes Go.WideShapes Go.ChangeAt Go.RowKit

section
variable {H : Type} {enc : TypeId × Value → H} {P : Program}
theorem post_below {f : Func} {s : ChangeSpec} {apart fresh handsOn again : Bool} {W W' : World} {args : Array Value} {v : Value} {ds gs : List (DataW H)} {before pa pv : List MemPlace}
    (hW : DataW.Whole enc P f.params.toList s.vars apart W args.toList ds gs before)
    (hres : ∀ (b : Nat) (sp : Nat → Bool) (hd : Bool), DataW.TrodAll enc P W' b sp hd f.resultTypes.toList (v.resultList f.resultTypes.size) (s.fn H (ds ++ gs)).results [])
    (hargs : ∀ sp : Nat → Bool, (∀ p ∈ before, sp p.block = true) → DataW.TrodAll enc P W' 0 sp true f.params.toList args.toList (s.fn H (ds ++ gs)).args pa)
    (hvars : ∀ sp : Nat → Bool, (∀ p ∈ before, sp p.block = true) → DataW.TrodVars enc P W' sp s.vars (s.fn H (ds ++ gs)).vars pv)
    (hps : before = pa ++ pv) (hb : Below W.heap.size W W')
    (hok : ∀ (j : Nat) (t : TypeId) (r : Value), f.resultTypes[j]? = some t → (v.resultList f.resultTypes.size)[j]? = some r → Value.okWide P W' .any 0 t r) :
    s.post enc P f apart fresh handsOn again W args v W' := by
  have hlt : ∀ p ∈ before, p.block < W.heap.size := fun p hp => hW.lt p hp
  have hold : ∀ p ∈ before, (fun b => decide (b < W.heap.size)) p.block = true := fun p hp => by simpa using hlt p hp
  refine ⟨ds, gs, before, [], pa, pv, hW, hres _ _ _, hargs _ hold, hvars _ hold, World.keptBut_mono (fun p hp => ⟨hp, ?_⟩) (hb.frame (· ∈ before)), fun _ => ?_⟩
  · rw [hps, List.mem_append] at hp
    exact Or.inr hp
  · obtain ⟨_, _, _, _, _, hz, hn⟩ := hW
    refine ⟨hok, _, _, ([] ++ pa) ++ pv, ⟨[] ++ pa, pv, trodAll_append (hargs _ (fun _ _ => rfl)) (hres _ _ _), hvars _ (fun _ _ => rfl), rfl, ?_, ?_⟩, ?_⟩
    · intro b off hp
      have hin : MemPlace.cell b off ∈ before := by rw [hps]; simpa using hp
      rw [hb.frozen (hlt _ hin)]
      exact hz b off hin
    · intro ha
      have := hn ha
      rw [hps] at this
      simpa using this
    · intro p hp _
      rw [hps]
      simpa using hp

theorem mapM_range {α : Type} {f : Nat → Option α} {l : List α} (h : ∀ i, i < l.length → f i = l[i]?) : ∀ n, n ≤ l.length → (List.range n).mapM f = some (l.take n)
  | 0, _ => rfl
  | n + 1, hn => by
    have hlt : n < l.length := by omega
    rw [List.range_succ, List.mapM_append, mapM_range h n (by omega), List.mapM_cons, h n hlt, List.getElem?_eq_getElem hlt, List.take_add_one, List.getElem?_eq_getElem hlt]
    rfl
variable {W w : World} {base b0 : Nat} {t e : TypeId} {n : Nat} {k : IntKind} {sp : Nat → Bool} {held : Bool} {v : Value} {d : DataW H} {p : List MemPlace}
/-- An array of integers by value, opened. -/
theorem open_ints (ht : P.underlying t = some (.array n e)) (he : P.underlying e = some (.int k)) (hce : P.cellsOf e = 1) (hct : P.cellsOf t = n) {r : Reach} (hok : Value.okWide P W r base t v)
    (h : DataW.Trod enc P w b0 sp held t v d p) : ∃ xs : List Int, xs.length = n ∧ v = .agg (xs.map (Value.int k)).toArray ∧ d = .agg (xs.map fun x => .lit (.int k x)) ∧ p = [] ∧ ∀ x ∈ xs, (Lit.int k x).wf = true := by
  obtain ⟨cs, rfl, hsz, _⟩ : ∃ cs, v = .agg cs ∧ cs.size = P.cellsOf t ∧ Row.okWide P W r base t cs := by
    simpa [Value.okWide, ht] using hok
  obtain ⟨fuel, hf⟩ := h
  obtain ⟨ys, m, rfl, hx, hl, hyl, hy⟩ := DataW.trod_array ht hf
  obtain ⟨l⟩ := cs
  simp only [Value.cells, hct] at hl hsz hy hf
  have one : ∀ i, i < n → ∃ x, l[i]? = some (.int k x) ∧ ys[i]? = some (.lit (.int k x), []) ∧ (Lit.int k x).wf = true := fun i hi => by
    have h1 := hy i hi
    rw [hce, Nat.mul_one] at h1
    have hli : i < l.length := by simpa [hl] using hi
    rw [show (l.drop i).take 1 = [l[i]] by rw [List.drop_eq_getElem_cons hli]; rfl] at h1
    rw [List.getElem?_eq_getElem (by rw [hyl]; exact hi)] at h1
    obtain ⟨x, e0, e1, w0⟩ := DataW.trod_int he h1
    refine ⟨x, ?_, ?_, w0⟩
    · rw [List.getElem?_eq_getElem hli]
      simp at e0
      rw [e0]
    · rw [List.getElem?_eq_getElem (by rw [hyl]; exact hi), e1]
  let xs : List Int := l.map fun c => match c with
    | .int _ x => x
    | _ => 0
  have hxs : ∀ (i : Nat) (x : Int), l[i]? = some (.int k x) → xs[i]? = some x := fun i x hi => by simp only [xs, List.getElem?_map, hi, Option.map_some]
  have hxl : xs.length = n := by simpa [xs] using hl
  have eqL : l = xs.map (Value.int k) := by
    apply List.ext_getElem?
    intro i
    by_cases hi : i < n
    · obtain ⟨x, h1, _, _⟩ := one i hi
      rw [h1, List.getElem?_map, hxs i x h1]; rfl
    · rw [List.getElem?_eq_none (by simpa [hl] using hi), List.getElem?_eq_none (by simp [hxl]; omega)]
  have eqY : ys = xs.map fun x => (.lit (.int k x), []) := by
    apply List.ext_getElem?
    intro i
    by_cases hi : i < n
    · obtain ⟨x, h1, h2, _⟩ := one i hi
      rw [h2, List.getElem?_map, hxs i x h1]; rfl
    · rw [List.getElem?_eq_none (by omega), List.getElem?_eq_none (by simp [hxl]; omega)]
  refine ⟨xs, hxl, by rw [← eqL], ?_, ?_, fun x hx => ?_⟩
  · cases hx; rw [eqY]; simp
  · cases hx; rw [eqY]; simp
  · obtain ⟨i, hi⟩ := List.getElem?_of_mem hx
    have hlt : i < n := by rw [← hxl]; exact (List.getElem?_eq_some_iff.1 hi).1
    obtain ⟨y, h1, _, h3⟩ := one i hlt
    have := (hxs i y h1).symm.trans hi
    cases this
    exact h3
/-- .. and shut, in any world. -/
theorem shut_ints (ht : P.underlying t = some (.array n e)) (he : P.underlying e = some (.int k)) (hce : P.cellsOf e = 1) (hct : P.cellsOf t = n) {xs : List Int} (hl : xs.length = n) (hwf : ∀ x ∈ xs, (Lit.int k x).wf = true) :
    DataW.Trod enc P w b0 sp held t (.agg (xs.map (Value.int k)).toArray) (.agg (xs.map fun x => .lit (.int k x))) [] := by
  refine ⟨2, ?_⟩
  have hm := mapM_range (f := fun i => DataW.trod enc P w b0 sp held 1 e (((xs.map (Value.int k)).drop (i * P.cellsOf e)).take (P.cellsOf e))) (l := xs.map fun x => ((.lit (.int k x), []) : DataW H × List MemPlace)) (fun i hi => by
    have hi' : i < (xs.map (Value.int k)).length := by simpa using hi
    have hx : i < xs.length := by simpa using hi
    rw [hce, Nat.mul_one, show ((xs.map (Value.int k)).drop i).take 1 = [.int k xs[i]] by rw [List.drop_eq_getElem_cons hi']; simp]
    rw [List.getElem?_map, List.getElem?_eq_getElem hx]
    have := hwf xs[i] (List.getElem_mem hx)
    simp [DataW.trod, he, this]) n (by simp [hl])
  rw [List.take_of_length_le (by simp [hl])] at hm
  unfold DataW.trod
  rw [ht]
  have hcl : (xs.map (Value.int k)).length = n := by simpa using hl
  simp only [Value.cells, hct, hcl, if_true, hm, Option.map_some]
  simp
end

/-- A run that answers true and writes nothing that was there. -/
def endsTrue (r : Option (AV × List MB)) : Bool :=
  match r with
  | some (.one (.c (.v (.bool true))), m) => m.all fun b => !b.rw || b.own
  | _ => false
theorem endsTrue_spec {r : Option (AV × List MB)} (h : endsTrue r = true) : ∃ m, r = some (.one (.c (.v (.bool true))), m) ∧ (m.all fun b => !b.rw || b.own) = true := by
  unfold endsTrue at h
  split at h
  · exact ⟨_, rfl, h⟩
  · cases h
/-- A law by one closed run. -/
theorem law_run {P : Program} {E : Env} {w0 : World} {G : Cfg} {F : CallF} (hE : CfgOk P E w0 G) (hF : CallOk P E w0 G F) (hmix : P.follows .mixedOrders = true) (hg : G.g = []) {fuel : Nat} {f : FuncId} {args : List A1}
    (h : endsTrue (runF P G F fuel f args []) = true) (hw : (args.all (A1.wf 0)) = true) {vs : Array Value} (hv : (args.map (A1.den E fun _ => (0, 0))).toArray = vs) :
    Calls P f vs w0 fun e w' => e = .returned (.bool true) ∧ Below w0.heap.size w0 w' := by
  obtain ⟨m, hr, hm⟩ := endsTrue_spec h
  subst hv
  refine (runF_sound hE hF hmix hr (bl := fun _ => (0, 0)) (MRel.nil _ _ _) (fun g i hgi => by rw [hg] at hgi; cases hgi) (fun x hx => List.all_eq_true.1 hw x hx)).mono fun e w' ⟨bl', he, _, hm', _, _⟩ => ⟨he, hm'.below hm⟩
/-- A start at blocks that are only read. -/
theorem MRel.ro {E : Env} {bl : Bl} {w : World} {m : List MB} (hro : ∀ (i : Nat) (b : MB), m[i]? = some b → b.rw = false ∧ b.own = false ∧ b.solo = false ∧ b.row = 0) (hlt : ∀ (i : Nat) (b : MB), m[i]? = some b → (bl i).1 < w.heap.size)
    (hc : ∀ (i : Nat) (b : MB) (j : Nat) (x : AC), m[i]? = some b → b.cs[j]? = some x → w.cell? (at_ bl i j) = some (x.den E bl)) (hwf : ∀ (i : Nat) (b : MB), m[i]? = some b → ∀ x ∈ b.cs, x.wf m.length = true) : MRel E bl w m w := by
  refine ⟨rfl, rfl, rfl, Nat.le_refl _, hlt, fun i b j x hi _ hx => hc i b j x hi hx, fun i b hi _ => hwf i b hi, ?_, ?_, fun _ _ _ => rfl, fun _ _ _ _ => rfl, fun _ _ _ => rfl, ?_, ?_, ?_, ?_⟩
  · intro i b j hi _ hr; rw [(hro i b hi).1] at hr; cases hr
  · intro i k bi bk _ hi _ hr; rw [(hro i bi hi).1] at hr; cases hr
  · intro i b hi ho; rw [(hro i b hi).2.1] at ho; cases ho
  · intro i b hi _; unfold MB.lo; rw [(hro i b hi).2.2.2]; exact Nat.zero_le _
  · intro i b j v hi _ hv; rw [(hro i b hi).2.2.2] at hv; simp [rowOf] at hv
  · intro i b hi _ hs; rw [(hro i b hi).2.2.1] at hs; cases hs
/-- A law by one closed run, over blocks that are only read (the variables of packages). -/
theorem law_run_ro {P : Program} {E : Env} {w0 : World} {G : Cfg} {F : CallF} (hE : CfgOk P E w0 G) (hF : CallOk P E w0 G F) (hmix : P.follows .mixedOrders = true) {bl : Bl} {m0 : List MB} (hm0 : MRel E bl w0 m0 w0) (hg : GOk G.g bl m0.length) {fuel : Nat} {f : FuncId} {args : List A1}
    (h : endsTrue (runF P G F fuel f args m0) = true) (hw : (args.all (A1.wf 0)) = true) {vs : Array Value} (hv : (args.map (A1.den E bl)).toArray = vs) :
    Calls P f vs w0 fun e w' => e = .returned (.bool true) ∧ Below w0.heap.size w0 w' := by
  obtain ⟨m, hr, hm⟩ := endsTrue_spec h
  subst hv
  refine (runF_sound hE hF hmix hr hm0 hg (fun x hx => A1.wf_mono (Nat.zero_le _) (List.all_eq_true.1 hw x hx))).mono fun e w' ⟨bl', he, _, hm', _, _⟩ => ⟨he, hm'.below hm⟩
end Go.Proofs.YtfilandehjmikaaDoor.Sx
