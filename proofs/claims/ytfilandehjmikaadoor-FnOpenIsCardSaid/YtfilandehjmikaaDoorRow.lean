/- From what a law's call does to its row: integers and slices of bytes that came in, the listed sentinels, the row's statement. No condition. -/
import Derived.Test.YtfilandehjmikaaDoorSxB
import Derived.Test.YtfilandehjmikaaDoorSnt
import Derived.Test.YtfilandehjmikaaDoorTie
import Derived.Test.YtfilandehjmikaaDoorCards
import Derived.KernelRfl
namespace Go.Proofs.YtfilandehjmikaaDoor
open Go.ChangeShapes Go.WideShapes Go.RowKit Go.Proofs.YtfilandehjmikaaDoor.Sx

theorem cells5 : Tryd.prog.cellsOf 5 = 1 := by kernel_rfl
theorem under22 : Tryd.prog.underlying 22 = some (.slice 5) := by kernel_rfl
theorem under5 : Tryd.prog.underlying 5 = some (.int .u8) := by kernel_rfl
theorem under3 : Tryd.prog.underlying 3 = some (.int .i64) := by kernel_rfl
theorem under4 : Tryd.prog.underlying 4 = some .bool := by kernel_rfl
/-- An argument that came in: an integer, or a slice of bytes that reads as a list. -/
def ArgIn (W : World) (t : TypeId) (v : Value) : Prop :=
  (t = 3 ∧ ∃ n : Int, v = .int .i64 n) ∨ (t = 22 ∧ ∃ bs : List Int, (∀ n ∈ bs, (Lit.int .u8 n).wf = true) ∧ SlV W v (bs.map (Value.int .u8)))
section
variable {H : Type} {enc : TypeId × Value → H}
theorem args_in {W : World} {base : Nat} : ∀ {ts : List TypeId} {vs : List Value} {ds : List (DataW H)} {p : List MemPlace}, (∀ t ∈ ts, t = 3 ∨ t = 22) →
    (∀ (j : Nat) t v, ts[j]? = some t → vs[j]? = some v → Value.okWide Tryd.prog W .any base t v) → DataW.TrodAll enc Tryd.prog W 0 (fun _ => true) true ts vs ds p →
    ds.length = ts.length ∧ vs.length = ts.length ∧ (∀ (j : Nat) t v, ts[j]? = some t → vs[j]? = some v → ArgIn W t v) ∧
    ∀ (W' : World) (sp : Nat → Bool), Below W.heap.size W W' → (∀ q ∈ p, sp q.block = true) → DataW.TrodAll enc Tryd.prog W' 0 sp true ts vs ds p
  | [], [], [], p, _, _, h => ⟨rfl, rfl, fun j t v h => by simp at h, fun _ _ _ _ => h⟩
  | t :: ts, v :: vs, d :: ds, p, ht, hok, h => by
    obtain ⟨p1, p2, h1, h2, rfl⟩ := h
    obtain ⟨l0, l1, l2, l3⟩ := args_in (fun t ht' => ht t (List.mem_cons_of_mem _ ht')) (fun j t v h1 h2 => hok (j + 1) t v (by simpa using h1) (by simpa using h2)) h2
    have key : ArgIn W t v ∧ ∀ (W' : World) (sp : Nat → Bool), Below W.heap.size W W' → (∀ q ∈ p1, sp q.block = true) → DataW.Trod enc Tryd.prog W' 0 sp true t v d p1 := by
      rcases ht t (List.mem_cons_self ..) with rfl | rfl
      · obtain ⟨n, rfl⟩ := okWide_int under3 (hok 0 3 v rfl rfl)
        obtain ⟨fu, h1⟩ := h1
        obtain ⟨n', e1, he1, w1⟩ := DataW.trod_int under3 h1
        simp [Value.cells] at e1
        subst e1
        simp only [Prod.mk.injEq] at he1
        obtain ⟨rfl, rfl⟩ := he1
        exact ⟨.inl ⟨rfl, n, rfl⟩, fun W' sp _ _ => shut_int under3 w1⟩
      · rcases bytes_in under22 under5 cells5 (hok 0 22 v rfl rfl) h1 with ⟨rfl, rfl, hk⟩ | ⟨a, len, cap, zs, rfl, hl, hm, hz, hc, hwf, rfl, hk⟩
        · exact ⟨.inr ⟨rfl, [], (fun _ h => by cases h), .inl ⟨rfl, rfl⟩⟩, fun W' sp _ _ => hk W' sp⟩
        · have cell : ∀ i, i < cap → W.cell? (a.add i) = some (.int .u8 (zs.getD i 0)) := hc
          refine ⟨.inr ⟨rfl, zs.take len, fun n hn => hwf n (List.mem_of_mem_take hn), .inr ⟨a, cap, by simp [hz, Nat.min_eq_left hl], by simp [hz, hl], fun j x hx => ?_⟩⟩, fun W' sp hb hq => hk W' sp (fun i hi => hb.cell (cell_lt (cell i hi))) ?_⟩
          · have hj : j < len := by
              have := (List.getElem?_eq_some_iff.1 hx).1
              simp at this; omega
            rw [List.getElem?_map, List.getElem?_take_of_lt hj] at hx
            rw [cell j (by omega)]
            have hlt : j < zs.length := by omega
            rw [List.getElem?_eq_getElem hlt] at hx
            rw [← hx]
            simp [List.getD, List.getElem?_eq_getElem hlt]
          · rcases Nat.eq_zero_or_pos cap with h0 | h0
            · exact .inl h0
            · exact .inr (hq (.cell a.block (a.off + 0)) (List.mem_map.2 ⟨0, List.mem_range.2 h0, rfl⟩))
    refine ⟨by simp [l0], by simp [l1], fun j t' v' h1 h2 => ?_, fun W' sp hb hq => ⟨p1, p2, key.2 W' sp hb (fun q h => hq q (List.mem_append_left _ h)), l3 W' sp hb (fun q h => hq q (List.mem_append_right _ h)), rfl⟩⟩
    cases j with
    | zero =>
      simp only [List.getElem?_cons_zero, Option.some.injEq] at h1 h2
      subst h1; subst h2
      exact key.1
    | succ j => exact l2 j t' v' (by simpa using h1) (by simpa using h2)
  | [], _ :: _, _, _, _, _, h => h.elim
  | [], [], _ :: _, _, _, _, h => h.elim
  | _ :: _, [], _, _, _, _, h => h.elim
  | _ :: _, _ :: _, [], _, _, _, h => h.elim

/-- The listed variables are errors that are there. -/
def SentIn (W : World) : Prop := ∀ g ∈ [2, 3], ∃ a, W.cell? ⟨g, 0, none⟩ = some (.iface 91 (.pointer (some a)))
theorem lawRow {f : FuncId} {fn : Func} {s : ChangeSpec} {row : OpenClaim} {os : Os} (started : os.Started) (hfn : Tryd.prog.funcs[f]? = some fn) (hp : ∀ t ∈ fn.params.toList, t = 3 ∨ t = 22) (hr : fn.resultTypes = #[4])
    (noInit : Tryd.prog.inits.idxOf? f = none)
    (hs : ∀ (ds gs : List (DataW H)), ds.length = fn.params.toList.length → gs.length = s.vars.length → s.fn H (ds ++ gs) = { results := [.lit (.bool true)], args := ds, vars := gs })
    (hv : ∀ W, laidMetH Tryd.prog row.laid W → ∀ n ∈ s.vars, (∃ g, Tryd.prog.globalNamed n = some g ∧ (Tryd.prog.globals[g]?).map (·.type) = some 55) ∧ ∃ a, W.var? Tryd.prog n = some #[.iface 91 (.pointer (some a))])
    (witness : ∃ (w : World) (tape : Tape) (i : Input), w.os = os ∧ (w.forCall tape i).Shaped Tryd.prog ∧ i.vars = [] ∧ Input.okWide Tryd.prog (w.forCall tape i) .any w.heap.size f i ∧
      ((s.pre enc Tryd.prog fn row.domain row.apart (w.forCall tape i).memory i.args ∧ laidMetH Tryd.prog row.laid (w.forCall tape i).memory) ∧ sizedMet enc Tryd.prog fn (OpenSpec.ofChange s) row.apart (w.forCall tape i).memory i.args) ∧ ({} : Assume).holds Tryd.prog (lone (Frame.enter Tryd.prog f i.args .normal) [] (w.forCall tape i)))
    (call : ∀ (W : World) (args : Array Value), args.toList.length = fn.params.toList.length → (∀ (j : Nat) t v, fn.params.toList[j]? = some t → args.toList[j]? = some v → ArgIn W t v) → (∀ n ∈ s.vars, ∃ a, W.var? Tryd.prog n = some #[.iface 91 (.pointer (some a))]) →
      Calls Tryd.prog f args W fun e w' => e = .returned (.bool true) ∧ Below W.heap.size W w') :
    ReturnsInHanded {} Tryd.checked os f .any (fun w args => (s.pre enc Tryd.prog fn row.domain row.apart w args ∧ laidMetH Tryd.prog row.laid w) ∧ sizedMet enc Tryd.prog fn (OpenSpec.ofChange s) row.apart w args)
      (s.post enc Tryd.prog fn row.apart row.fresh row.handsOn row.again) := by
  refine returnsInHanded_of_change_and (C := Tryd.checked) (X := fun w _ => laidMetH Tryd.prog row.laid w) (fun _ _ _ hh h => h.of_heap hh) own0 started noInit hfn witness ?_
  intro W base args ds gs before hval hW _ _ hL _
  have hW' := hW
  obtain ⟨p, q, hA, hV, rfl, _, _⟩ := hW
  obtain ⟨l0, l1, l2, l3⟩ := args_in hp (fun j t v h1 h2 => hval j t v (by simpa using h1) (by simpa using h2)) hA
  have hvs := hv W hL
  have hgl : gs.length = s.vars.length := by
    have : ∀ {ns : List String} {gs : List (DataW H)} {q : List MemPlace}, DataW.TrodVars enc Tryd.prog W (fun _ => true) ns gs q → gs.length = ns.length := by
      intro ns
      induction ns with
      | nil => intro gs q h; cases gs with
        | nil => rfl
        | cons => exact h.elim
      | cons n ns ih => intro gs q h; cases gs with
        | nil => exact h.elim
        | cons g gs => obtain ⟨_, _, _, _, _, _, _, _, _, _, h, _⟩ := h; simp [ih h]
    exact this hV
  have e1 := hs ds gs l0 hgl
  refine (call W args l1 (fun j t v h1 h2 => l2 j t v h1 h2) fun n hn => (hvs n hn).2).mono fun e W' ⟨he, hb⟩ => ?_
  subst he
  refine ⟨_, rfl, post_below (pa := p) (pv := q) hW' (fun _ _ _ => ?_) (fun sp hq => ?_) (fun sp hq => ?_) rfl hb ?_⟩
  · rw [e1, hr]; exact trodAll_mk1 (shut_bool under4 _)
  · rw [e1]; exact l3 W' sp hb fun x hx => hq x (List.mem_append_left _ hx)
  · rw [e1]; exact vars_keep hb sp hV hvs
  · intro j t r h1 h2
    rw [hr] at h1
    cases j with
    | zero =>
      simp at h1
      subst h1
      have : (Value.bool true).resultList fn.resultTypes.size = [.bool true] := by rw [hr]; rfl
      rw [this] at h2
      simp at h2
      subst h2
      exact okWide_bool_mk under4 _
    | succ j => simp at h1
end
theorem noStand (ts : List TypeId) (h : ∀ t ∈ ts, t = 3 ∨ t = 22) : ∀ (j : Nat) (t : TypeId), ts[j]? = some t → Tryd.prog.wantsStandIn t = false := fun j t ht => by
  rcases h t (List.mem_of_getElem? ht) with rfl | rfl
  · kernel_rfl
  · kernel_rfl
end Go.Proofs.YtfilandehjmikaaDoor
