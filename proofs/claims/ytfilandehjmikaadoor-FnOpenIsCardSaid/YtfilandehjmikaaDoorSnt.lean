/- The sentinels that the seat's rows list: each is an errors.errorString behind a pointer, whatever the world that the rows lay. No condition. -/
import Derived.Test.YtfilandehjmikaaDoorRows
import Derived.ChangeSame
import Derived.ChangeVars
import Derived.JoinedOf
import Derived.RowKit
import Derived.RowKitTokens
import Derived.LaidLaws
import Derived.Below
namespace Go.Proofs.YtfilandehjmikaaDoor
open Go.ChangeShapes Go.WideShapes Go.RowKit

theorem own0 : ownKnob Tryd.prog.godebug = none := by kernel_rfl
theorem name91 : Tryd.prog.typeName? 3 91 = some "*errors.errorString" := by kernel_rfl
theorem cells107 : Tryd.prog.cellsOf 107 = 1 := by kernel_rfl
theorem cells9 : Tryd.prog.cellsOf 9 = 1 := by kernel_rfl
theorem star0 : "*" ++ "errors.errorString" = "*errors.errorString" := by decide
theorem row91 (u : TypeId) (h : Tryd.prog.typeName? 3 u = some "*errors.errorString") : u = 91 :=
  typeName_ptr_named (nm := "errors.errorString") (by rw [star0]; kernel_rfl) (by kernel_rfl) (by decide) u (by rw [star0]; exact h)
theorem laidVars_mem {P : Program} {w : World} : ∀ {l : List (String × DataW Unit)} {ps : List MemPlace}, DataW.LaidVars P w l ps → ∀ {n : String} {d : DataW Unit}, (n, d) ∈ l →
    ∃ g t cs fuel p, P.globalNamed n = some g ∧ (P.globals[g]?).map (·.type) = some t ∧ w.var? P n = some cs ∧ DataW.trod (fun _ => ()) P w 0 (fun _ => true) false fuel t cs.toList = some (d, p) ∧ ∀ q ∈ MemPlace.row ⟨g, 0, none⟩ cs.size ++ p, q ∈ ps
  | (m, e) :: r, ps, h, n, d, hm => by
    obtain ⟨g, t, cs, fuel, p, q, h1, h2, h3, h4, h5, h6⟩ := h
    rcases List.mem_cons.1 hm with he | hm
    · cases he
      exact ⟨g, t, cs, fuel, p, h1, h2, h3, h4, fun x hx => by rw [h6]; exact List.mem_append_left _ hx⟩
    · obtain ⟨g', t', cs', fuel', p', k1, k2, k3, k4, k5⟩ := laidVars_mem h5 hm
      exact ⟨g', t', cs', fuel', p', k1, k2, k3, k4, fun x hx => by rw [h6]; exact List.mem_append_right _ (k5 x hx)⟩
/-- One listed sentinel is an error that is there. -/
theorem sentinel_of_laid {l : List (String × DataW Unit)} {W : World} (h : laidMet Tryd.prog l W) {n : String} {text : List UInt8} (hm : (n, .iface "*errors.errorString" (.ptr (.agg [.lit (.string text)]))) ∈ l) {g : Nat}
    (hg : Tryd.prog.globalNamed n = some g) (ht : (Tryd.prog.globals[g]?).map (·.type) = some 55) : ∃ a, W.var? Tryd.prog n = some #[.iface 91 (.pointer (some a))] := by
  obtain ⟨ps, hl, _, hrows⟩ := h
  obtain ⟨g', t, cs, fuel, p, h1, h2, h3, h4, h5⟩ := laidVars_mem hl hm
  obtain rfl := Option.some.inj (hg.symm.trans h1)
  obtain rfl := Option.some.inj (ht.symm.trans h2)
  obtain ⟨c⟩ := cs
  have ok : ∀ u v, c = [.iface u v] → Value.okWide Tryd.prog W .any 0 u v := fun u v e => by
    subst e
    exact (hrows g 0 (h5 _ (by simp [MemPlace.row]))).2 u v (by simpa using World.var?_cell hg h3 0)
  obtain ⟨a, s, rfl, _⟩ := errorString_of_trod Tryd.underlying55 row91 Tryd.underlying91 Tryd.underlying107 rfl rfl Tryd.underlying9 cells107 cells9 h4 ok
  exact ⟨a, h3⟩
theorem var_below {W W' : World} (hb : Below W.heap.size W W') {n : String} {cs : Array Value} (h : W.var? Tryd.prog n = some cs) : W'.var? Tryd.prog n = some cs := by
  unfold World.var? at h ⊢
  cases hg : Tryd.prog.globalNamed n with
  | none => simp [hg] at h
  | some g =>
    simp only [hg, Option.bind_some] at h ⊢
    have hlt : g < W.heap.size := by
      rcases Nat.lt_or_ge g W.heap.size with h' | h'
      · exact h'
      · simp [Array.getElem?_eq_none h'] at h
    rw [hb.block g hlt]
    exact h
/-- The listed variables read behind the call as they read before. -/
theorem vars_keep {H : Type} {enc : TypeId × Value → H} {W W' : World} (hb : Below W.heap.size W W') (sp : Nat → Bool) : ∀ {ns : List String} {gs : List (DataW H)} {q : List MemPlace},
    DataW.TrodVars enc Tryd.prog W (fun _ => true) ns gs q → (∀ n ∈ ns, (∃ g, Tryd.prog.globalNamed n = some g ∧ (Tryd.prog.globals[g]?).map (·.type) = some 55) ∧ ∃ a, W.var? Tryd.prog n = some #[.iface 91 (.pointer (some a))]) →
    DataW.TrodVars enc Tryd.prog W' sp ns gs q
  | [], [], q, h, _ => h
  | n :: ns, d :: gs, q, h, hn => by
    obtain ⟨g, t, cs, fuel, p, q', h1, h2, h3, h4, h5, h6⟩ := h
    obtain ⟨⟨g', k1, k2⟩, a, k3⟩ := hn n (List.mem_cons_self ..)
    obtain rfl := Option.some.inj (k1.symm.trans h1)
    obtain rfl := Option.some.inj (k2.symm.trans h2)
    obtain rfl := Option.some.inj (k3.symm.trans h3)
    refine ⟨g', 55, _, fuel, p, q', h1, h2, var_below hb h3, ?_, vars_keep hb sp h5 fun m hm => hn m (List.mem_cons_of_mem _ hm), h6⟩
    cases fuel with
    | zero => simp [DataW.trod] at h4
    | succ f =>
      unfold DataW.trod at h4 ⊢
      simp only [Tryd.underlying55] at h4 ⊢
      exact h4
  | [], _ :: _, _, h, _ => h.elim
  | _ :: _, [], _, h, _ => h.elim

/-! ### a world that meets what the rows lay -/
abbrev keyS : ByteArray := { data := #[97, 115, 99, 111, 110, 58, 32, 98, 97, 100, 32, 107, 101, 121, 32, 115, 105, 122, 101] }
abbrev modeS : ByteArray := { data := #[97, 115, 99, 111, 110, 58, 32, 105, 110, 118, 97, 108, 105, 100, 32, 99, 105, 112, 104, 101, 114, 32, 109, 111, 100, 101] }
abbrev nonceS : ByteArray := { data := #[97, 115, 99, 111, 110, 58, 32, 98, 97, 100, 32, 110, 111, 110, 99, 101, 32, 115, 105, 122, 101] }
abbrev decS : ByteArray := { data := #[97, 115, 99, 111, 110, 58, 32, 105, 110, 118, 97, 108, 105, 100, 32, 99, 105, 112, 104, 101, 114, 116, 101, 120, 116] }
noncomputable def low : Nat := (World.holding Tryd.prog default ⟨#[], #[], []⟩).heap.size
noncomputable def laidWorld (os : Os) : World :=
  let w0 := World.holding Tryd.prog os ⟨#[.cells #[.string nonceS] 107, .cells #[.string decS] 107, .cells #[.string keyS] 107, .cells #[.string modeS] 107], #[], []⟩
  let set (i : Nat) : Obj → Obj := fun
      | .cells _ t frozen => .cells #[.iface 91 (.pointer (some ⟨low + i, 0, none⟩))] t frozen
      | o => o
  { w0 with heap := (((w0.heap.modify 0 (set 0)).modify 1 (set 1)).modify 2 (set 2)).modify 3 (set 3) }
theorem laid_sizes (os : Os) (args : Array Value) : laidMet Tryd.prog Rows.fnSizesRow.laid ((laidWorld os).forCall (fun _ _ => 0) ⟨#[], args, []⟩).memory :=
  laidMet_of_run (ps := [.cell 2 0, .cell (low + 2) 0, .cell 3 0, .cell (low + 3) 0]) 8 (by kernel_rfl) (by kernel_rfl) (by kernel_rfl)
end Go.Proofs.YtfilandehjmikaaDoor
