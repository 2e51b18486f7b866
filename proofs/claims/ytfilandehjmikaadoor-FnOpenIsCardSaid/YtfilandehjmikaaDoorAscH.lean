/- append onto bytes of a call's own. No condition. -/
import Derived.Test.YtfilandehjmikaaDoorAscG
import Derived.Laws.AppendOwn
import Derived.Laws.OwnMore
namespace Go.Proofs.YtfilandehjmikaaDoor.Asc
open Go.RowKit Go.Proofs.YtfilandehjmikaaDoor.Sx

def OwnB (w : World) (base : Nat) (v : Value) (l : List B8) : Prop := w.ownsRow base 5 1 v l.length (vals l)
theorem OwnB.sl {w : World} {base : Nat} {v : Value} {l : List B8} (h : OwnB w base v l) : SlV w v (vals l) := by
  rcases h.2 with ⟨h1, h2⟩ | ⟨g, cap, cur, h1, _, h3, h4, _, h6, h7⟩
  · exact .inl ⟨h1, by rw [List.length_eq_zero_iff.1 h2]; rfl⟩
  · refine .inr ⟨⟨g, 0, none⟩, cap, by rw [h1, vals_length], by rw [vals_length]; exact h4, fun j x hx => ?_⟩
    rw [Addr.add_lit, Nat.zero_add]
    have hj := (List.getElem?_eq_some_iff.1 hx).1
    rw [vals_length] at hj
    simp only [World.cell?, h3]
    rw [← h7, List.getElem?_take_of_lt (by omega)] at hx
    simpa using hx
theorem vals_one (l : List B8) : ∀ x ∈ vals l, x.oneCell' = true := fun x hx => by obtain ⟨b, _, rfl⟩ := List.mem_map.1 hx; rfl
theorem app_run {w : World} {base : Nat} {ty : TypeId} {v u : Value} {l k : List B8} (hown : OwnB w base v l) (hu : SlV w u (vals k)) (hl : l.length + k.length ≤ 1099511627776) (hbase : base ≤ w.heap.size) :
    ∃ v' w', (Builtin.append_ #[22, 22] ty #[v, u]).run Tryd.prog w = .ok v' w' ∧ OwnB w' base v' (l ++ k) ∧ w.grownBy w' v.ownBlock := by
  obtain ⟨i, h1, h2, h3, h4⟩ := info5
  rcases hu with ⟨rfl, hk⟩ | ⟨a, cap, rfl, hle, hc⟩
  · have hk0 : k = [] := by simpa [vals] using hk
    subst hk0
    refine ⟨v, w, ?_, by simpa using hown, World.grownBy.refl w _⟩
    rcases hown.2 with ⟨rfl, _⟩ | ⟨g, cap, cur, rfl, _, _, hnc, _⟩
    · simp [Builtin.append_, run_underlying bund22, sizeOf, typeInfo, h1, Builtin.lenOf, Builtin.firstCells]
    · simp [Builtin.append_, run_underlying bund22, sizeOf, typeInfo, h1, Builtin.lenOf, Builtin.firstCells, hnc, storeCells]
  · rw [vals_length]
    obtain ⟨v', w', r1, r2, r3, _⟩ := run_append_own (P := Tryd.prog) w base 22 ty 5 i (.int .u8 0) 1 1 bund22 h1 h2 h3 h4 rfl (by decide) v l.length (vals l) hown a k.length cap (vals k) (by rw [vals_length, Nat.mul_one]) hc (vals_one k)
      (by simp only [maxLen]; omega) (by omega) hbase
    exact ⟨v', w', r1, by unfold OwnB; rw [List.length_append, vals_append]; exact r2, r3⟩
theorem wpList_app {w w0 : World} {ops : Array Oper} {rest : List Oper} {o : Oper} {a : Act} {Q : Exit → Act → World → Prop} (hgd : o.guard = none) (s x : Operand)
    (ho : o.op = .call { callee := .builtin .append, args := #[s, x], argTypes := #[22, 22] }) (base : Nat) (v u : Value) (l k : List B8) (hs : a.eval s = v) (hx : a.eval x = u)
    (hown : OwnB w base v l) (hu : SlV w u (vals k)) (hl : l.length + k.length ≤ 1099511627776) (hbase : base ≤ w.heap.size) (hb : Below base w0 w)
    (h : ∀ v' w', Hid (OwnB w' base v' (l ++ k)) → Hid (Below base w0 w') → Hid (w.heap.size ≤ w'.heap.size) → wpList Tryd.prog ops Q rest (a.put o.dst v') w') : wpList Tryd.prog ops Q (o :: rest) a w := by
  refine wpList_plain hgd fun K hK => ?_
  obtain ⟨v', w', hr, h2, h3⟩ := app_run (ty := o.type) hown hu hl hbase
  unfold Oper.wp execOp
  simp only [ho, resolve, invoke, builtin, Sem.run_bind, Sem.run_pure, Result.andThen_ok, List.map_toArray, List.map_cons, List.map_nil, hs, hx, hr]
  exact hK _ _ (h v' w' h2 (hb.grown h3 hbase fun k hk => (World.ownsRow.lt hown k hk).1) h3.size)
/-- An empty slice of bytes, made. -/
theorem OwnB.new {w : World} {base : Nat} (hb : base ≤ w.heap.size) : OwnB (w.alloc (.cells #[] 5)) base (.slice (some ⟨w.heap.size, 0, none⟩) 0 0) [] := World.ownsRow_made w #[] 0 hb (Nat.zero_le _) rfl
end Go.Proofs.YtfilandehjmikaaDoor.Asc
