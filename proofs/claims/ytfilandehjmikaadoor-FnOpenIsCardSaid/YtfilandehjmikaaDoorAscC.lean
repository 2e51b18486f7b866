/- slices.Clone as a contract. No condition. -/
import Derived.Test.YtfilandehjmikaaDoorAscJ
namespace Go.Proofs.YtfilandehjmikaaDoor.Asc
open Go.RowKit Go.Proofs.YtfilandehjmikaaDoor.Sx

def cloG (r : Nat) : Cfg := { so := [(0, r, [])], cm := [(.eql, 22, .o 0, .v (.slice none 0 0), .v (.bool false))] }
theorem clo_nil : endsF [.v (.c (.v (.slice none 0 0)))] [] (runF Tryd.prog {} noK 100 24 [.c (.v (.slice none 0 0))] []) = true := by kernel_rfl
theorem clo_row : endsF [.d 1 []] [] (runF Tryd.prog (cloG 1) noK 100 24 [.c (.o 0)] []) = true := by kernel_rfl
theorem clo_em : endsF [.d 0 []] [] (runF Tryd.prog (cloG 0) noK 100 24 [.c (.o 0)] []) = true := by kernel_rfl
/-- Nothing, or a slice of a block of its own. -/
def CloV (w0 w : World) (v : Value) (l : List B8) : Prop := (v = .slice none 0 0 ∧ l = []) ∨ ∃ g cap, OwnG w0 w g cap v (vals l)
theorem bund22 : Tryd.prog.underlying 22 = some (.slice 5) := by kernel_rfl
def rows1 (r : List Value) : Nat → List Value := fun i => if i = 0 then r else []
theorem cloG_ok {E : Env} (hE : EnvOk E) {w : World} {r : Nat} {a : Addr} {n c : Nat} (h0 : E.vl 0 = .slice (some a) n c) (hs : SlV w (E.vl 0) (rowOf E r)) : CfgOk Tryd.prog E w (cloG r) := by
  refine ⟨hE, (fun p hp => nomatch hp), (fun p hp => nomatch hp), fun p hp => ?_, fun p hp => ?_, (fun p hp => nomatch hp), (fun p hp => nomatch hp)⟩
  · simp only [cloG, List.mem_singleton] at hp
    subst hp
    refine ⟨rfl, fun bl w u v => ?_⟩
    simp only [AC.den, h0]
    unfold eqGuard binOp
    simp only [Sem.run_bind, run_equal_nil bund22, Result.andThen_ok, Sem.run_pure]
    simp [Result.andThen_ok]
  · simp only [cloG, List.mem_singleton] at hp
    subst hp
    exact ⟨rfl, by simpa using hs⟩
theorem rsOne {E : Env} {w0 w : World} {bl : Bl} {m : List MB} {s : RS} {vs : List Value} (h : RsAll E w0 w bl m [s] vs) : ∃ v, packV vs = v ∧ s.ok E w0 w bl m v := by
  cases h with
  | cons h1 h2 => cases h2; exact ⟨_, rfl, h1⟩
theorem chgNil {E : Env} {bl : Bl} {w w' : World} (hm : MRel E bl w [] w') : Below w.heap.size w w' := (hm.chg (R := []) fun _ _ hi _ => nomatch hi).below
theorem clone_calls {l : List B8} (hl : l.length ≤ 1099511627776) {w : World} {v : Value} (hs : SlV w v (vals l)) :
    Calls Tryd.prog 24 #[v] w fun e w' => ∃ v', e = .returned v' ∧ Below w.heap.size w w' ∧ CloV w w' v' l := by
  have one : ∀ x ∈ vals l, x.oneCell' = true := fun x hx => by obtain ⟨b, _, rfl⟩ := List.mem_map.1 hx; rfl
  have hE0 : EnvOk (envA ⟨0, 0, 0, 0, 0⟩ [] (rows1 (vals l)) (vl1 v (.slice none 0 0))) := envA_ok (vl1_one (slV_one hs) rfl) (fun i _ => by
    unfold rows1; split
    · rw [vals_length]; exact hl
    · simp) (fun i x hx => by
    unfold rows1 at hx; split at hx
    · exact one x hx
    · cases hx)
  have e0 : (envA ⟨0, 0, 0, 0, 0⟩ [] (rows1 (vals l)) (vl1 v (.slice none 0 0))).vl 0 = v := rfl
  have e1 : rowOf (envA ⟨0, 0, 0, 0, 0⟩ [] (rows1 (vals l)) (vl1 v (.slice none 0 0))) 1 = vals l := rfl
  generalize envA ⟨0, 0, 0, 0, 0⟩ [] (rows1 (vals l)) (vl1 v (.slice none 0 0)) = E at hE0 e0 e1
  have hv : ([.c (.o 0)] : List A1).map (A1.den E fun _ => (0, 0)) = [v] := by simp only [List.map, A1.den, AC.den, e0]
  rcases hs with ⟨rfl, h⟩ | ⟨a, cap, h1, h2, h3⟩
  · have hl0 : l = [] := by simpa [vals] using h
    have hG : CfgOk Tryd.prog E w {} := cfgOk0 (r := []) hE0 fun p hp => nomatch hp
    refine (fn_calls (bl := fun _ => (0, 0)) hG noK_ok mix clo_nil (MRel.nil E _ w) gok0 rfl).mono fun e w' ⟨bl', vs, he, hr, _, hm'⟩ => ?_
    obtain ⟨v', h1, h2⟩ := rsOne hr
    exact ⟨v', by rw [he, h1], chgNil hm', .inl ⟨h2, hl0⟩⟩
  · by_cases hl0 : l = []
    · have hG : CfgOk Tryd.prog E w (cloG 0) := cloG_ok hE0 (by rw [e0]; exact h1) (by rw [e0]; exact .inr ⟨a, cap, by rw [h1, hl0]; rfl, Nat.zero_le _, fun j x hx => nomatch hx⟩)
      have := fn_calls (bl := fun _ => (0, 0)) hG noK_ok mix clo_em (MRel.nil E _ w) gok0 rfl
      rw [hv] at this
      refine this.mono fun e w' ⟨bl', vs, he, hr, _, hm'⟩ => ?_
      obtain ⟨v', q1, g, cap', q2, _⟩ := rsOne hr
      exact ⟨v', by rw [he, q1], chgNil hm', .inr ⟨g, cap', by rw [hl0]; exact q2⟩⟩
    · have hG : CfgOk Tryd.prog E w (cloG 1) := cloG_ok hE0 (by rw [e0]; exact h1) (by rw [e0, e1]; exact .inr ⟨a, cap, h1, h2, h3⟩)
      have := fn_calls (bl := fun _ => (0, 0)) hG noK_ok mix clo_row (MRel.nil E _ w) gok0 rfl
      rw [hv] at this
      refine this.mono fun e w' ⟨bl', vs, he, hr, _, hm'⟩ => ?_
      obtain ⟨v', q1, g, cap', q2, _⟩ := rsOne hr
      exact ⟨v', by rw [he, q1], chgNil hm', .inr ⟨g, cap', by rw [e1] at q2; simpa using q2⟩⟩
end Go.Proofs.YtfilandehjmikaaDoor.Asc
