/- The law FnOpenTurned: the card, tied to the program's text. No condition. -/
import Derived.Test.YtfilandehjmikaaDoorOturn
import Derived.SevenTiedAt
namespace Go.Proofs.YtfilandehjmikaaDoor
open Go.ChangeShapes Go.WideShapes Go.RowKit Go.Proofs.YtfilandehjmikaaDoor.Sx Go.Proofs.YtfilandehjmikaaDoor.Asc

theorem fnOpenTurnedGlob0 : Tryd.prog.globalNamed "loop.example/pub-g03031/pub/circl/cipher/ascon.ErrNonceSize" = some 0 := by kernel_rfl
theorem fnOpenTurnedGty0 : (Tryd.prog.globals[0]?).map (·.type) = some 55 := by kernel_rfl
theorem fnOpenTurnedGlob1 : Tryd.prog.globalNamed "loop.example/pub-g03031/pub/circl/cipher/ascon.ErrDecryption" = some 1 := by kernel_rfl
theorem fnOpenTurnedGty1 : (Tryd.prog.globals[1]?).map (·.type) = some 55 := by kernel_rfl
theorem fnOpenTurnedGlob2 : Tryd.prog.globalNamed "loop.example/pub-g03031/pub/circl/cipher/ascon.ErrKeySize" = some 2 := by kernel_rfl
theorem fnOpenTurnedGty2 : (Tryd.prog.globals[2]?).map (·.type) = some 55 := by kernel_rfl
theorem fnOpenTurnedGlob3 : Tryd.prog.globalNamed "loop.example/pub-g03031/pub/circl/cipher/ascon.ErrMode" = some 3 := by kernel_rfl
theorem fnOpenTurnedGty3 : (Tryd.prog.globals[3]?).map (·.type) = some 55 := by kernel_rfl
theorem fnOpenTurned_vars (W : World) (h : laidMetH Tryd.prog Rows.fnOpenTurnedRow.laid W) : ∀ n ∈ Rows.fnOpenTurnedSpec.vars, (∃ g, Tryd.prog.globalNamed n = some g ∧ (Tryd.prog.globals[g]?).map (·.type) = some 55) ∧ ∃ a, W.var? Tryd.prog n = some #[.iface 91 (.pointer (some a))] := by
  have h' : laidMet Tryd.prog Rows.fnOpenTurnedRow.laid W := h
  intro n hn
  simp only [Rows.fnOpenTurnedSpec, List.mem_cons, List.not_mem_nil, or_false] at hn
  rcases hn with rfl | rfl | rfl | rfl
  · exact ⟨⟨2, fnOpenTurnedGlob2, fnOpenTurnedGty2⟩, sentinel_of_laid h' (List.mem_cons_self ..) fnOpenTurnedGlob2 fnOpenTurnedGty2⟩
  · exact ⟨⟨3, fnOpenTurnedGlob3, fnOpenTurnedGty3⟩, sentinel_of_laid h' (List.mem_cons_of_mem _ (List.mem_cons_of_mem _ (List.mem_cons_of_mem _ (List.mem_cons_self ..)))) fnOpenTurnedGlob3 fnOpenTurnedGty3⟩
  · exact ⟨⟨0, fnOpenTurnedGlob0, fnOpenTurnedGty0⟩, sentinel_of_laid h' (List.mem_cons_of_mem _ (List.mem_cons_self ..)) fnOpenTurnedGlob0 fnOpenTurnedGty0⟩
  · exact ⟨⟨1, fnOpenTurnedGlob1, fnOpenTurnedGty1⟩, sentinel_of_laid h' (List.mem_cons_of_mem _ (List.mem_cons_of_mem _ (List.mem_cons_self ..))) fnOpenTurnedGlob1 fnOpenTurnedGty1⟩
theorem fnOpenTurned_laid (os : Os) (args : Array Value) : laidMet Tryd.prog Rows.fnOpenTurnedRow.laid ((laidWorld os).forCall (fun _ _ => 0) ⟨#[], args, []⟩).memory :=
  laidMet_of_run (ps := [.cell 2 0, .cell (low + 2) 0, .cell 0 0, .cell (low + 0) 0, .cell 1 0, .cell (low + 1) 0, .cell 3 0, .cell (low + 3) 0]) 8 (by kernel_rfl) (by kernel_rfl) (by kernel_rfl)
set_option maxRecDepth 100000 in
theorem fnOpenTurned_lifted (os : Os) (started : os.Started) (H : Type) (enc : TypeId × Value → H) :
    ReturnsInHanded {} Tryd.checked os 9 .any (fun w args => (Rows.fnOpenTurnedSpec.pre enc Tryd.prog Tryd.f9 Rows.fnOpenTurnedRow.domain Rows.fnOpenTurnedRow.apart w args ∧ laidMetH Tryd.prog Rows.fnOpenTurnedRow.laid w) ∧ sizedMet enc Tryd.prog Tryd.f9 (OpenSpec.ofChange Rows.fnOpenTurnedSpec) Rows.fnOpenTurnedRow.apart w args)
      (Rows.fnOpenTurnedSpec.post enc Tryd.prog Tryd.f9 Rows.fnOpenTurnedRow.apart Rows.fnOpenTurnedRow.fresh Rows.fnOpenTurnedRow.handsOn Rows.fnOpenTurnedRow.again) := by
  refine lawRow started Tryd.func9 (by rw [Tryd.params9]; decide) (by kernel_rfl) (by kernel_rfl) (fun ds gs h1 h2 => ?_) fnOpenTurned_vars
    (ChangeSpec.witness_at (enc := enc) (C := Tryd.checked) (os := os) (X := fun w _ => laidMetH Tryd.prog Rows.fnOpenTurnedRow.laid w) false (laidWorld os) #[.int .i64 0, .slice none 0 0, .slice none 0 0, .slice none 0 0, .slice none 0 0, .int .i64 0] 8 rfl (by kernel_rfl) (by kernel_rfl) (by kernel_rfl) (by kernel_rfl) (by kernel_rfl) (fnOpenTurned_laid os _)) ?_
  · rw [Tryd.params9] at h1
    match ds, gs, h1, h2 with
    | [d1, d2, d3, d4, d5, d6], [g1, g2, g3, g4], _, _ => rfl
  · intro W args l1 l2 hv
    rw [Tryd.params9] at l1 l2
    obtain ⟨l⟩ := args
    match l, l1, l2 with
    | [v0, v1, v2, v3, v4, v5], _, l2 =>
      obtain ⟨n0, rfl⟩ : ∃ n : Int, v0 = .int .i64 n := by
        rcases l2 0 3 v0 rfl rfl with ⟨_, h⟩ | ⟨h, _⟩
        · exact h
        · cases h
      obtain ⟨b1, s1⟩ : ∃ b : List B8, SlV W v1 (vals b) := by
        rcases l2 1 22 v1 rfl rfl with ⟨h, _⟩ | ⟨_, bs, hb, hs⟩
        · cases h
        · obtain ⟨b, e⟩ := b8_of hb; exact ⟨b, e ▸ hs⟩
      obtain ⟨b2, s2⟩ : ∃ b : List B8, SlV W v2 (vals b) := by
        rcases l2 2 22 v2 rfl rfl with ⟨h, _⟩ | ⟨_, bs, hb, hs⟩
        · cases h
        · obtain ⟨b, e⟩ := b8_of hb; exact ⟨b, e ▸ hs⟩
      obtain ⟨b3, s3⟩ : ∃ b : List B8, SlV W v3 (vals b) := by
        rcases l2 3 22 v3 rfl rfl with ⟨h, _⟩ | ⟨_, bs, hb, hs⟩
        · cases h
        · obtain ⟨b, e⟩ := b8_of hb; exact ⟨b, e ▸ hs⟩
      obtain ⟨b4, s4⟩ : ∃ b : List B8, SlV W v4 (vals b) := by
        rcases l2 4 22 v4 rfl rfl with ⟨h, _⟩ | ⟨_, bs, hb, hs⟩
        · cases h
        · obtain ⟨b, e⟩ := b8_of hb; exact ⟨b, e ▸ hs⟩
      obtain ⟨n5, rfl⟩ : ∃ n : Int, v5 = .int .i64 n := by
        rcases l2 5 3 v5 rfl rfl with ⟨_, h⟩ | ⟨h, _⟩
        · exact h
        · cases h
      obtain ⟨a1, k1⟩ := hv _ (List.mem_cons_of_mem _ (List.mem_cons_of_mem _ (List.mem_cons_of_mem _ (List.mem_cons_self ..))))
      exact oturn_calls (by simpa using World.var?_cell fnOpenTurnedGlob1 k1 0) s1 s2 s3 s4
theorem fnOpenTurned_row : Rows.FnOpenTurnedSaid :=
  OpenClaim.holds_of_wide 9 Tryd.f9 rfl rfl rfl rfl rfl rfl rfl ⟨rfl, rfl, rfl, rfl, rfl⟩ rfl rfl rfl rfl rfl (by kernel_rfl) Tryd.func9 (by kernel_rfl)
    (of_decide_eq_true (by kernel_rfl)) (by unfold Func.isWrapper; first | (rw [if_pos (by decide +kernel)]; kernel_rfl) | (rw [if_neg (by decide +kernel)]; exact ⟨rfl, rfl⟩))
    (fun os started H enc _ => fnOpenTurned_lifted os started H enc)
theorem fnOpenTurned_holds : Rows.FnOpenTurnedCardSaid :=
  Claim7.holds_tied_plain_at .later [] [.sentinel, .sentinel, .sentinel, .sentinel] true (true, "dcddebe8a57cbc5ec5d1ef1f265641341a710f1c3173d232f1a5a14498c1ce81") false
    fnOpenTurned_row (fun _ h => by cases h) (by kernel_rfl) (fun _ h => by cases h) fnOpenTurned_row_tie rfl ⟨rfl, rfl⟩ (by kernel_rfl) rfl
    (fun f fn hf hfn => by
      obtain rfl : f = 9 := Option.some.inj ((show Tryd.prog.funcNamed "loop.example/pub-g03031/laws.FnOpenTurned" = some 9 by kernel_rfl).symm.trans hf) |>.symm
      obtain rfl : fn = Tryd.f9 := (Option.some.inj (Tryd.func9.symm.trans hfn)).symm
      exact ⟨by kernel_rfl, fun j t ht => noStand Tryd.f9.params.toList (by rw [Tryd.params9]; decide) j t (by simpa using ht)⟩)
    (by kernel_rfl)
end Go.Proofs.YtfilandehjmikaaDoor
