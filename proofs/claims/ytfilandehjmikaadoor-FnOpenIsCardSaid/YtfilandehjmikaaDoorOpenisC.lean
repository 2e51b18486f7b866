/- The law FnOpenIs: the card, tied to the program's text. No condition. -/
import Derived.Test.YtfilandehjmikaaDoorOpenis
import Derived.SevenTiedAt
namespace Go.Proofs.YtfilandehjmikaaDoor
open Go.ChangeShapes Go.WideShapes Go.RowKit Go.Proofs.YtfilandehjmikaaDoor.Sx Go.Proofs.YtfilandehjmikaaDoor.Asc

theorem fnOpenIsGlob0 : Tryd.prog.globalNamed "loop.example/pub-g03031/pub/circl/cipher/ascon.ErrNonceSize" = some 0 := by kernel_rfl
theorem fnOpenIsGty0 : (Tryd.prog.globals[0]?).map (·.type) = some 55 := by kernel_rfl
theorem fnOpenIsGlob1 : Tryd.prog.globalNamed "loop.example/pub-g03031/pub/circl/cipher/ascon.ErrDecryption" = some 1 := by kernel_rfl
theorem fnOpenIsGty1 : (Tryd.prog.globals[1]?).map (·.type) = some 55 := by kernel_rfl
theorem fnOpenIsGlob2 : Tryd.prog.globalNamed "loop.example/pub-g03031/pub/circl/cipher/ascon.ErrKeySize" = some 2 := by kernel_rfl
theorem fnOpenIsGty2 : (Tryd.prog.globals[2]?).map (·.type) = some 55 := by kernel_rfl
theorem fnOpenIsGlob3 : Tryd.prog.globalNamed "loop.example/pub-g03031/pub/circl/cipher/ascon.ErrMode" = some 3 := by kernel_rfl
theorem fnOpenIsGty3 : (Tryd.prog.globals[3]?).map (·.type) = some 55 := by kernel_rfl
theorem fnOpenIs_vars (W : World) (h : laidMetH Tryd.prog Rows.fnOpenIsRow.laid W) : ∀ n ∈ Rows.fnOpenIsSpec.vars, (∃ g, Tryd.prog.globalNamed n = some g ∧ (Tryd.prog.globals[g]?).map (·.type) = some 55) ∧ ∃ a, W.var? Tryd.prog n = some #[.iface 91 (.pointer (some a))] := by
  have h' : laidMet Tryd.prog Rows.fnOpenIsRow.laid W := h
  intro n hn
  simp only [Rows.fnOpenIsSpec, List.mem_cons, List.not_mem_nil, or_false] at hn
  rcases hn with rfl | rfl | rfl | rfl
  · exact ⟨⟨2, fnOpenIsGlob2, fnOpenIsGty2⟩, sentinel_of_laid h' (List.mem_cons_self ..) fnOpenIsGlob2 fnOpenIsGty2⟩
  · exact ⟨⟨3, fnOpenIsGlob3, fnOpenIsGty3⟩, sentinel_of_laid h' (List.mem_cons_of_mem _ (List.mem_cons_of_mem _ (List.mem_cons_of_mem _ (List.mem_cons_self ..)))) fnOpenIsGlob3 fnOpenIsGty3⟩
  · exact ⟨⟨0, fnOpenIsGlob0, fnOpenIsGty0⟩, sentinel_of_laid h' (List.mem_cons_of_mem _ (List.mem_cons_self ..)) fnOpenIsGlob0 fnOpenIsGty0⟩
  · exact ⟨⟨1, fnOpenIsGlob1, fnOpenIsGty1⟩, sentinel_of_laid h' (List.mem_cons_of_mem _ (List.mem_cons_of_mem _ (List.mem_cons_self ..))) fnOpenIsGlob1 fnOpenIsGty1⟩
theorem fnOpenIs_laid (os : Os) (args : Array Value) : laidMet Tryd.prog Rows.fnOpenIsRow.laid ((laidWorld os).forCall (fun _ _ => 0) ⟨#[], args, []⟩).memory :=
  laidMet_of_run (ps := [.cell 2 0, .cell (low + 2) 0, .cell 0 0, .cell (low + 0) 0, .cell 1 0, .cell (low + 1) 0, .cell 3 0, .cell (low + 3) 0]) 8 (by kernel_rfl) (by kernel_rfl) (by kernel_rfl)
set_option maxRecDepth 100000 in
theorem fnOpenIs_lifted (os : Os) (started : os.Started) (H : Type) (enc : TypeId × Value → H) :
    ReturnsInHanded {} Tryd.checked os 6 .any (fun w args => (Rows.fnOpenIsSpec.pre enc Tryd.prog Tryd.f6 Rows.fnOpenIsRow.domain Rows.fnOpenIsRow.apart w args ∧ laidMetH Tryd.prog Rows.fnOpenIsRow.laid w) ∧ sizedMet enc Tryd.prog Tryd.f6 (OpenSpec.ofChange Rows.fnOpenIsSpec) Rows.fnOpenIsRow.apart w args)
      (Rows.fnOpenIsSpec.post enc Tryd.prog Tryd.f6 Rows.fnOpenIsRow.apart Rows.fnOpenIsRow.fresh Rows.fnOpenIsRow.handsOn Rows.fnOpenIsRow.again) := by
  refine lawRow started Tryd.func6 (by rw [Tryd.params6]; decide) (by kernel_rfl) (by kernel_rfl) (fun ds gs h1 h2 => ?_) fnOpenIs_vars
    (ChangeSpec.witness_at (enc := enc) (C := Tryd.checked) (os := os) (X := fun w _ => laidMetH Tryd.prog Rows.fnOpenIsRow.laid w) false (laidWorld os) #[.int .i64 0, .slice none 0 0, .slice none 0 0, .slice none 0 0, .slice none 0 0] 8 rfl (by kernel_rfl) (by kernel_rfl) (by kernel_rfl) (by kernel_rfl) (by kernel_rfl) (fnOpenIs_laid os _)) ?_
  · rw [Tryd.params6] at h1
    match ds, gs, h1, h2 with
    | [d1, d2, d3, d4, d5], [g1, g2, g3, g4], _, _ => rfl
  · intro W args l1 l2 hv
    rw [Tryd.params6] at l1 l2
    obtain ⟨l⟩ := args
    match l, l1, l2 with
    | [v0, v1, v2, v3, v4], _, l2 =>
      obtain ⟨n0, rfl⟩ : ∃ n : Int, v0 = .int .i64 n := by
        rcases l2 0 3 v0 rfl rfl with ⟨_, h⟩ | ⟨h, _⟩
        · exact h
        · cases h
      obtain ⟨b1, s1⟩ : ∃ b : List B8, SlV W v1 (vals b) := by
        rcases l2 1 22 v1 rfl rfl with ⟨h, _⟩ | ⟨_, bs, hb, hs⟩
        · cases h
        · obtain ⟨b, e⟩ := b8_of hb; exact ⟨b, e ▸ hs⟩
      obtain ⟨b2, s2⟩ : ∃ b : List B8, SlV W v2 (vals b) := by
        rcases l2 2 22 v2 rfl rfl with ⟨h, _⟩ | ⟨_, bs, hb, hs⟩
        · cases h
        · obtain ⟨b, e⟩ := b8_of hb; exact ⟨b, e ▸ hs⟩
      obtain ⟨b3, s3⟩ : ∃ b : List B8, SlV W v3 (vals b) := by
        rcases l2 3 22 v3 rfl rfl with ⟨h, _⟩ | ⟨_, bs, hb, hs⟩
        · cases h
        · obtain ⟨b, e⟩ := b8_of hb; exact ⟨b, e ▸ hs⟩
      obtain ⟨b4, s4⟩ : ∃ b : List B8, SlV W v4 (vals b) := by
        rcases l2 4 22 v4 rfl rfl with ⟨h, _⟩ | ⟨_, bs, hb, hs⟩
        · cases h
        · obtain ⟨b, e⟩ := b8_of hb; exact ⟨b, e ▸ hs⟩
      obtain ⟨a1, k1⟩ := hv _ (List.mem_cons_of_mem _ (List.mem_cons_of_mem _ (List.mem_cons_of_mem _ (List.mem_cons_self ..))))
      exact openis_calls (by simpa using World.var?_cell fnOpenIsGlob1 k1 0) s1 s2 s3 s4
theorem fnOpenIs_row : Rows.FnOpenIsSaid :=
  OpenClaim.holds_of_wide 6 Tryd.f6 rfl rfl rfl rfl rfl rfl rfl ⟨rfl, rfl, rfl, rfl, rfl⟩ rfl rfl rfl rfl rfl (by kernel_rfl) Tryd.func6 (by kernel_rfl)
    (of_decide_eq_true (by kernel_rfl)) (by unfold Func.isWrapper; first | (rw [if_pos (by decide +kernel)]; kernel_rfl) | (rw [if_neg (by decide +kernel)]; exact ⟨rfl, rfl⟩))
    (fun os started H enc _ => fnOpenIs_lifted os started H enc)
theorem fnOpenIs_holds : Rows.FnOpenIsCardSaid :=
  Claim7.holds_tied_plain_at .later [] [.sentinel, .sentinel, .sentinel, .sentinel] true (true, "dcddebe8a57cbc5ec5d1ef1f265641341a710f1c3173d232f1a5a14498c1ce81") false
    fnOpenIs_row (fun _ h => by cases h) (by kernel_rfl) (fun _ h => by cases h) fnOpenIs_row_tie rfl ⟨rfl, rfl⟩ (by kernel_rfl) rfl
    (fun f fn hf hfn => by
      obtain rfl : f = 6 := Option.some.inj ((show Tryd.prog.funcNamed "loop.example/pub-g03031/laws.FnOpenIs" = some 6 by kernel_rfl).symm.trans hf) |>.symm
      obtain rfl : fn = Tryd.f6 := (Option.some.inj (Tryd.func6.symm.trans hfn)).symm
      exact ⟨by kernel_rfl, fun j t ht => noStand Tryd.f6.params.toList (by rw [Tryd.params6]; decide) j t (by simpa using ht)⟩)
    (by kernel_rfl)
end Go.Proofs.YtfilandehjmikaaDoor
