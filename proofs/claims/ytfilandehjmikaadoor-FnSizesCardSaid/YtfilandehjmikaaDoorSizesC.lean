/- The law FnSizes: for every mode and key it answers true and leaves its arguments alone; the card, tied to the program's text. No condition. -/
import Derived.Test.YtfilandehjmikaaDoorSizes
import Derived.Test.YtfilandehjmikaaDoorRow
import Derived.SevenTiedAt
namespace Go.Proofs.YtfilandehjmikaaDoor
open Go.ChangeShapes Go.WideShapes Go.RowKit Go.Proofs.YtfilandehjmikaaDoor.Sx

theorem emp {α : Type} {l : List α} {Q : α → Prop} (h : l = []) : ∀ p ∈ l, Q p := by subst h; intro p hp; cases hp
theorem oneIface (a : Option Addr) : (Value.iface 91 (.pointer a)).oneCell' = true := rfl
theorem sz_gok : GOk g2 blG m2.length := fun g i h => by
  unfold g2 lookG at h
  split at h
  · rename_i hb; cases h; rw [← Nat.eq_of_beq_eq_true hb]; exact ⟨rfl, by decide⟩
  · unfold lookG at h
    split at h
    · rename_i hb; cases h; rw [← Nat.eq_of_beq_eq_true hb]; exact ⟨rfl, by decide⟩
    · cases h
theorem sz_nil {W : World} {a2 a3 : Addr} (h2 : W.cell? ⟨2, 0, none⟩ = some (.iface 91 (.pointer (some a2)))) (h3 : W.cell? ⟨3, 0, none⟩ = some (.iface 91 (.pointer (some a3)))) {mode : Int} (h : endsTrue (szRun nilG (.v (.int .i64 mode)) (.v (.slice none 0 0)) m2) = true) :
    Calls Tryd.prog 3 #[.int .i64 mode, .slice none 0 0] W fun e w' => e = .returned (.bool true) ∧ Below W.heap.size W w' := by
  have hE : EnvOk (szEnv [] [] (.bool true) (.iface 91 (.pointer (some a2))) (.iface 91 (.pointer (some a3))) 0 mode) := szEnv_ok rfl (oneIface _) (oneIface _) (by simp) (by simp)
  exact sz_go (E := szEnv [] [] (.bool true) (.iface 91 (.pointer (some a2))) (.iface 91 (.pointer (some a3))) 0 mode) ⟨hE, emp rfl, emp rfl, errC_ok rfl rfl, emp rfl, emp rfl⟩ (m2_rel h2 h3 (cell_lt h3)) sz_gok rfl rfl h rfl rfl
theorem sz_right {W : World} {a2 a3 : Addr} (h2 : W.cell? ⟨2, 0, none⟩ = some (.iface 91 (.pointer (some a2)))) (h3 : W.cell? ⟨3, 0, none⟩ = some (.iface 91 (.pointer (some a3)))) {mode : Int} {k cap : Nat} {a : Addr} {bs : List Int}
    (hb : ∀ n ∈ bs, (Lit.int .u8 n).wf = true) (hk : bs.length = k) (hle : k ≤ cap) (hc : ∀ (j : Nat) (x : Value), (bs.map (Value.int .u8))[j]? = some x → W.cell? (a.add j) = some x)
    (h : endsTrue (szRun (rightG k) (.v (.int .i64 mode)) (.o 0) m2) = true) :
    Calls Tryd.prog 3 #[.int .i64 mode, .slice (some a) k cap] W fun e w' => e = .returned (.bool true) ∧ Below W.heap.size W w' := by
  have hE : EnvOk (szEnv bs [] (.slice (some a) k cap) (.iface 91 (.pointer (some a2))) (.iface 91 (.pointer (some a3))) 0 mode) := szEnv_ok rfl (oneIface _) (oneIface _) (by simp) (by simp)
  have get : ∀ i, i < k → bs[i]? = some (bs.getD i 0) := fun i hi => by
    rw [List.getElem?_eq_getElem (by omega), List.getD, List.getElem?_eq_getElem (by omega)]; rfl
  refine sz_go (E := szEnv bs [] (.slice (some a) k cap) (.iface 91 (.pointer (some a2))) (.iface 91 (.pointer (some a3))) 0 mode) ⟨hE, emp rfl, emp rfl, errC_ok rfl rfl, so_bytes (cap := cap) (a := a) (bs := bs) rfl hle (fun i hi => hc i _ ?_) (fun _ _ => rfl) (fun i hi => hb _ (List.mem_of_getElem? (get i hi))), emp rfl⟩ (m2_rel h2 h3 (cell_lt h3)) sz_gok rfl rfl h rfl rfl
  rw [List.getElem?_map, get i hi]; rfl
theorem sz_wrong {W : World} {a2 a3 : Addr} (h2 : W.cell? ⟨2, 0, none⟩ = some (.iface 91 (.pointer (some a2)))) (h3 : W.cell? ⟨3, 0, none⟩ = some (.iface 91 (.pointer (some a3)))) {mode : Int} {k : Int} {cap : Nat} {a : Addr} {bs : List Int}
    (h4 : bs.length ≤ 4096) (hk : (bs.length : Int) ≠ k) (hle : bs.length ≤ cap) (hc : ∀ (j : Nat) (x : Value), (bs.map (Value.int .u8))[j]? = some x → W.cell? (a.add j) = some x)
    (h : endsTrue (szRun (wrongG k) (.v (.int .i64 mode)) (.o 0) m2) = true) :
    Calls Tryd.prog 3 #[.int .i64 mode, .slice (some a) bs.length cap] W fun e w' => e = .returned (.bool true) ∧ Below W.heap.size W w' := by
  have hE : EnvOk (szEnv [] (bs.map (Value.int .u8)) (.slice (some a) bs.length cap) (.iface 91 (.pointer (some a2))) (.iface 91 (.pointer (some a3))) 0 mode) := szEnv_ok rfl (oneIface _) (oneIface _) (by simp; omega) (by simp [Value.oneCell'])
  refine sz_go (E := szEnv [] (bs.map (Value.int .u8)) (.slice (some a) bs.length cap) (.iface 91 (.pointer (some a2))) (.iface 91 (.pointer (some a3))) 0 mode) ⟨hE, emp rfl, emp rfl, cmAppend (cmAppend (errC_ok rfl rfl) (nilC_ok rfl)) (lenC_ok (L := bs.length) (by simp [szEnv]) h4 hk), fun p hp => ?_, emp rfl⟩ (m2_rel h2 h3 (cell_lt h3)) sz_gok rfl rfl h rfl rfl
  have hp' : p = (0, 1, []) := by simpa [wrongG] using hp
  subst hp'
  exact ⟨rfl, .inr ⟨a, cap, by simp [rowOf, szEnv], by simpa [rowOf, szEnv] using hle, fun j x hx => hc j x (by simpa [rowOf, szEnv] using hx)⟩⟩
theorem sizes_calls {W : World} {a2 a3 : Addr} (h2 : W.cell? ⟨2, 0, none⟩ = some (.iface 91 (.pointer (some a2)))) (h3 : W.cell? ⟨3, 0, none⟩ = some (.iface 91 (.pointer (some a3)))) (mode : Int) {key : Value} {bs : List Int}
    (hb : ∀ n ∈ bs, (Lit.int .u8 n).wf = true) (hs : SlV W key (bs.map (Value.int .u8))) :
    Calls Tryd.prog 3 #[.int .i64 mode, key] W fun e w' => e = .returned (.bool true) ∧ Below W.heap.size W w' := by
  rcases hs with ⟨rfl, _⟩ | ⟨a, cap, rfl, hle, hc⟩
  · by_cases ho : 0 ≤ mode ∧ mode ≤ 2
    · obtain rfl | rfl | rfl : mode = 0 ∨ mode = 1 ∨ mode = 2 := by omega
      · exact sz_nil h2 h3 r_nil0
      · exact sz_nil h2 h3 r_nil1
      · exact sz_nil h2 h3 r_nil2
    · exact sz_outer (len := 0) rfl (by omega)
  · simp only [List.length_map] at hle ⊢
    by_cases ho : 0 ≤ mode ∧ mode ≤ 2 ∧ bs.length ≤ 4096
    · obtain rfl | rfl | rfl : mode = 0 ∨ mode = 1 ∨ mode = 2 := by omega
      · by_cases hk : bs.length = 16
        · rw [hk] at hle ⊢; exact sz_right h2 h3 hb hk hle hc r_right0
        · exact sz_wrong h2 h3 ho.2.2 (by omega) hle hc r_wrong0
      · by_cases hk : bs.length = 16
        · rw [hk] at hle ⊢; exact sz_right h2 h3 hb hk hle hc r_right1
        · exact sz_wrong h2 h3 ho.2.2 (by omega) hle hc r_wrong1
      · by_cases hk : bs.length = 20
        · rw [hk] at hle ⊢; exact sz_right h2 h3 hb hk hle hc r_right2
        · exact sz_wrong h2 h3 ho.2.2 (by omega) hle hc r_wrong2
    · exact sz_outer rfl ho

theorem glob2 : Tryd.prog.globalNamed "loop.example/pub-g03031/pub/circl/cipher/ascon.ErrKeySize" = some 2 := by kernel_rfl
theorem glob3 : Tryd.prog.globalNamed "loop.example/pub-g03031/pub/circl/cipher/ascon.ErrMode" = some 3 := by kernel_rfl
theorem gty2 : (Tryd.prog.globals[2]?).map (·.type) = some 55 := by kernel_rfl
theorem gty3 : (Tryd.prog.globals[3]?).map (·.type) = some 55 := by kernel_rfl
theorem sizes_vars (W : World) (h : laidMetH Tryd.prog Rows.fnSizesRow.laid W) : ∀ n ∈ Rows.fnSizesSpec.vars, (∃ g, Tryd.prog.globalNamed n = some g ∧ (Tryd.prog.globals[g]?).map (·.type) = some 55) ∧ ∃ a, W.var? Tryd.prog n = some #[.iface 91 (.pointer (some a))] := by
  have h' : laidMet Tryd.prog Rows.fnSizesRow.laid W := h
  intro n hn
  simp only [Rows.fnSizesSpec, List.mem_cons, List.not_mem_nil, or_false] at hn
  rcases hn with rfl | rfl
  · exact ⟨⟨2, glob2, gty2⟩, sentinel_of_laid h' (List.mem_cons_self ..) glob2 gty2⟩
  · exact ⟨⟨3, glob3, gty3⟩, sentinel_of_laid h' (List.mem_cons_of_mem _ (List.mem_cons_self ..)) glob3 gty3⟩
set_option maxRecDepth 100000 in
theorem sizes_lifted (os : Os) (started : os.Started) (H : Type) (enc : TypeId × Value → H) :
    ReturnsInHanded {} Tryd.checked os 3 .any (fun w args => (Rows.fnSizesSpec.pre enc Tryd.prog Tryd.f3 Rows.fnSizesRow.domain Rows.fnSizesRow.apart w args ∧ laidMetH Tryd.prog Rows.fnSizesRow.laid w) ∧ sizedMet enc Tryd.prog Tryd.f3 (OpenSpec.ofChange Rows.fnSizesSpec) Rows.fnSizesRow.apart w args)
      (Rows.fnSizesSpec.post enc Tryd.prog Tryd.f3 Rows.fnSizesRow.apart Rows.fnSizesRow.fresh Rows.fnSizesRow.handsOn Rows.fnSizesRow.again) := by
  refine lawRow started Tryd.func3 (by rw [Tryd.params3]; decide) (by kernel_rfl) (by kernel_rfl) (fun ds gs h1 h2 => ?_) sizes_vars
    (ChangeSpec.witness_at (enc := enc) (C := Tryd.checked) (os := os) (X := fun w _ => laidMetH Tryd.prog Rows.fnSizesRow.laid w) false (laidWorld os) #[.int .i64 0, .slice none 0 0] 8 rfl (by kernel_rfl) (by kernel_rfl) (by kernel_rfl) (by kernel_rfl) (by kernel_rfl) (laid_sizes os _)) ?_
  · rw [Tryd.params3] at h1
    match ds, gs, h1, h2 with
    | [d1, d2], [g1, g2], _, _ => rfl
  · intro W args l1 l2 hv
    rw [Tryd.params3] at l1 l2
    obtain ⟨l⟩ := args
    match l, l1, l2 with
    | [v0, v1], _, l2 =>
      rcases l2 0 3 v0 rfl rfl with ⟨_, n, rfl⟩ | ⟨h, _⟩
      case inr => cases h
      rcases l2 1 22 v1 rfl rfl with ⟨h, _⟩ | ⟨_, bs, hb, hs⟩
      · cases h
      obtain ⟨a2, k2⟩ := hv _ (List.mem_cons_self ..)
      obtain ⟨a3, k3⟩ := hv _ (List.mem_cons_of_mem _ (List.mem_cons_self ..))
      exact sizes_calls (by simpa using World.var?_cell glob2 k2 0) (by simpa using World.var?_cell glob3 k3 0) n hb hs
theorem sizes_row : Rows.FnSizesSaid :=
  OpenClaim.holds_of_wide 3 Tryd.f3 rfl rfl rfl rfl rfl rfl rfl ⟨rfl, rfl, rfl, rfl, rfl⟩ rfl rfl rfl rfl rfl (by kernel_rfl) Tryd.func3 (by kernel_rfl)
    (of_decide_eq_true (by kernel_rfl)) (by unfold Func.isWrapper; first | (rw [if_pos (by decide +kernel)]; kernel_rfl) | (rw [if_neg (by decide +kernel)]; exact ⟨rfl, rfl⟩))
    (fun os started H enc _ => sizes_lifted os started H enc)
theorem sizes_holds : Rows.FnSizesCardSaid :=
  Claim7.holds_tied_plain_at .later [] [.sentinel, .sentinel] true (true, "dcddebe8a57cbc5ec5d1ef1f265641341a710f1c3173d232f1a5a14498c1ce81") false
    sizes_row (fun _ h => by cases h) (by kernel_rfl) (fun _ h => by cases h) fnSizes_row_tie rfl ⟨rfl, rfl⟩ (by kernel_rfl) rfl
    (fun f fn hf hfn => by
      obtain rfl : f = 3 := Option.some.inj ((show Tryd.prog.funcNamed "loop.example/pub-g03031/laws.FnSizes" = some 3 by kernel_rfl).symm.trans hf) |>.symm
      obtain rfl : fn = Tryd.f3 := (Option.some.inj (Tryd.func3.symm.trans hfn)).symm
      exact ⟨by kernel_rfl, fun j t ht => noStand Tryd.f3.params.toList (by rw [Tryd.params3]; decide) j t (by simpa using ht)⟩)
    (by kernel_rfl)
end Go.Proofs.YtfilandehjmikaaDoor
