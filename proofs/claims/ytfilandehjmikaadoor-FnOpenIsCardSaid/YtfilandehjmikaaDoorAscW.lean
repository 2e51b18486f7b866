/- Ascon's permutation in the code and in the specification: what each does, for 0 to 12 rounds. No condition. -/
import Derived.Test.YtfilandehjmikaaDoorSxX
import Derived.Test.YtfilandehjmikaaDoorAscL
import Derived.Test.YtfilandehjmikaaDoorChecked
import Derived.LoopN
namespace Go.Proofs.YtfilandehjmikaaDoor.Asc
open Go.RowKit Go.Proofs.YtfilandehjmikaaDoor.Sx

noncomputable def bodyOf (f : Nat) : Code := match Tryd.prog.funcs[f]? with
  | some fn => match fn.body with
    | some c => c
    | none => .skip
  | none => .skip
def pA : Code → Code
  | .seq x _ => x
  | c => c
def pB : Code → Code
  | .seq _ x => x
  | c => c
def pK : Code → Code
  | .block _ x => x
  | c => c
def pL : Code → Code
  | .loop x => x
  | c => c
abbrev i64 (n : Nat) : AV := .one (.c (.v (.int .i64 (Int.ofNat n))))
abbrev u64 (k : Nat) : AV := .one (.c (.w .u64 (.s k)))
def x5 (B : Nat) : List (Nat × AV) := [(4, u64 B), (5, u64 (B + 1)), (6, u64 (B + 2)), (7, u64 (B + 3)), (8, u64 (B + 4))]
def c5 (B : Nat) : List AC := [.w .u64 (.s B), .w .u64 (.s (B + 1)), .w .u64 (.s (B + 2)), .w .u64 (.s (B + 3)), .w .u64 (.s (B + 4))]
def z5 : List AC := [.v (.int .u64 0), .v (.int .u64 0), .v (.int .u64 0), .v (.int .u64 0), .v (.int .u64 0)]
theorem cfgOk0 {E : Env} {w0 : World} (hE : EnvOk E) {r : List (T × T)} (h : ∀ p ∈ r, p.1.den E = p.2.den E) : CfgOk Tryd.prog E w0 { r := r } :=
  ⟨hE, h, (fun _ hp => nomatch hp), (fun _ hp => nomatch hp), (fun _ hp => nomatch hp), (fun _ hp => nomatch hp), (fun _ hp => nomatch hp)⟩
theorem mix : Tryd.prog.follows .mixedOrders = true := by kernel_rfl
theorem ent8 : Enters Tryd.prog 49 := fun _ _ => by kernel_rfl
theorem ent9 : Enters Tryd.prog 50 := fun _ _ => by kernel_rfl
theorem ent11 : Enters Tryd.prog 54 := fun _ _ => by kernel_rfl
theorem ent12 : Enters Tryd.prog 53 := fun _ _ => by kernel_rfl

/-- Rounds by closed checks, one for each. -/
theorem loop12 {E : Env} {nt k s0 dp : Nat} {c : Code} {L : Nat → List (Nat × AV)} {M : Nat → List MB} {R : Nat → List (T × T)} {fs : List FuncId} {w0 : World} {Q : Exit → Act → World → Prop}
    (hrun : ∀ i, i < 12 → endsAt .nrm (L (i + 1)) (M (i + 1)) (aCode Tryd.prog { r := R i } (callN Tryd.prog { r := R i } noK fs 100 dp) nt 100 c (mkTr (L i)) (M i)) = true)
    (hexit : endsAt (.exit 0) (L 12) (M 12) (aCode Tryd.prog {} noK nt 100 c (mkTr (L 12)) (M 12)) = true)
    (hlen : ∀ i, (M i).length = k) (hR : ∀ i, s0 ≤ i → i < 12 → ∀ p ∈ R i, p.1.den E = p.2.den E) (hE : EnvOk E) (hfs : ∀ f ∈ fs, Enters Tryd.prog f) :
    ∀ d i, i + d = 12 → s0 ≤ i → ∀ bl a w, SRel E bl w0 {} nt (mkTr (L i)) (M i) a w → (∀ bl' a' w', Agree k bl bl' → SRel E bl' w0 {} nt (mkTr (L 12)) (M 12) a' w' → Q (.exit 0) a' w') →
      Code.rounds Tryd.prog c Q (d + 1) a w := by
  intro d
  induction d with
  | zero =>
    intro i hi _ bl a w hs hq
    have hi' : i = 12 := by omega
    subst hi'
    rw [rounds_succ]
    exact code_wp (cfgOk0 hE fun p hp => by cases hp) noK_ok mix hexit (Nat.le_refl _) hs fun bl' a' w' ha hs' => hq bl' a' w' (hlen 12 ▸ ha) hs'
  | succ d ih =>
    intro i hi h0 bl a w hs hq
    rw [rounds_succ]
    have hG := cfgOk0 (w0 := w0) hE (hR i h0 (by omega))
    exact code_wp hG (callN_sound hG noK_ok mix hfs dp) mix (hrun i (by omega)) (by rw [hlen, hlen]; exact Nat.le_refl _) ⟨hs.defers, hs.size, hs.tmps, hs.mem, hs.glob⟩
      fun bl' a' w' ha hs' => ih (i + 1) (by omega) (by omega) bl' a' w' ⟨hs'.defers, hs'.size, hs'.tmps, hs'.mem, hs'.glob⟩ fun bl'' a'' w'' ha' hs'' => hq bl'' a'' w'' ((hlen i ▸ ha).trans ha' (Nat.le_refl _)) hs''

/-! ### the code's -/
noncomputable def b10 : Code := bodyOf 47
noncomputable def pR0 : Code := pA b10
noncomputable def pR1 : Code := pA (pA (pB b10))
noncomputable def pLp : Code := pL (pK (pB (pA (pB b10))))
noncomputable def pR27 : Code := pB (pB b10)
theorem b10_eq : b10 = .seq pR0 (.seq (.seq pR1 (.block 0 (.loop pLp))) pR27) := by kernel_rfl
def Lp (i : Nat) : List (Nat × AV) := [(9, i64 i), (1, .one (.c (.ptr 0 0)))] ++ x5 (10 * i)
def Mp (B : Nat) : List MB := [⟨c5 B, true, true, false, 0, false⟩]
theorem prun0 : endsAt .nrm ([(0, .one (.c (.o 0))), (1, .one (.c (.ptr 0 0)))] ++ x5 200) (Mp 200) (aCode Tryd.prog {} noK 156 100 pR0 (mkTr [(0, .one (.c (.o 0))), (1, .one (.c (.ptr 0 0)))]) (Mp 200)) = true := by kernel_rfl
theorem prun1_0 : endsAt .nrm (Lp 12) (Mp 200) (aCode Tryd.prog {} noK 156 100 pR1 (mkTr ([(0, i64 0), (1, .one (.c (.ptr 0 0)))] ++ x5 (10 * 12))) (Mp 200)) = true := by kernel_rfl
theorem prun1_1 : endsAt .nrm (Lp 11) (Mp 200) (aCode Tryd.prog {} noK 156 100 pR1 (mkTr ([(0, i64 1), (1, .one (.c (.ptr 0 0)))] ++ x5 (10 * 11))) (Mp 200)) = true := by kernel_rfl
theorem prun1_2 : endsAt .nrm (Lp 10) (Mp 200) (aCode Tryd.prog {} noK 156 100 pR1 (mkTr ([(0, i64 2), (1, .one (.c (.ptr 0 0)))] ++ x5 (10 * 10))) (Mp 200)) = true := by kernel_rfl
theorem prun1_3 : endsAt .nrm (Lp 9) (Mp 200) (aCode Tryd.prog {} noK 156 100 pR1 (mkTr ([(0, i64 3), (1, .one (.c (.ptr 0 0)))] ++ x5 (10 * 9))) (Mp 200)) = true := by kernel_rfl
theorem prun1_4 : endsAt .nrm (Lp 8) (Mp 200) (aCode Tryd.prog {} noK 156 100 pR1 (mkTr ([(0, i64 4), (1, .one (.c (.ptr 0 0)))] ++ x5 (10 * 8))) (Mp 200)) = true := by kernel_rfl
theorem prun1_5 : endsAt .nrm (Lp 7) (Mp 200) (aCode Tryd.prog {} noK 156 100 pR1 (mkTr ([(0, i64 5), (1, .one (.c (.ptr 0 0)))] ++ x5 (10 * 7))) (Mp 200)) = true := by kernel_rfl
theorem prun1_6 : endsAt .nrm (Lp 6) (Mp 200) (aCode Tryd.prog {} noK 156 100 pR1 (mkTr ([(0, i64 6), (1, .one (.c (.ptr 0 0)))] ++ x5 (10 * 6))) (Mp 200)) = true := by kernel_rfl
theorem prun1_7 : endsAt .nrm (Lp 5) (Mp 200) (aCode Tryd.prog {} noK 156 100 pR1 (mkTr ([(0, i64 7), (1, .one (.c (.ptr 0 0)))] ++ x5 (10 * 5))) (Mp 200)) = true := by kernel_rfl
theorem prun1_8 : endsAt .nrm (Lp 4) (Mp 200) (aCode Tryd.prog {} noK 156 100 pR1 (mkTr ([(0, i64 8), (1, .one (.c (.ptr 0 0)))] ++ x5 (10 * 4))) (Mp 200)) = true := by kernel_rfl
theorem prun1_9 : endsAt .nrm (Lp 3) (Mp 200) (aCode Tryd.prog {} noK 156 100 pR1 (mkTr ([(0, i64 9), (1, .one (.c (.ptr 0 0)))] ++ x5 (10 * 3))) (Mp 200)) = true := by kernel_rfl
theorem prun1_10 : endsAt .nrm (Lp 2) (Mp 200) (aCode Tryd.prog {} noK 156 100 pR1 (mkTr ([(0, i64 10), (1, .one (.c (.ptr 0 0)))] ++ x5 (10 * 2))) (Mp 200)) = true := by kernel_rfl
theorem prun1_11 : endsAt .nrm (Lp 1) (Mp 200) (aCode Tryd.prog {} noK 156 100 pR1 (mkTr ([(0, i64 11), (1, .one (.c (.ptr 0 0)))] ++ x5 (10 * 1))) (Mp 200)) = true := by kernel_rfl
theorem prun1_12 : endsAt .nrm (Lp 0) (Mp 200) (aCode Tryd.prog {} noK 156 100 pR1 (mkTr ([(0, i64 12), (1, .one (.c (.ptr 0 0)))] ++ x5 (10 * 0))) (Mp 200)) = true := by kernel_rfl
theorem prun1 : ∀ n, n ≤ 12 → endsAt .nrm (Lp (12 - n)) (Mp 200) (aCode Tryd.prog {} noK 156 100 pR1 (mkTr ([(0, i64 n), (1, .one (.c (.ptr 0 0)))] ++ x5 (10 * (12 - n)))) (Mp 200)) = true
  | 0, _ => prun1_0
  | 1, _ => prun1_1
  | 2, _ => prun1_2
  | 3, _ => prun1_3
  | 4, _ => prun1_4
  | 5, _ => prun1_5
  | 6, _ => prun1_6
  | 7, _ => prun1_7
  | 8, _ => prun1_8
  | 9, _ => prun1_9
  | 10, _ => prun1_10
  | 11, _ => prun1_11
  | 12, _ => prun1_12
  | n + 13, h => absurd h (by omega)
theorem prun2_0 : endsAt .nrm (Lp (0 + 1)) (Mp 200) (aCode Tryd.prog { r := implL 0 } (callN Tryd.prog { r := implL 0 } noK [53] 100 1) 156 100 pLp (mkTr (Lp 0)) (Mp 200)) = true := by kernel_rfl
theorem prun2_1 : endsAt .nrm (Lp (1 + 1)) (Mp 200) (aCode Tryd.prog { r := implL 1 } (callN Tryd.prog { r := implL 1 } noK [53] 100 1) 156 100 pLp (mkTr (Lp 1)) (Mp 200)) = true := by kernel_rfl
theorem prun2_2 : endsAt .nrm (Lp (2 + 1)) (Mp 200) (aCode Tryd.prog { r := implL 2 } (callN Tryd.prog { r := implL 2 } noK [53] 100 1) 156 100 pLp (mkTr (Lp 2)) (Mp 200)) = true := by kernel_rfl
theorem prun2_3 : endsAt .nrm (Lp (3 + 1)) (Mp 200) (aCode Tryd.prog { r := implL 3 } (callN Tryd.prog { r := implL 3 } noK [53] 100 1) 156 100 pLp (mkTr (Lp 3)) (Mp 200)) = true := by kernel_rfl
theorem prun2_4 : endsAt .nrm (Lp (4 + 1)) (Mp 200) (aCode Tryd.prog { r := implL 4 } (callN Tryd.prog { r := implL 4 } noK [53] 100 1) 156 100 pLp (mkTr (Lp 4)) (Mp 200)) = true := by kernel_rfl
theorem prun2_5 : endsAt .nrm (Lp (5 + 1)) (Mp 200) (aCode Tryd.prog { r := implL 5 } (callN Tryd.prog { r := implL 5 } noK [53] 100 1) 156 100 pLp (mkTr (Lp 5)) (Mp 200)) = true := by kernel_rfl
theorem prun2_6 : endsAt .nrm (Lp (6 + 1)) (Mp 200) (aCode Tryd.prog { r := implL 6 } (callN Tryd.prog { r := implL 6 } noK [53] 100 1) 156 100 pLp (mkTr (Lp 6)) (Mp 200)) = true := by kernel_rfl
theorem prun2_7 : endsAt .nrm (Lp (7 + 1)) (Mp 200) (aCode Tryd.prog { r := implL 7 } (callN Tryd.prog { r := implL 7 } noK [53] 100 1) 156 100 pLp (mkTr (Lp 7)) (Mp 200)) = true := by kernel_rfl
theorem prun2_8 : endsAt .nrm (Lp (8 + 1)) (Mp 200) (aCode Tryd.prog { r := implL 8 } (callN Tryd.prog { r := implL 8 } noK [53] 100 1) 156 100 pLp (mkTr (Lp 8)) (Mp 200)) = true := by kernel_rfl
theorem prun2_9 : endsAt .nrm (Lp (9 + 1)) (Mp 200) (aCode Tryd.prog { r := implL 9 } (callN Tryd.prog { r := implL 9 } noK [53] 100 1) 156 100 pLp (mkTr (Lp 9)) (Mp 200)) = true := by kernel_rfl
theorem prun2_10 : endsAt .nrm (Lp (10 + 1)) (Mp 200) (aCode Tryd.prog { r := implL 10 } (callN Tryd.prog { r := implL 10 } noK [53] 100 1) 156 100 pLp (mkTr (Lp 10)) (Mp 200)) = true := by kernel_rfl
theorem prun2_11 : endsAt .nrm (Lp (11 + 1)) (Mp 200) (aCode Tryd.prog { r := implL 11 } (callN Tryd.prog { r := implL 11 } noK [53] 100 1) 156 100 pLp (mkTr (Lp 11)) (Mp 200)) = true := by kernel_rfl
theorem prun2 : ∀ i, i < 12 → endsAt .nrm (Lp (i + 1)) (Mp 200) (aCode Tryd.prog { r := implL i } (callN Tryd.prog { r := implL i } noK [53] 100 1) 156 100 pLp (mkTr (Lp i)) (Mp 200)) = true
  | 0, _ => prun2_0
  | 1, _ => prun2_1
  | 2, _ => prun2_2
  | 3, _ => prun2_3
  | 4, _ => prun2_4
  | 5, _ => prun2_5
  | 6, _ => prun2_6
  | 7, _ => prun2_7
  | 8, _ => prun2_8
  | 9, _ => prun2_9
  | 10, _ => prun2_10
  | 11, _ => prun2_11
  | n + 12, h => absurd h (by omega)
theorem prunE : endsAt (.exit 0) (Lp 12) (Mp 200) (aCode Tryd.prog {} noK 156 100 pLp (mkTr (Lp 12)) (Mp 200)) = true := by kernel_rfl
theorem prun27 : endsAt .nrm [] (Mp 120) (aCode Tryd.prog {} noK 156 100 pR27 (mkTr (Lp 12)) (Mp 200)) = true := by kernel_rfl

/-- The words that the symbols stand for: the input from 200 on, and those of the rounds. -/
noncomputable def pEnv (n : Nat) (x : St) (v : Value) : Env := ⟨fun k => if k < 130 then wdAbs n x k else x.get (k - 200), fun _ _ _ _ _ _ _ => 0, fun _ => 0, fun _ => v, fun _ => []⟩
theorem pEnv_lt {n : Nat} {x : St} {v : Value} (k : Nat) (h : k < 130) : (pEnv n x v).wd k = wdAbs n x k := if_pos h
theorem pEnv_in {n : Nat} {x : St} {v : Value} (r : Nat) : (pEnv n x v).wd (200 + r) = x.get r := by
  show (if _ then _ else _) = _
  rw [if_neg (by omega), show 200 + r - 200 = r by omega]
theorem pEnv_start {n : Nat} {x : St} {v : Value} (hn : n ≤ 12) (r : Nat) (hr : r < 5) : (pEnv n x v).wd (10 * (12 - n) + r) = x.get r := by
  rw [pEnv_lt _ (by omega)]
  unfold wdAbs
  rw [show (10 * (12 - n) + r) % 10 = r by omega, show (10 * (12 - n) + r) / 10 = 12 - n by omega, if_pos hr, Nat.sub_self]
  rfl
theorem pEnv_end {n : Nat} {x : St} {v : Value} (hn : n ≤ 12) (r : Nat) (hr : r < 5) : (pEnv n x v).wd (120 + r) = (perm n x).get r := by
  rw [pEnv_lt _ (by omega)]
  unfold wdAbs
  rw [show (120 + r) % 10 = r by omega, show (120 + r) / 10 = 12 by omega, if_pos hr, show 12 - (12 - n) = n by omega]
  rfl
theorem pEnv_ok {n : Nat} {x : St} {v : Value} (hv : v.oneCell' = true) : EnvOk (pEnv n x v) := ⟨fun _ => hv, fun _ _ => Nat.zero_le _, fun _ => rfl, fun _ _ h => nomatch h⟩
theorem pEnv_impl {n : Nat} {x : St} {v : Value} (i : Nat) (h : 12 - n ≤ i) (hi : i < 12) : ∀ p ∈ implL i, p.1.den (pEnv n x v) = p.2.den (pEnv n x v) := by
  rw [implL_eq i hi]; exact implR_ok (isRound_abs (fun k hk => pEnv_lt k hk) i hi h)
theorem pEnv_spec {n : Nat} {x : St} {v : Value} (i : Nat) (h : 12 - n ≤ i) (hi : i < 12) : ∀ p ∈ specL i, p.1.den (pEnv n x v) = p.2.den (pEnv n x v) := by
  rw [specL_eq i hi]; exact specR_ok (isRound_abs (fun k hk => pEnv_lt k hk) i hi h)
def St.vals (s : St) : List Value := [.int .u64 (s.a.toNat : Int), .int .u64 (s.b.toNat : Int), .int .u64 (s.c.toNat : Int), .int .u64 (s.d.toNat : Int), .int .u64 (s.e.toNat : Int)]
theorem c5_end {n : Nat} {x : St} {v : Value} (hn : n ≤ 12) (bl : Bl) : (c5 120).map (AC.den (pEnv n x v) bl) = (perm n x).vals := by
  simp only [c5, List.map, AC.den, T.den]
  rw [pEnv_end hn 1 (by decide), pEnv_end hn 2 (by decide), pEnv_end hn 3 (by decide), pEnv_end hn 4 (by decide), show (pEnv n x v).wd 120 = _ from pEnv_end hn 0 (by decide)]
  rfl
theorem c5_in {n : Nat} {x : St} {v : Value} (bl : Bl) : (c5 200).map (AC.den (pEnv n x v) bl) = x.vals := by
  simp only [c5, List.map, AC.den, T.den]
  rw [pEnv_in 1, pEnv_in 2, pEnv_in 3, pEnv_in 4, show (pEnv n x v).wd 200 = _ from pEnv_in 0]
  rfl
theorem pEnv_five {n : Nat} {x : St} {v : Value} (hn : n ≤ 12) : ∀ r, r < 5 → (pEnv n x v).wd (200 + r) = (pEnv n x v).wd (10 * (12 - n) + r) := fun r hr => by rw [pEnv_in, pEnv_start hn r hr]
/-- The code's permutation turns the five words behind its pointer. -/
theorem perm_calls {n : Nat} (hn : n ≤ 12) {x : St} {w : World} {b o : Nat} (hlt : b < w.heap.size) (hc : ∀ (j : Nat) (v : Value), x.vals[j]? = some v → w.cell? ⟨b, o + j, none⟩ = some v)
    (hf : ∀ j, j < 5 → w.frozen? ⟨b, o + j, none⟩ = false) :
    Calls Tryd.prog 47 #[.int .i64 (n : Int), .pointer (some ⟨b, o, none⟩)] w fun e w' => e = .returned (.tuple #[]) ∧ Upd w w' b o (perm n x).vals := by
  have hb : b10 = bodyOf 47 := rfl
  have hE : EnvOk (pEnv n x (.int .i64 (n : Int))) := pEnv_ok rfl
  have hG := cfgOk0 (w0 := w) hE (r := []) fun p hp => by cases hp
  let bl : Bl := fun _ => (b, o)
  have hm : MRel (pEnv n x (.int .i64 (n : Int))) bl w (Mp 200) w := MRel.one rfl hlt (fun j y hy => hc j _ (by rw [← c5_in (n := n) (v := .int .i64 (n : Int)) bl, List.getElem?_map, hy]; rfl)) rfl hf
  obtain ⟨fn, hfn, hbody, hnt, hres⟩ : ∃ fn, Tryd.prog.funcs[47]? = some fn ∧ fn.body = some b10 ∧ fn.ntmps = 156 ∧ fn.results.toList = [] := ⟨_, rfl, rfl, rfl, rfl⟩
  refine calls_of_wp hfn hbody ?_
  have hst := start_rel (E := pEnv n x (.int .i64 (n : Int))) (w0 := w) (G := {}) (nt := fn.ntmps) (args := [.c (.o 0), .c (.ptr 0 0)]) hm (fun g i h => nomatch h) (by decide) (by rw [hnt]; decide)
  rw [hnt] at hst
  rw [hnt, b10_eq]
  refine wp_seq (code_wp hG noK_ok mix prun0 (Nat.le_refl _) hst fun bl1 a1 w1 ha1 h1 => ?_)
  have h1' : SRel (pEnv n x (.int .i64 (n : Int))) bl1 w {} 156 (mkTr ([(0, i64 n), (1, .one (.c (.ptr 0 0)))] ++ x5 (10 * (12 - n)))) (Mp 200) a1 w1 := by
    refine h1.move (fun p hp => ?_) rfl
    have five : ∀ r, r < 5 → (u64 (200 + r)).den (pEnv n x (.int .i64 (n : Int))) bl1 = (u64 (10 * (12 - n) + r)).den (pEnv n x (.int .i64 (n : Int))) bl1 := fun r hr => by
      simp only [AV.den, A1.den, AC.den, T.den]; rw [pEnv_five hn r hr]
    simp only [x5, List.cons_append, List.nil_append, List.mem_cons, List.not_mem_nil, or_false] at hp
    rcases hp with rfl | rfl | rfl | rfl | rfl | rfl | rfl
    · exact ⟨_, rfl, rfl, rfl⟩
    · exact ⟨_, rfl, rfl, rfl⟩
    · exact ⟨_, rfl, five 0 (by decide), rfl⟩
    · exact ⟨_, rfl, five 1 (by decide), rfl⟩
    · exact ⟨_, rfl, five 2 (by decide), rfl⟩
    · exact ⟨_, rfl, five 3 (by decide), rfl⟩
    · exact ⟨_, rfl, five 4 (by decide), rfl⟩
  refine wp_seq (wp_seq (code_wp hG noK_ok mix (prun1 n hn) (Nat.le_refl _) h1' fun bl2 a2 w2 ha2 h2 => ?_))
  refine wp_block (wp_loop_rounds (n + 1) (loop12 (s0 := 12 - n) (k := 1) (M := fun _ => Mp 200) (R := implL) prun2 prunE (fun _ => rfl) pEnv_impl hE (fun f hf => by
    rw [List.mem_singleton] at hf; subst hf; exact ent12) n (12 - n) (by omega) (Nat.le_refl _) bl2 a2 w2 h2 fun bl3 a3 w3 ha3 h3 => ?_))
  refine code_wp hG noK_ok mix prun27 (Nat.le_refl _) h3 fun bl4 a4 w4 ha4 h4 => ?_
  obtain ⟨g1, g2⟩ := ends_run (fn := fn) h4 (l := []) (by rw [hres]; rfl)
  refine ⟨h4.defers, _, g1, rfl, ?_⟩
  have hbl : bl4 0 = (b, o) := by
    rw [ha4 0 (by decide), ha3 0 (by decide), ha2 0 (by decide), ha1 0 (by decide)]
  have := MRel.one_upd hbl h4.mem rfl
  rwa [c5_end hn] at this

/-! ### the specification's -/
noncomputable def b6 : Code := bodyOf 38
noncomputable def sR0 : Code := pA b6
noncomputable def sR1 : Code := pA (pA (pB b6))
noncomputable def sLp : Code := pL (pK (pB (pA (pB b6))))
noncomputable def sR6 : Code := pB (pB b6)
theorem b6_eq : b6 = .seq sR0 (.seq (.seq sR1 (.block 0 (.loop sLp))) sR6) := by kernel_rfl
def Ls (i : Nat) : List (Nat × AV) := [(5, i64 i), (2, .one (.c (.ptr 0 0))), (4, .one (.c (.ptr 1 0)))]
def Ms (B : Nat) : List MB := [⟨c5 B, true, true, true, 0, false⟩, ⟨z5, true, true, true, 0, false⟩]
theorem srun0 : endsAt .nrm [(1, .one (.c (.o 0))), (2, .one (.c (.ptr 0 0))), (4, .one (.c (.ptr 1 0)))] (Ms 200) (aCode Tryd.prog {} noK 26 100 sR0 (mkTr [(0, .one (.a (c5 200))), (1, .one (.c (.o 0)))]) []) = true := by kernel_rfl
theorem srun1_0 : endsAt .nrm (Ls 12) (Ms (10 * 12)) (aCode Tryd.prog {} noK 26 100 sR1 (mkTr [(1, i64 0), (2, .one (.c (.ptr 0 0))), (4, .one (.c (.ptr 1 0)))]) (Ms (10 * 12))) = true := by kernel_rfl
theorem srun1_1 : endsAt .nrm (Ls 11) (Ms (10 * 11)) (aCode Tryd.prog {} noK 26 100 sR1 (mkTr [(1, i64 1), (2, .one (.c (.ptr 0 0))), (4, .one (.c (.ptr 1 0)))]) (Ms (10 * 11))) = true := by kernel_rfl
theorem srun1_2 : endsAt .nrm (Ls 10) (Ms (10 * 10)) (aCode Tryd.prog {} noK 26 100 sR1 (mkTr [(1, i64 2), (2, .one (.c (.ptr 0 0))), (4, .one (.c (.ptr 1 0)))]) (Ms (10 * 10))) = true := by kernel_rfl
theorem srun1_3 : endsAt .nrm (Ls 9) (Ms (10 * 9)) (aCode Tryd.prog {} noK 26 100 sR1 (mkTr [(1, i64 3), (2, .one (.c (.ptr 0 0))), (4, .one (.c (.ptr 1 0)))]) (Ms (10 * 9))) = true := by kernel_rfl
theorem srun1_4 : endsAt .nrm (Ls 8) (Ms (10 * 8)) (aCode Tryd.prog {} noK 26 100 sR1 (mkTr [(1, i64 4), (2, .one (.c (.ptr 0 0))), (4, .one (.c (.ptr 1 0)))]) (Ms (10 * 8))) = true := by kernel_rfl
theorem srun1_5 : endsAt .nrm (Ls 7) (Ms (10 * 7)) (aCode Tryd.prog {} noK 26 100 sR1 (mkTr [(1, i64 5), (2, .one (.c (.ptr 0 0))), (4, .one (.c (.ptr 1 0)))]) (Ms (10 * 7))) = true := by kernel_rfl
theorem srun1_6 : endsAt .nrm (Ls 6) (Ms (10 * 6)) (aCode Tryd.prog {} noK 26 100 sR1 (mkTr [(1, i64 6), (2, .one (.c (.ptr 0 0))), (4, .one (.c (.ptr 1 0)))]) (Ms (10 * 6))) = true := by kernel_rfl
theorem srun1_7 : endsAt .nrm (Ls 5) (Ms (10 * 5)) (aCode Tryd.prog {} noK 26 100 sR1 (mkTr [(1, i64 7), (2, .one (.c (.ptr 0 0))), (4, .one (.c (.ptr 1 0)))]) (Ms (10 * 5))) = true := by kernel_rfl
theorem srun1_8 : endsAt .nrm (Ls 4) (Ms (10 * 4)) (aCode Tryd.prog {} noK 26 100 sR1 (mkTr [(1, i64 8), (2, .one (.c (.ptr 0 0))), (4, .one (.c (.ptr 1 0)))]) (Ms (10 * 4))) = true := by kernel_rfl
theorem srun1_9 : endsAt .nrm (Ls 3) (Ms (10 * 3)) (aCode Tryd.prog {} noK 26 100 sR1 (mkTr [(1, i64 9), (2, .one (.c (.ptr 0 0))), (4, .one (.c (.ptr 1 0)))]) (Ms (10 * 3))) = true := by kernel_rfl
theorem srun1_10 : endsAt .nrm (Ls 2) (Ms (10 * 2)) (aCode Tryd.prog {} noK 26 100 sR1 (mkTr [(1, i64 10), (2, .one (.c (.ptr 0 0))), (4, .one (.c (.ptr 1 0)))]) (Ms (10 * 2))) = true := by kernel_rfl
theorem srun1_11 : endsAt .nrm (Ls 1) (Ms (10 * 1)) (aCode Tryd.prog {} noK 26 100 sR1 (mkTr [(1, i64 11), (2, .one (.c (.ptr 0 0))), (4, .one (.c (.ptr 1 0)))]) (Ms (10 * 1))) = true := by kernel_rfl
theorem srun1_12 : endsAt .nrm (Ls 0) (Ms (10 * 0)) (aCode Tryd.prog {} noK 26 100 sR1 (mkTr [(1, i64 12), (2, .one (.c (.ptr 0 0))), (4, .one (.c (.ptr 1 0)))]) (Ms (10 * 0))) = true := by kernel_rfl
theorem srun1 : ∀ n, n ≤ 12 → endsAt .nrm (Ls (12 - n)) (Ms (10 * (12 - n))) (aCode Tryd.prog {} noK 26 100 sR1 (mkTr [(1, i64 n), (2, .one (.c (.ptr 0 0))), (4, .one (.c (.ptr 1 0)))]) (Ms (10 * (12 - n)))) = true
  | 0, _ => srun1_0
  | 1, _ => srun1_1
  | 2, _ => srun1_2
  | 3, _ => srun1_3
  | 4, _ => srun1_4
  | 5, _ => srun1_5
  | 6, _ => srun1_6
  | 7, _ => srun1_7
  | 8, _ => srun1_8
  | 9, _ => srun1_9
  | 10, _ => srun1_10
  | 11, _ => srun1_11
  | 12, _ => srun1_12
  | n + 13, h => absurd h (by omega)
theorem srun2_0 : endsAt .nrm (Ls (0 + 1)) (Ms (10 * (0 + 1))) (aCode Tryd.prog { r := specL 0 } (callN Tryd.prog { r := specL 0 } noK [49, 50, 54, 53] 100 3) 26 100 sLp (mkTr (Ls 0)) (Ms (10 * 0))) = true := by kernel_rfl
theorem srun2_1 : endsAt .nrm (Ls (1 + 1)) (Ms (10 * (1 + 1))) (aCode Tryd.prog { r := specL 1 } (callN Tryd.prog { r := specL 1 } noK [49, 50, 54, 53] 100 3) 26 100 sLp (mkTr (Ls 1)) (Ms (10 * 1))) = true := by kernel_rfl
theorem srun2_2 : endsAt .nrm (Ls (2 + 1)) (Ms (10 * (2 + 1))) (aCode Tryd.prog { r := specL 2 } (callN Tryd.prog { r := specL 2 } noK [49, 50, 54, 53] 100 3) 26 100 sLp (mkTr (Ls 2)) (Ms (10 * 2))) = true := by kernel_rfl
theorem srun2_3 : endsAt .nrm (Ls (3 + 1)) (Ms (10 * (3 + 1))) (aCode Tryd.prog { r := specL 3 } (callN Tryd.prog { r := specL 3 } noK [49, 50, 54, 53] 100 3) 26 100 sLp (mkTr (Ls 3)) (Ms (10 * 3))) = true := by kernel_rfl
theorem srun2_4 : endsAt .nrm (Ls (4 + 1)) (Ms (10 * (4 + 1))) (aCode Tryd.prog { r := specL 4 } (callN Tryd.prog { r := specL 4 } noK [49, 50, 54, 53] 100 3) 26 100 sLp (mkTr (Ls 4)) (Ms (10 * 4))) = true := by kernel_rfl
theorem srun2_5 : endsAt .nrm (Ls (5 + 1)) (Ms (10 * (5 + 1))) (aCode Tryd.prog { r := specL 5 } (callN Tryd.prog { r := specL 5 } noK [49, 50, 54, 53] 100 3) 26 100 sLp (mkTr (Ls 5)) (Ms (10 * 5))) = true := by kernel_rfl
theorem srun2_6 : endsAt .nrm (Ls (6 + 1)) (Ms (10 * (6 + 1))) (aCode Tryd.prog { r := specL 6 } (callN Tryd.prog { r := specL 6 } noK [49, 50, 54, 53] 100 3) 26 100 sLp (mkTr (Ls 6)) (Ms (10 * 6))) = true := by kernel_rfl
theorem srun2_7 : endsAt .nrm (Ls (7 + 1)) (Ms (10 * (7 + 1))) (aCode Tryd.prog { r := specL 7 } (callN Tryd.prog { r := specL 7 } noK [49, 50, 54, 53] 100 3) 26 100 sLp (mkTr (Ls 7)) (Ms (10 * 7))) = true := by kernel_rfl
theorem srun2_8 : endsAt .nrm (Ls (8 + 1)) (Ms (10 * (8 + 1))) (aCode Tryd.prog { r := specL 8 } (callN Tryd.prog { r := specL 8 } noK [49, 50, 54, 53] 100 3) 26 100 sLp (mkTr (Ls 8)) (Ms (10 * 8))) = true := by kernel_rfl
theorem srun2_9 : endsAt .nrm (Ls (9 + 1)) (Ms (10 * (9 + 1))) (aCode Tryd.prog { r := specL 9 } (callN Tryd.prog { r := specL 9 } noK [49, 50, 54, 53] 100 3) 26 100 sLp (mkTr (Ls 9)) (Ms (10 * 9))) = true := by kernel_rfl
theorem srun2_10 : endsAt .nrm (Ls (10 + 1)) (Ms (10 * (10 + 1))) (aCode Tryd.prog { r := specL 10 } (callN Tryd.prog { r := specL 10 } noK [49, 50, 54, 53] 100 3) 26 100 sLp (mkTr (Ls 10)) (Ms (10 * 10))) = true := by kernel_rfl
theorem srun2_11 : endsAt .nrm (Ls (11 + 1)) (Ms (10 * (11 + 1))) (aCode Tryd.prog { r := specL 11 } (callN Tryd.prog { r := specL 11 } noK [49, 50, 54, 53] 100 3) 26 100 sLp (mkTr (Ls 11)) (Ms (10 * 11))) = true := by kernel_rfl
theorem srun2 : ∀ i, i < 12 → endsAt .nrm (Ls (i + 1)) (Ms (10 * (i + 1))) (aCode Tryd.prog { r := specL i } (callN Tryd.prog { r := specL i } noK [49, 50, 54, 53] 100 3) 26 100 sLp (mkTr (Ls i)) (Ms (10 * i))) = true
  | 0, _ => srun2_0
  | 1, _ => srun2_1
  | 2, _ => srun2_2
  | 3, _ => srun2_3
  | 4, _ => srun2_4
  | 5, _ => srun2_5
  | 6, _ => srun2_6
  | 7, _ => srun2_7
  | 8, _ => srun2_8
  | 9, _ => srun2_9
  | 10, _ => srun2_10
  | 11, _ => srun2_11
  | n + 12, h => absurd h (by omega)
theorem srunE : endsAt (.exit 0) (Ls 12) (Ms 120) (aCode Tryd.prog {} noK 26 100 sLp (mkTr (Ls 12)) (Ms 120)) = true := by kernel_rfl
theorem srun6 : endsAt .ret [(4, .one (.c (.ptr 1 0)))] [⟨c5 120, true, true, true, 0, false⟩, ⟨c5 120, true, true, true, 0, false⟩] (aCode Tryd.prog {} noK 26 100 sR6 (mkTr (Ls 12)) (Ms 120)) = true := by kernel_rfl
/-- The specification's permutation gives the five words, and turns nothing. -/
theorem sperm_calls {n : Nat} (hn : n ≤ 12) {x : St} {w : World} :
    Calls Tryd.prog 38 #[.agg x.vals.toArray, .int .i64 (n : Int)] w fun e w' => e = .returned (.agg (perm n x).vals.toArray) ∧ Below w.heap.size w w' := by
  have hE : EnvOk (pEnv n x (.int .i64 (n : Int))) := pEnv_ok rfl
  have hG := cfgOk0 (w0 := w) hE (r := []) fun p hp => by cases hp
  let bl : Bl := fun _ => (0, 0)
  have hm : MRel (pEnv n x (.int .i64 (n : Int))) bl w [] w := MRel.nil _ _ _
  obtain ⟨fn, hfn, hbody, hnt, hres⟩ : ∃ fn, Tryd.prog.funcs[38]? = some fn ∧ fn.body = some b6 ∧ fn.ntmps = 26 ∧
      aResults Tryd.prog (mkTr [(4, .one (.c (.ptr 1 0)))]) [⟨c5 120, true, true, true, 0, false⟩, ⟨c5 120, true, true, true, 0, false⟩] fn.results.toList = some [.a (c5 120)] := ⟨_, rfl, rfl, rfl, by kernel_rfl⟩
  refine calls_of_wp hfn hbody ?_
  have hst := start_rel (E := pEnv n x (.int .i64 (n : Int))) (w0 := w) (G := {}) (nt := fn.ntmps) (args := [.a (c5 200), .c (.o 0)]) hm (fun g i h => nomatch h) (by decide) (by rw [hnt]; decide)
  rw [hnt] at hst
  simp only [List.map, A1.den, c5_in] at hst
  rw [hnt, b6_eq]
  refine wp_seq (code_wp hG noK_ok mix srun0 (by decide) hst fun bl1 a1 w1 ha1 h1 => ?_)
  have h1' : SRel (pEnv n x (.int .i64 (n : Int))) bl1 w {} 26 (mkTr [(1, i64 n), (2, .one (.c (.ptr 0 0))), (4, .one (.c (.ptr 1 0)))]) (Ms (10 * (12 - n))) a1 w1 := by
    have h2 := h1.move (l := [(1, i64 n), (2, .one (.c (.ptr 0 0))), (4, .one (.c (.ptr 1 0)))]) (G' := {}) (fun p hp => by
      simp only [List.mem_cons, List.not_mem_nil, or_false] at hp
      rcases hp with rfl | rfl | rfl
      · exact ⟨_, rfl, rfl, rfl⟩
      · exact ⟨_, rfl, rfl, rfl⟩
      · exact ⟨_, rfl, rfl, rfl⟩) rfl
    refine ⟨h2.defers, h2.size, h2.tmps, h2.mem.move rfl fun i b hi => ?_, h2.glob⟩
    match i, hi with
    | 0, hi =>
      cases hi
      refine ⟨_, rfl, rfl, rfl, rfl, ?_, rfl, rfl, rfl⟩
      simp only [c5, List.map, AC.den, T.den]
      rw [← pEnv_five hn 1 (by decide), ← pEnv_five hn 2 (by decide), ← pEnv_five hn 3 (by decide), ← pEnv_five hn 4 (by decide), show (pEnv n x (.int .i64 (n : Int))).wd (10 * (12 - n)) = _ from (pEnv_five hn 0 (by decide)).symm]
    | 1, hi => cases hi; exact ⟨_, rfl, rfl, rfl, rfl, rfl, rfl, rfl, rfl⟩
    | i + 2, hi => exact nomatch hi
  refine wp_seq (wp_seq (code_wp hG noK_ok mix (srun1 n hn) (Nat.le_refl _) h1' fun bl2 a2 w2 ha2 h2 => ?_))
  refine wp_block (wp_loop_rounds (n + 1) (loop12 (s0 := 12 - n) (k := 2) (M := fun i => Ms (10 * i)) (R := specL) srun2 srunE (fun _ => rfl) pEnv_spec hE (fun f hf => by
    simp only [List.mem_cons, List.not_mem_nil, or_false] at hf
    rcases hf with rfl | rfl | rfl | rfl
    · exact ent8
    · exact ent9
    · exact ent11
    · exact ent12) n (12 - n) (by omega) (Nat.le_refl _) bl2 a2 w2 h2 fun bl3 a3 w3 ha3 h3 => ?_))
  refine code_wp hG noK_ok mix srun6 (Nat.le_refl _) h3 fun bl4 a4 w4 ha4 h4 => ?_
  obtain ⟨g1, g2⟩ := ends_run (fn := fn) h4 hres
  refine ⟨h4.defers, _, g1, ?_, h4.mem.below (by decide)⟩
  simp only [packR, AV.den, A1.den, c5_end hn]
end Go.Proofs.YtfilandehjmikaaDoor.Asc
