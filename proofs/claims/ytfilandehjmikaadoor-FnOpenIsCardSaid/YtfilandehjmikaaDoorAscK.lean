/- Ascon's permutation as a contract of the abstract machine: the code's and the specification's. No condition. -/
import Derived.Test.YtfilandehjmikaaDoorAscW
namespace Go.Proofs.YtfilandehjmikaaDoor.Asc
open Go.RowKit Go.Proofs.YtfilandehjmikaaDoor.Sx

theorem entP : Enters Tryd.prog 47 := fun _ _ => by kernel_rfl
theorem entS : Enters Tryd.prog 38 := fun _ _ => by kernel_rfl
def apL (n : Nat) (a b c d e : T) : List AC := [.w .u64 (.ap n 0 a b c d e), .w .u64 (.ap n 1 a b c d e), .w .u64 (.ap n 2 a b c d e), .w .u64 (.ap n 3 a b c d e), .w .u64 (.ap n 4 a b c d e)]
def litI (x : AC) : Option Nat :=
  match toAN x with
  | some ⟨0, n⟩ => some n
  | _ => none
theorem litI_den {E : Env} {bl : Bl} {x : AC} {n : Nat} (h : litI x = some n) : x.den E bl = .int .i64 (n : Int) := by
  unfold litI at h
  split at h
  · rename_i a ha
    cases h
    exact toAN_den ha
  · cases h
def aPerm (n : Nat) (b off : Nat) (m : List MB) : Option (AV × List MB) :=
  match m[b]? with
  | some mb => if Nat.ble n 12 && mb.rw && mb.live && !mb.solo then match wsOf .u64 ((mb.cs.drop off).take 5) with
    | some [p, q, r, s, t] => some (.tup [], m.set b { mb with cs := putAll mb.cs off (apL n p q r s t) })
    | _ => none
    else none
  | none => none
def aSperm (n : Nat) (l : List AC) (m : List MB) : Option (AV × List MB) :=
  match wsOf .u64 l with
  | some [p, q, r, s, t] => if Nat.ble n 12 then some (.one (.a (apL n p q r s t)), m) else none
  | _ => none
/-- The table of the two. -/
def permK : CallF := fun f args m =>
  if Nat.beq f 47 then match args with
    | [.c x, .c (.ptr b off)] => match litI x with
      | some n => aPerm n b off m
      | none => none
    | _ => none
  else if Nat.beq f 38 then match args with
    | [.a l, .c x] => match litI x with
      | some n => aSperm n l m
      | none => none
    | _ => none
  else none
def ApOk (E : Env) : Prop := ∀ n i a b c d e, E.ap n i a b c d e = (perm n ⟨a, b, c, d, e⟩).get i
theorem apL_den {E : Env} (hap : ApOk E) (bl : Bl) (n : Nat) (p q r s t : T) : (apL n p q r s t).map (AC.den E bl) = (perm n ⟨p.den E, q.den E, r.den E, s.den E, t.den E⟩).vals := by
  simp only [apL, List.map, AC.den, T.den, hap _ _ _ _ _ _ _]
  rfl
theorem wsOf_vals {E : Env} (bl : Bl) {l : List AC} {p q r s t : T} (h : wsOf .u64 l = some [p, q, r, s, t]) : l.map (AC.den E bl) = (⟨p.den E, q.den E, r.den E, s.den E, t.den E⟩ : St).vals := wsOf_den h
theorem permK_ok {E : Env} {w0 : World} {G : Cfg} (hap : ApOk E) : CallOk Tryd.prog E w0 G permK := by
  intro f args m r m' h
  unfold permK at h
  split at h
  · rename_i hf
    have hf' := Nat.eq_of_beq_eq_true hf
    subst hf'
    refine ⟨entP, ?_⟩
    split at h
    · rename_i x b off
      split at h
      · rename_i n hn
        unfold aPerm at h
        split at h
        · rename_i mb hmb
          split at h
          · rename_i hc
            simp only [Bool.and_eq_true, Nat.ble_eq, Bool.not_eq_true'] at hc
            obtain ⟨⟨⟨h12, hrw⟩, hlive⟩, hso⟩ := hc
            split at h
            · rename_i p q r s t hws
              cases h
              intro bl w hm hG hw
              have hvals := wsOf_vals (E := E) bl hws
              have hlen : off + 5 ≤ mb.cs.length := by
                have := congrArg List.length hvals
                simp only [List.length_map, List.length_take, List.length_drop, St.vals, List.length_cons, List.length_nil] at this
                omega
              have hcall := perm_calls h12 (x := ⟨p.den E, q.den E, r.den E, s.den E, t.den E⟩) (w := w) (b := (bl b).1) (o := (bl b).2 + off) (hm.lt b mb hmb) (fun j v hv => by
                rw [← hvals, List.getElem?_map] at hv
                cases hy : ((mb.cs.drop off).take 5)[j]? with
                | none => rw [hy] at hv; cases hv
                | some y =>
                  rw [hy] at hv
                  cases hv
                  have hj : j < 5 := by
                    have := (List.getElem?_eq_some_iff.1 hy).1
                    simp only [List.length_take] at this
                    omega
                  rw [List.getElem?_take_of_lt hj, List.getElem?_drop] at hy
                  have := hm.cell b mb (off + j) y hmb hlive hy
                  rw [← this]
                  simp only [at_, Nat.add_assoc]) (fun j hj => by
                have := hm.thaw b mb (off + j) hmb hlive hrw (by omega)
                rw [← this]
                simp only [at_, Nat.add_assoc])
              simp only [List.map, A1.den, litI_den hn]
              refine Calls.mono hcall fun e w' hq => ⟨bl, hq.1, Agree.refl _ _, ?_, rfl, by rw [List.length_set]; exact Nat.le_refl _⟩
              refine hm.upd hmb hrw hlive hso (xs := apL n p q r s t) (by show off + 5 ≤ _; exact hlen) rfl ?_
              rw [apL_den hap]
              exact hq.2
            · cases h
          · cases h
        · cases h
      · cases h
    · cases h
  · split at h
    · rename_i hf
      have hf' := Nat.eq_of_beq_eq_true hf
      subst hf'
      refine ⟨entS, ?_⟩
      split at h
      · rename_i l x
        split at h
        · rename_i n hn
          unfold aSperm at h
          split at h
          · rename_i p q r s t hws
            split at h
            · rename_i h12
              simp only [Nat.ble_eq] at h12
              cases h
              intro bl w hm hG hw
              have hcall := sperm_calls h12 (x := ⟨p.den E, q.den E, r.den E, s.den E, t.den E⟩) (w := w)
              simp only [List.map, A1.den, litI_den hn]
              have hvals := wsOf_vals (E := E) bl hws
              rw [show List.map (AC.den E bl) l = _ from hvals]
              refine Calls.mono hcall fun e w' hq => ⟨bl, ?_, Agree.refl _ _, hm.belowStep hq.2, rfl, Nat.le_refl _⟩
              rw [hq.1]
              simp only [AV.den, A1.den, apL_den hap]
            · cases h
          · cases h
        · cases h
      · cases h
    · cases h
end Go.Proofs.YtfilandehjmikaaDoor.Asc
