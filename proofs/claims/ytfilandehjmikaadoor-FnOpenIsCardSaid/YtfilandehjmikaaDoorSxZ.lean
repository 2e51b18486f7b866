/- Pieces of code over a frame and a world's cells. No condition. -/
import Derived.Test.YtfilandehjmikaaDoorSxY
import Derived.LoopN
namespace Go.Proofs.YtfilandehjmikaaDoor.Sx
open Go.RowKit

/-- What is known of a frame. -/
structure Fr (nt : Nat) (a : Act) (L : List (Nat × Value)) : Prop where
  defers : a.defers = []
  size : a.tmps.size = nt
  get : ∀ p ∈ L, a.tmps.getD p.1 undef = p.2
theorem Fr.sub {nt : Nat} {a : Act} {L L' : List (Nat × Value)} (h : Fr nt a L) (hs : ∀ p ∈ L', p ∈ L) : Fr nt a L' := ⟨h.defers, h.size, fun p hp => h.get p (hs p hp)⟩
def denL (E : Env) (bl : Bl) (L : List (Nat × AV)) : List (Nat × Value) := L.map fun p => (p.1, p.2.den E bl)
def KeysOk (L : List (Nat × AV)) : Prop := ∀ p ∈ L, (mkTr L).get p.1 = some p.2
section
variable {P : Program} {E : Env} {w0 w : World} {G : Cfg} {F : CallF} {nt : Nat} {bl : Bl} {m : List MB} {a : Act}
theorem SRel.ofFr {L : List (Nat × AV)} (hf : Fr nt a (denL E bl L)) (hwf : (L.all fun p => p.2.wf m.length) = true) (hm : MRel E bl w0 m w) (hG : GOk G.g bl m.length) : SRel E bl w0 G nt (mkTr L) m a w :=
  ⟨hf.defers, hf.size, fun t u hu => ⟨hf.get (t, u.den E bl) (List.mem_map.2 ⟨(t, u), mkTr_get hu, rfl⟩), List.all_eq_true.1 hwf (t, u) (mkTr_get hu)⟩, hm, hG⟩
theorem SRel.fr {L : List (Nat × AV)} (h : SRel E bl w0 G nt (mkTr L) m a w) (hk : KeysOk L) : Fr nt a (denL E bl L) :=
  ⟨h.defers, h.size, fun p hp => by
    obtain ⟨q, hq, rfl⟩ := List.mem_map.1 hp
    exact (h.tmps q.1 q.2 (hk q hq)).1⟩
theorem piece (hE : CfgOk P E w0 G) (hF : CallOk P E w0 G F) (hmix : P.follows .mixedOrders = true) {fuel : Nat} {c : Code} {L L' : List (Nat × AV)} {m' : List MB} {x : AEx} {Q : Exit → Act → World → Prop}
    (h : endsAt x L' m' (aCode P G F nt fuel c (mkTr L) m) = true) (hk : KeysOk L') (hwf : (L.all fun p => p.2.wf m.length) = true) (hle : m.length ≤ m'.length)
    (hf : Fr nt a (denL E bl L)) (hm : MRel E bl w0 m w) (hG : GOk G.g bl m.length)
    (hq : ∀ bl' a' w', Agree m.length bl bl' → Fr nt a' (denL E bl' L') → MRel E bl' w0 m' w' → Q x.toExit a' w') : c.wp P Q a w :=
  code_wp hE hF hmix h hle (.ofFr hf hwf hm hG) fun bl' a' w' ha hs => hq bl' a' w' ha (hs.fr hk) hs.mem
theorem pieceD (hE : CfgOk P E w0 G) (hF : CallOk P E w0 G F) (hmix : P.follows .mixedOrders = true) {fuel : Nat} {c : Code} {L L' : List (Nat × AV)} {D : List (Nat × Nat × List AC)} {m' : List MB} {x : AEx} {Q : Exit → Act → World → Prop}
    (h : endsD x L' m' D (aCode P G F nt fuel c (mkTr L) m) = true) (hk : KeysOk L') (hwf : (L.all fun p => p.2.wf m.length) = true) (hle : m.length ≤ m'.length)
    (hf : Fr nt a (denL E bl L)) (hm : MRel E bl w0 m w) (hG : GOk G.g bl m.length)
    (hq : ∀ bl' a' w', Agree m.length bl bl' → Fr nt a' (denL E bl' L') → MRel E bl' w0 m' w' → (∀ d ∈ D, (RS.d d.2.1 d.2.2).ok E w0 w' bl' m' (a'.tmps.getD d.1 undef)) → Q x.toExit a' w') : c.wp P Q a w :=
  code_wpD hE hF hmix h hle (.ofFr hf hwf hm hG) fun bl' a' w' ha hs hd => hq bl' a' w' ha (hs.fr hk) hs.mem hd
/-- A start at blocks without rows, none of them of the call's own. -/
theorem MRel.lits (h : ∀ (i : Nat) (b : MB), m[i]? = some b → b.own = false ∧ b.row = 0 ∧ b.solo = false ∧ b.cs.all (AC.wf 0) = true ∧ (bl i).1 < w.heap.size ∧ At w (bl i).1 (bl i).2 (b.cs.map (AC.den E bl)) ∧ (b.rw = true → Thaw w (bl i).1 (bl i).2 b.cs.length))
    (hsep : ∀ (i k : Nat) (bi bk : MB), i ≠ k → m[i]? = some bi → m[k]? = some bk → bi.rw = true → (bl i).1 ≠ (bl k).1 ∨ (bl i).2 + bi.cs.length ≤ (bl k).2 ∨ (bl k).2 + bk.cs.length ≤ (bl i).2) : MRel E bl w m w := by
  have lo : ∀ {b : MB}, b.row = 0 → b.lo E = 0 := fun e => by unfold MB.lo; rw [e]; rfl
  refine ⟨rfl, rfl, rfl, Nat.le_refl _, fun i b hi => (h i b hi).2.2.2.2.1, ?_, ?_, ?_, ?_, fun _ _ _ => rfl, fun _ _ _ _ => rfl, fun _ _ _ => rfl, ?_, ?_, ?_, ?_⟩
  · intro i b j x hi _ hx
    exact (h i b hi).2.2.2.2.2.1 j _ (by rw [List.getElem?_map, hx]; rfl)
  · intro i b hi _ x hx
    exact AC.wf_mono (Nat.zero_le _) (List.all_eq_true.1 (h i b hi).2.2.2.1 x hx)
  · intro i b j hi _ hr hj
    exact (h i b hi).2.2.2.2.2.2 hr j hj
  · intro i k bi bk hik hi hk hr _ _
    have := hsep i k bi bk hik hi hk hr
    rw [lo (h i bi hi).2.1, lo (h k bk hk).2.1]
    exact this
  · intro i b hi ho; rw [(h i b hi).1] at ho; cases ho
  · intro i b hi _; rw [lo (h i b hi).2.1]; exact Nat.zero_le _
  · intro i b j v hi _ hv; rw [(h i b hi).2.1] at hv; simp [rowOf] at hv
  · intro i b hi _ hs; rw [(h i b hi).2.2.1] at hs; cases hs
end
end Go.Proofs.YtfilandehjmikaaDoor.Sx
