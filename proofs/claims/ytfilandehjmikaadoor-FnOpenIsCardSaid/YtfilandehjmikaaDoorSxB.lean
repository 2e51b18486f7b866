/- Slices of bytes that came in: what they hold, and that they read as they read in every world that keeps their cells. No condition. -/
import Derived.Test.YtfilandehjmikaaDoorSxL
import Derived.ChangeSlices
namespace Go.Proofs.YtfilandehjmikaaDoor.Sx
open Go.WideShapes Go.RowKit

section
variable {H : Type} {enc : TypeId × Value → H} {P : Program} {W : World} {base : Nat} {t e : TypeId} {v : Value} {d : DataW H} {p : List MemPlace}
theorem bytes_in (ht : P.underlying t = some (.slice e)) (he : P.underlying e = some (.int .u8)) (hc : P.cellsOf e = 1) (hok : Value.okWide P W .any base t v) (h : DataW.Trod enc P W 0 (fun _ => true) true t v d p) :
    (v = .slice none 0 0 ∧ p = [] ∧ ∀ (W' : World) (sp : Nat → Bool), DataW.Trod enc P W' 0 sp true t v d []) ∨
    ∃ (a : Addr) (len cap : Nat) (zs : List Int), v = .slice (some a) len cap ∧ len ≤ cap ∧ cap ≤ maxLen ∧ zs.length = cap ∧ (∀ i, i < cap → W.cell? (a.add i) = some (.int .u8 (zs.getD i 0))) ∧ (∀ n ∈ zs, (Lit.int .u8 n).wf = true) ∧ p = MemPlace.row a cap ∧
      ∀ (W' : World) (sp : Nat → Bool), (∀ i, i < cap → W'.cell? (a.add i) = W.cell? (a.add i)) → (cap = 0 ∨ sp a.block = true) → DataW.Trod enc P W' 0 sp true t v d p := by
  obtain ⟨a1, len, cap, rfl⟩ := okWide_slice ht hok
  obtain ⟨fuel, hf⟩ := h
  rcases ChangeShapes.open_ints ht he hc hf with ⟨hcs, hx⟩ | ⟨a, len', cap', zs, hcs, _, hl, hm, hz, hx, hcell, hwz⟩
  · simp [Value.cells] at hcs
    obtain ⟨rfl, rfl, rfl⟩ := hcs
    simp only [Prod.mk.injEq] at hx
    obtain ⟨rfl, rfl⟩ := hx
    exact .inl ⟨rfl, rfl, fun W' sp => ⟨1, by simp [DataW.trod, Value.cells, ht]⟩⟩
  · simp [Value.cells] at hcs
    obtain ⟨rfl, rfl, rfl⟩ := hcs
    simp only [Prod.mk.injEq] at hx
    obtain ⟨rfl, rfl⟩ := hx
    simp only [if_true] at hz
    refine .inr ⟨a, len, cap, zs, rfl, hl, hm, hz, fun i hi => hcell i (by omega), hwz, by rw [hz], fun W' sp hk hs => ⟨2, ?_⟩⟩
    exact ChangeShapes.shut_ints 0 ht he hc (Nat.zero_le _) hl hm (by
      rcases hs with hs | hs
      · rw [hz, hs]; split <;> omega
      · rw [hs, hz]; rfl) (fun i hi => by rw [hk i (by omega)]; exact hcell i hi) hwz
end
end Go.Proofs.YtfilandehjmikaaDoor.Sx
