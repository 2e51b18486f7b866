/- sliceForAppend as a contract. No condition. -/
import Derived.Test.YtfilandehjmikaaDoorAscC
import Derived.Tactics
import Derived.Tactics2
import Derived.Laws.CopyOwn
import Derived.Laws.MakeOwn
import Derived.IntWalk
namespace Go.Proofs.YtfilandehjmikaaDoor.Asc
open Go.RowKit Go.Proofs.YtfilandehjmikaaDoor.Sx
noncomputable def isB5 : Bool := match Tryd.prog.info? 5 with
  | some i => (match i.zero with
    | some (.int .u8 0) => true
    | _ => false) && Nat.beq i.size 1 && Nat.beq i.bytes 1
  | none => false
theorem isB5_ok : isB5 = true := by kernel_rfl
theorem info5 : ∃ i, Tryd.prog.info? 5 = some i ∧ i.zero = some (.int .u8 0) ∧ i.size = 1 ∧ i.bytes = 1 := by
  have h := isB5_ok
  unfold isB5 at h
  split at h
  · rename_i i hi
    simp only [Bool.and_eq_true, Nat.beq_eq] at h
    obtain ⟨⟨h1, h2⟩, h3⟩ := h
    split at h1
    · rename_i hz; exact ⟨i, hi, hz, h2, h3⟩
    · cases h1
  · cases h
def zer (n : Nat) : List Value := List.replicate n (.int .u8 0)
theorem mk_bytes (w : World) (T : Nat) (hT : T ≤ 4398046511104) (x : Int) (hx : x = T) : (Instr.makeSlice 22 (.int .i64 x) (.int .i64 x)).run Tryd.prog w = .ok (.slice (some ⟨w.heap.size, 0, none⟩) T T) (w.alloc (.cells (zer T).toArray 5)) := by
  obtain ⟨i, h1, h2, h3, h4⟩ := info5
  subst hx
  rw [run_make w 22 5 i (.int .u8 0) bund22 h1 h2 .i64 .i64 (T : Int) (T : Int) (by omega) (Int.le_refl _) (by rw [h4]; omega) (by omega)]
  simp only [Int.toNat_natCast, h3, Nat.mul_one]
  congr 3
  apply Array.ext
  · simp [madeCells, zer, Value.cells]
  · intro j h1 h2
    simp [madeCells, zer, Value.cells, Nat.mod_one]
theorem psz : (Tryd.prog.info? 5).map (·.size) = some 1 := by kernel_rfl
set_option maxHeartbeats 400000 in
theorem sfa_new {w : World} {ao : Option Addr} {len cap n : Nat} {cs : List Value} (hlen : len ≤ 1099511627776) (hn : n ≤ 1099511627776) (hle : len ≤ cap) (_hm : cap ≤ maxLen) (hbig : cap < len + n) (hcl : cs.length = len)
    (hcs : 0 < len → ∃ ad, ao = some ad ∧ ∀ j v, cs[j]? = some v → w.cell? (ad.add j) = some v) (hone : ∀ v ∈ cs, v.oneCell' = true) :
    Calls Tryd.prog 31 #[.slice ao len cap, .int .i64 (n : Int)] w fun e w' => e = .returned (.tuple #[.slice (some ⟨w.heap.size, 0, none⟩) (len + n) (len + n), .slice (some ⟨w.heap.size, len, none⟩) n n]) ∧ Below w.heap.size w w' ∧ Hid (w'.heap[w.heap.size]? = some (.cells (splice (zer (len + n)) 0 cs).toArray 5 (0, 0))) := by
  unfold maxLen at _hm
  have hmk := mk_bytes w (len + n) (by omega) (↑len + ↑n) (by omega)
  go_enter Tryd.func31, Tryd.ntmps31
  go_wp2_with (with_reducible refine wpList_copy_splice rfl _ _ 22 22 rfl 5 bund22 psz _ _ _ _ _ _ rfl rfl w.heap.size 0 (zer (len + n)) 5 ?_ cs ?_ ?_ ?_ hone w.heap.size w ?_ (Nat.le_refl _) ?_)
  · show (w.heap.push _)[w.heap.size]? = _
    simp
  · rw [hcl]; exact (Nat.min_eq_left (by omega)).symm
  · intro h
    obtain ⟨ad, h1, h2⟩ := hcs h
    exact ⟨ad, h1, fun j v hv => by rw [World.cell?_alloc_lt _ _ _ (cell_lt (h2 j v hv))]; exact h2 j v hv⟩
  · simp [zer]; omega
  · exact (Below.refl _ _).alloc (Nat.le_refl _) _
  · intro w' hg hb
    go_wp2
    all_goals go_ret2
    all_goals exact ⟨by
      simp
      , hb, hg⟩
set_option maxHeartbeats 400000 in
theorem sfa_nil {w : World} : Calls Tryd.prog 31 #[.slice none 0 0, .int .i64 0] w fun e w' => e = .returned (.tuple #[.slice none 0 0, .slice none 0 0]) ∧ w = w' := by
  go_enter Tryd.func31, Tryd.ntmps31
  go_wp2
  go_ret2
  exact ⟨rfl, rfl⟩
def SfaIn (w : World) (g len cap n : Nat) (e : Ending) (w' : World) : Prop :=
  ∃ t, e = .returned (.tuple #[.slice (some ⟨g, 0, none⟩) (len + n) cap, .slice (some ⟨g, t, none⟩) n (cap - len)]) ∧ (0 < n → t = len) ∧ w = w'
set_option maxHeartbeats 400000 in
theorem sfa_own {w : World} {g len cap n : Nat} (hlen : len ≤ 1099511627776) (hn : n ≤ 1099511627776) (hfit : len + n ≤ cap) (_hm : cap ≤ maxLen) :
    Calls Tryd.prog 31 #[.slice (some ⟨g, 0, none⟩) len cap, .int .i64 (n : Int)] w (SfaIn w g len cap n) := by
  unfold maxLen at _hm
  go_enter Tryd.func31, Tryd.ntmps31
  go_wp2
  all_goals go_ret2
  · exact ⟨0, by simp, fun h => by omega, rfl⟩
  · exact ⟨len, by simp, fun _ => rfl, rfl⟩
end Go.Proofs.YtfilandehjmikaaDoor.Asc
