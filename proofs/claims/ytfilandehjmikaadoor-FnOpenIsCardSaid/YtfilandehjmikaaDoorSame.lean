/- The laws' comparison of two slices of bytes: true just if they read as the same list. No condition. -/
import Derived.Test.YtfilandehjmikaaDoorSxN
import Derived.Test.YtfilandehjmikaaDoorChecked
import Derived.Tactics
import Derived.Tactics2
import Derived.Laws.BytesArg
import Derived.WalkKit
import Derived.RowKit
import Derived.KernelRfl
namespace Go.Proofs.YtfilandehjmikaaDoor
open Go Go.Proofs.YtfilandehjmikaaDoor.Sx

theorem bundBytes : Tryd.prog.underlying 22 = some (.slice 5) := by kernel_rfl
theorem bundByte : Tryd.prog.underlying 5 = some (.int .u8) := by kernel_rfl
theorem bundStr : Tryd.prog.underlying 9 = some .string := by kernel_rfl
theorem slv_str {w : World} {v : Value} {zs : List Int} (h : SlV w v (zs.map (Value.int .u8))) : (convert 22 9 v).run Tryd.prog w = .ok (.string (strOfNums zs)) w := by
  rcases h with ⟨rfl, h⟩ | ⟨a, cap, rfl, _, hc⟩
  · have : zs = [] := by simpa using h
    subst this
    exact run_convert_bytes_nil w 22 5 bundBytes bundByte 0 0 9 bundStr
  · have hl : (loadCells a zs.length).run Tryd.prog w = .ok (zs.map (Value.int .u8)).toArray w := by
      have := run_loadCells_list (P := Tryd.prog) w a (zs.map (Value.int .u8)) hc
      simpa using this
    rw [List.length_map, run_convert_bytes_string w 22 9 5 _ _ cap bundBytes bundByte bundStr, run_bytesToString w _ zs.length cap zs hl, foldl_push_bytes]
    simp [strOfNums, ByteArray.empty, ByteArray.emptyWithCapacity]
    rfl
theorem strOf_inj {x y : List Int} (hx : ∀ n ∈ x, (Lit.int .u8 n).wf = true) (hy : ∀ n ∈ y, (Lit.int .u8 n).wf = true) (h : (strOfNums x).toList = (strOfNums y).toList) : x = y := by
  have hd : x.map (fun n => UInt8.ofNat n.toNat) = y.map (fun n => UInt8.ofNat n.toNat) := by
    have e : ∀ z : List Int, (strOfNums z).toList = z.map fun n => UInt8.ofNat n.toNat := fun z => by
      rw [ByteArray.toList_eq]; rfl
    rw [e, e] at h; exact h
  clear h
  induction x generalizing y with
  | nil => cases y with
    | nil => rfl
    | cons => simp at hd
  | cons a x ih => cases y with
    | nil => simp at hd
    | cons b y =>
      simp only [List.map_cons, List.cons.injEq] at hd
      have ha := hx a (List.mem_cons_self ..)
      have hb := hy b (List.mem_cons_self ..)
      simp [Lit.wf, IntKind.min, IntKind.max, IntKind.signed, IntKind.bits] at ha hb
      have := congrArg UInt8.toNat hd.1
      simp at this
      rw [ih (fun n hn => hx n (List.mem_cons_of_mem _ hn)) (fun n hn => hy n (List.mem_cons_of_mem _ hn)) hd.2]
      congr 1
      omega
theorem same_walk (s1 s2 : ByteArray) (v1 v2 : Value) (w : World) (h1 : (convert 22 9 v1).run Tryd.prog w = .ok (.string s1) w) (h2 : (convert 22 9 v2).run Tryd.prog w = .ok (.string s2) w) :
    Calls Tryd.prog 16 #[v1, v2] w fun e w' => e = .returned (.bool (s1.toList == s2.toList)) ∧ w = w' := by
  go_enter Tryd.func16, Tryd.ntmps16
  go_wp2
  go_ret
  exact ⟨rfl, rfl⟩
theorem same_calls {w : World} {v1 v2 : Value} {x y : List Int} (h1 : SlV w v1 (x.map (Value.int .u8))) (h2 : SlV w v2 (y.map (Value.int .u8))) (hx : ∀ n ∈ x, (Lit.int .u8 n).wf = true) (hy : ∀ n ∈ y, (Lit.int .u8 n).wf = true) :
    Calls Tryd.prog 16 #[v1, v2] w fun e w' => e = .returned (.bool (decide (x = y))) ∧ w = w' := by
  refine (same_walk _ _ v1 v2 w (slv_str h1) (slv_str h2)).mono fun e w' ⟨he, hw⟩ => ⟨?_, hw⟩
  rw [he]
  congr 2
  by_cases h : x = y
  · subst h; simp
  · have : ¬ (strOfNums x).toList = (strOfNums y).toList := fun e => h (strOf_inj hx hy e)
    simp [h, this]
end Go.Proofs.YtfilandehjmikaaDoor
