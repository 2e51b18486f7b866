/- The law FnOpenShort. No condition. -/
import Derived.Test.YtfilandehjmikaaDoorAscN
import Derived.Test.YtfilandehjmikaaDoorPrefix
namespace Go.Proofs.YtfilandehjmikaaDoor
open Go.RowKit Go.Proofs.YtfilandehjmikaaDoor.Sx Go.Proofs.YtfilandehjmikaaDoor.Asc

section
variable {w : World} {mode : Int} {ka na sa da : Option Addr} {kl kc nl nc sl sc dl dc : Nat}
set_option maxHeartbeats 1000000 in
theorem short_big (h : ¬(kl ≤ 2147483647 ∧ nl ≤ 2147483647 ∧ sl ≤ 15 ∧ dl ≤ 2147483647)) :
    Calls Tryd.prog 7 #[.int .i64 mode, .slice ka kl kc, .slice na nl nc, .slice sa sl sc, .slice da dl dc] w (Tru w) := by
  by_cases h1 : 2147483647 < kl
  · go_enter Tryd.func7, Tryd.ntmps7
    go_wp2_with (fail)
    go_ret
    exact ⟨rfl, Below.refl _ _⟩
  by_cases h2 : 2147483647 < nl
  · clear h
    go_enter Tryd.func7, Tryd.ntmps7
    go_wp2_with (fail)
    go_ret
    exact ⟨rfl, Below.refl _ _⟩
  by_cases h3 : 2147483647 < sl
  · clear h
    go_enter Tryd.func7, Tryd.ntmps7
    go_wp2_with (fail)
    go_ret
    exact ⟨rfl, Below.refl _ _⟩
  by_cases h5 : 2147483647 < dl
  · clear h
    go_enter Tryd.func7, Tryd.ntmps7
    go_wp2_with (fail)
    go_ret
    exact ⟨rfl, Below.refl _ _⟩
  by_cases h4 : 15 < sl
  · clear h
    go_enter Tryd.func7, Tryd.ntmps7
    go_wp2_with (fail)
    go_ret
    exact ⟨rfl, Below.refl _ _⟩
  exact absurd ⟨by omega, by omega, by omega, by omega⟩ h
theorem few1_calls {W : World} {t : TypeId} {b : Bool} (h5 : dl ≤ 2147483647) (hb : decide (dl ≤ 4096) = b) :
    Calls Tryd.prog 14 #[.slice (some ⟨W.heap.size, 0, none⟩) 1 1] (W.alloc (.cells #[.slice da dl dc] t)) fun e w' => e = .returned (.bool b) ∧ Below W.heap.size W w' := by
  refine (few_calls (vs := [.slice da dl dc]) rfl (by show 1 ≤ 3; decide) (by show 0 < 1; decide) (fun v hv => ?_) (fun n hn => ?_) (fun j v hv => ?_)).mono fun e w' ⟨he, hb'⟩ => ⟨?_, ?_⟩
  · rw [List.mem_singleton] at hv
    subst hv; exact ⟨_, _, _, rfl⟩
  · simp only [lens, List.map, List.mem_singleton] at hn
    subst hn; assumption
  · rw [Nat.zero_add, World.cell?_alloc_new]
    simpa using hv
  · rw [he, ← hb]
    simp [lens]
  · exact ((Below.refl _ _).alloc (Nat.le_refl _) _).trans (hb'.mono (by simp))
set_option maxHeartbeats 1000000 in
theorem short_many (h1 : kl ≤ 2147483647) (h2 : nl ≤ 2147483647) (h3 : sl ≤ 15) (h5 : dl ≤ 2147483647) (hf : decide (dl ≤ 4096) = false) :
    Calls Tryd.prog 7 #[.int .i64 mode, .slice ka kl kc, .slice na nl nc, .slice sa sl sc, .slice da dl dc] w (Tru w) := by
  have Hf := Lib.hid hf; clear hf
  go_enter Tryd.func7, Tryd.ntmps7
  go_wp2_with (fail)
  refine (few1_calls h5 Hf.out).mono ?_
  rintro e w2 ⟨rfl, hb2⟩
  have HB2 := Lib.hid hb2; clear hb2
  go_wp2_with (fail)
  go_ret
  exact ⟨rfl, HB2.out⟩
set_option maxHeartbeats 1000000 in
theorem short_wrong (h1 : kl ≤ 2147483647) (h2 : nl ≤ 2147483647) (h3 : sl ≤ 15) (h5 : dl ≤ 2147483647) (hf : decide (dl ≤ 4096) = true) (hr : rightB mode kl nl = false) :
    Calls Tryd.prog 7 #[.int .i64 mode, .slice ka kl kc, .slice na nl nc, .slice sa sl sc, .slice da dl dc] w (Tru w) := by
  have Hf := Lib.hid hf; clear hf
  have Hr := Lib.hid hr; clear hr
  go_enter Tryd.func7, Tryd.ntmps7
  go_wp2_with (fail)
  refine (few1_calls h5 Hf.out).mono ?_
  rintro e w2 ⟨rfl, hb2⟩
  have HB2 := Lib.hid hb2; clear hb2
  go_wp2_with (fail)
  refine (right_no Hr.out).mono ?_
  rintro e w3 ⟨rfl, hb3⟩
  have HB3 := Lib.hid (HB2.out.trans (hb3.mono HB2.out.size)); clear hb3
  go_wp2_with (fail)
  go_ret
  exact ⟨rfl, HB3.out⟩
set_option maxHeartbeats 1000000 in
theorem short_main {m : Nat} {key nonce l data : List B8} {ea : Addr} (he1 : w.cell? ⟨1, 0, none⟩ = some (.iface 91 (.pointer (some ea)))) (hm : m ≤ 2) (hk : key.length = klen m) (hn : nonce.length = 16) (hkl : key.length = kl) (hnl : nonce.length = nl) (hll : l.length = sl) (hdl : data.length = dl) (h3 : sl ≤ 15) (hd4 : dl ≤ 4096)
    (hks : SlV w (.slice ka kl kc) (vals key)) (hns : SlV w (.slice na nl nc) (vals nonce)) (hss : SlV w (.slice sa sl sc) (vals l)) (hds : SlV w (.slice da dl dc) (vals data)) :
    Calls Tryd.prog 7 #[.int .i64 (m : Int), .slice ka kl kc, .slice na nl nc, .slice sa sl sc, .slice da dl dc] w (Tru w) := by
  have h20 := klen_le m
  have h1 : kl ≤ 2147483647 := by omega
  have h2 : nl ≤ 2147483647 := by omega
  have h5 : dl ≤ 2147483647 := by omega
  have Hr : Hid (rightB (m : Int) kl nl = true) := Lib.hid (decide_eq_true ⟨by omega, by omega, by rw [Int.toNat_natCast, ← hkl]; exact hk, by rw [← hnl]; exact hn⟩)
  have Hf : Hid (decide (dl ≤ 4096) = true) := Lib.hid (decide_eq_true hd4)
  have Hk := Lib.hid hk; clear hk
  have Hn := Lib.hid hn; clear hn
  have Hll := Lib.hid hll; clear hll
  have Hdl := Lib.hid hdl; clear hdl
  have He := Lib.hid he1; clear he1
  clear hkl hnl
  have Hks := Lib.hid hks; clear hks
  have Hns := Lib.hid hns; clear hns
  have Hss := Lib.hid hss; clear hss
  have Hds := Lib.hid hds; clear hds
  go_enter Tryd.func7, Tryd.ntmps7
  go_wp2_with (fail)
  refine (few1_calls h5 Hf.out).mono ?_
  rintro e w2 ⟨rfl, hb2⟩
  have HB2 := Lib.hid hb2; clear hb2
  go_wp2_with (fail)
  refine (right_yes Hr.out).mono ?_
  rintro e w3 ⟨rfl, hb3⟩
  have HB3 := Lib.hid (HB2.out.trans (hb3.mono HB2.out.size)); clear hb3
  go_wp2_with (fail)
  refine (iopen_short hm Hk.out Hn.out Hll.out (by omega) (by rw [Hdl.out]; omega) ((HB3.out.cell (p := ⟨1, 0, none⟩) (cell_lt He.out)).trans He.out) (Hks.out.below HB3.out) (Hns.out.below HB3.out) (Hss.out.below HB3.out) (Hds.out.below HB3.out)).mono ?_
  rintro e w4 ⟨rfl, hb4⟩
  have HB4 := Lib.hid (HB3.out.trans (hb4.mono HB3.out.size)); clear hb4
  go_wp2_with (fail)
  refine (isizes hm Hk.out (Hks.out.below HB4.out)).mono ?_
  rintro e w5 ⟨rfl, hb5⟩
  have HB5 := Lib.hid (HB4.out.trans (hb5.mono HB4.out.size)); clear hb5
  go_wp2_with (fail)
  go_ret
  exact ⟨rfl, HB5.out⟩
theorem short_calls {ea : Addr} (he1 : w.cell? ⟨1, 0, none⟩ = some (.iface 91 (.pointer (some ea)))) {kv nv sv dv : Value} {key nonce l data : List B8} (hks : SlV w kv (vals key)) (hns : SlV w nv (vals nonce)) (hss : SlV w sv (vals l)) (hds : SlV w dv (vals data)) :
    Calls Tryd.prog 7 #[.int .i64 mode, kv, nv, sv, dv] w (Tru w) := by
  obtain ⟨ka, kc, rfl⟩ := slV_shape hks
  obtain ⟨na, nc, rfl⟩ := slV_shape hns
  obtain ⟨sa, sc, rfl⟩ := slV_shape hss
  obtain ⟨da, dc, rfl⟩ := slV_shape hds
  by_cases hbig : key.length ≤ 2147483647 ∧ nonce.length ≤ 2147483647 ∧ l.length ≤ 15 ∧ data.length ≤ 2147483647
  · obtain ⟨h1, h2, h3, h5⟩ := hbig
    cases hf : decide (data.length ≤ 4096) with
    | false => exact short_many h1 h2 h3 h5 hf
    | true =>
      cases hr : rightB mode key.length nonce.length with
      | false => exact short_wrong h1 h2 h3 h5 hf hr
      | true =>
        have hr' := of_decide_eq_true hr
        obtain ⟨m, rfl⟩ : ∃ m : Nat, mode = (m : Int) := ⟨mode.toNat, by omega⟩
        rw [Int.toNat_natCast] at hr'
        exact short_main he1 (by omega) hr'.2.2.1 hr'.2.2.2 rfl rfl rfl rfl h3 (of_decide_eq_true hf) hks hns hss hds
  · exact short_big hbig
end
end Go.Proofs.YtfilandehjmikaaDoor
