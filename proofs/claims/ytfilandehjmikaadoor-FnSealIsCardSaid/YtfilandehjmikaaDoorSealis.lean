/- The law FnSealIs. No condition. -/
import Derived.Test.YtfilandehjmikaaDoorSpT
import Derived.Test.YtfilandehjmikaaDoorPrefix
namespace Go.Proofs.YtfilandehjmikaaDoor
open Go.RowKit Go.Proofs.YtfilandehjmikaaDoor.Sx Go.Proofs.YtfilandehjmikaaDoor.Asc

section
variable {w : World} {mode : Int} {ka na ta da : Option Addr} {kl kc nl nc tl tc dl dc : Nat}
theorem few2_calls {W : World} {t : TypeId} {b : Bool} (h4 : tl ≤ 2147483647) (h5 : dl ≤ 2147483647) (hb : decide (tl + dl ≤ 4096) = b) :
    Calls Tryd.prog 14 #[.slice (some ⟨W.heap.size, 0, none⟩) 2 2] (W.alloc (.cells #[.slice ta tl tc, .slice da dl dc] t)) fun e w' => e = .returned (.bool b) ∧ Below W.heap.size W w' := by
  refine (few_calls (vs := [.slice ta tl tc, .slice da dl dc]) rfl (by show 2 ≤ 3; decide) (by show 0 < 2; decide) (fun v hv => ?_) (fun n hn => ?_) (fun j v hv => ?_)).mono fun e w' ⟨he, hb'⟩ => ⟨?_, ?_⟩
  · simp only [List.mem_cons, List.not_mem_nil, or_false] at hv
    rcases hv with rfl | rfl <;> exact ⟨_, _, _, rfl⟩
  · simp only [lens, List.map, List.mem_cons, List.not_mem_nil, or_false] at hn
    rcases hn with rfl | rfl <;> assumption
  · rw [Nat.zero_add, World.cell?_alloc_new]
    simpa using hv
  · rw [he, ← hb]
    simp [lens]
  · exact ((Below.refl _ _).alloc (Nat.le_refl _) _).trans (hb'.mono (by simp))
theorem same_yes {w : World} {v u : Value} {a : List B8} (h1 : SlV w v (vals a)) (h2 : SlV w u (vals a)) : Calls Tryd.prog 16 #[v, u] w fun e w' => e = .returned (.bool true) ∧ w' = w := by
  refine (same8_calls h1 h2).mono fun e w' ⟨he, hw⟩ => ⟨?_, hw.symm⟩
  rw [he]; simp
set_option maxHeartbeats 1000000 in
theorem sealis_big (h : ¬(kl ≤ 2147483647 ∧ nl ≤ 2147483647 ∧ tl ≤ 2147483647 ∧ dl ≤ 2147483647)) :
    Calls Tryd.prog 4 #[.int .i64 mode, .slice ka kl kc, .slice na nl nc, .slice ta tl tc, .slice da dl dc] w (Tru w) := by
  by_cases h1 : 2147483647 < kl
  · go_enter Tryd.func4, Tryd.ntmps4
    go_wp2_with (fail)
    go_ret
    exact ⟨rfl, Below.refl _ _⟩
  by_cases h2 : 2147483647 < nl
  · clear h
    go_enter Tryd.func4, Tryd.ntmps4
    go_wp2_with (fail)
    go_ret
    exact ⟨rfl, Below.refl _ _⟩
  by_cases h3 : 2147483647 < tl
  · clear h
    go_enter Tryd.func4, Tryd.ntmps4
    go_wp2_with (fail)
    go_ret
    exact ⟨rfl, Below.refl _ _⟩
  by_cases h4 : 2147483647 < dl
  · clear h
    go_enter Tryd.func4, Tryd.ntmps4
    go_wp2_with (fail)
    go_ret
    exact ⟨rfl, Below.refl _ _⟩
  exact absurd ⟨by omega, by omega, by omega, by omega⟩ h
set_option maxHeartbeats 1000000 in
theorem sealis_wrong (h1 : kl ≤ 2147483647) (h2 : nl ≤ 2147483647) (h3 : tl ≤ 2147483647) (h4 : dl ≤ 2147483647) (hr : rightB mode kl nl = false) :
    Calls Tryd.prog 4 #[.int .i64 mode, .slice ka kl kc, .slice na nl nc, .slice ta tl tc, .slice da dl dc] w (Tru w) := by
  have Hr := Lib.hid hr; clear hr
  go_enter Tryd.func4, Tryd.ntmps4
  go_wp2_with (fail)
  refine (right_no Hr.out).mono ?_
  rintro e w1 ⟨rfl, hb⟩
  have HB := Lib.hid hb; clear hb
  go_wp2_with (fail)
  go_ret
  exact ⟨rfl, HB.out⟩
set_option maxHeartbeats 1000000 in
theorem sealis_many (h1 : kl ≤ 2147483647) (h2 : nl ≤ 2147483647) (h3 : tl ≤ 2147483647) (h4 : dl ≤ 2147483647) (hr : rightB mode kl nl = true) (hf : decide (tl + dl ≤ 4096) = false) :
    Calls Tryd.prog 4 #[.int .i64 mode, .slice ka kl kc, .slice na nl nc, .slice ta tl tc, .slice da dl dc] w (Tru w) := by
  have Hr := Lib.hid hr; clear hr
  have Hf := Lib.hid hf; clear hf
  go_enter Tryd.func4, Tryd.ntmps4
  go_wp2_with (fail)
  refine (right_yes Hr.out).mono ?_
  rintro e w1 ⟨rfl, hb⟩
  have HB := Lib.hid hb; clear hb
  go_wp2_with (fail)
  refine (few2_calls h3 h4 Hf.out).mono ?_
  rintro e w2 ⟨rfl, hb2⟩
  have HB2 := Lib.hid (HB.out.trans (hb2.mono HB.out.size)); clear hb2
  go_wp2_with (fail)
  go_ret
  exact ⟨rfl, HB2.out⟩
theorem modes_calls {w : World} : Calls Tryd.prog 12 #[] w fun e w' => e = .returned (.slice (some ⟨w.heap.size, 0, none⟩) 3 3) ∧ w' = w.alloc (.cells #[.int .i64 16, .int .i64 8, .int .i64 6, .int .i64 16, .int .i64 16, .int .i64 8, .int .i64 20, .int .i64 8, .int .i64 6] 26) := by
  go_enter Tryd.func12, Tryd.ntmps12
  go_wp2_with (fail)
  go_ret
  exact ⟨rfl, rfl⟩
set_option maxHeartbeats 2000000 in
theorem sealis_main {m : Nat} {key nonce text data : List B8} (hm : m ≤ 2) (hk : key.length = klen m) (hn : nonce.length = 16) (hkl : key.length = kl) (hnl : nonce.length = nl) (htl : text.length = tl) (hdl : data.length = dl) (hsum : tl + dl ≤ 4096)
    (hks : SlV w (.slice ka kl kc) (vals key)) (hns : SlV w (.slice na nl nc) (vals nonce)) (hts : SlV w (.slice ta tl tc) (vals text)) (hds : SlV w (.slice da dl dc) (vals data)) :
    Calls Tryd.prog 4 #[.int .i64 (m : Int), .slice ka kl kc, .slice na nl nc, .slice ta tl tc, .slice da dl dc] w (Tru w) := by
  have h20 := klen_le m
  have h1 : kl ≤ 2147483647 := by omega
  have h2 : nl ≤ 2147483647 := by omega
  have h3 : tl ≤ 2147483647 := by omega
  have h5 : dl ≤ 2147483647 := by omega
  have Hr : Hid (rightB (m : Int) kl nl = true) := Lib.hid (decide_eq_true ⟨by omega, by omega, by rw [Int.toNat_natCast, ← hkl]; exact hk, by rw [← hnl]; exact hn⟩)
  have Hf : Hid (decide (tl + dl ≤ 4096) = true) := Lib.hid (decide_eq_true hsum)
  have Hk := Lib.hid hk; clear hk
  have Hn := Lib.hid hn; clear hn
  have Htl := Lib.hid htl; clear htl
  have Hdl := Lib.hid hdl; clear hdl
  clear hkl hnl
  have Hks := Lib.hid hks; clear hks
  have Hns := Lib.hid hns; clear hns
  have Hts := Lib.hid hts; clear hts
  have Hds := Lib.hid hds; clear hds
  go_enter Tryd.func4, Tryd.ntmps4
  go_wp2_with (fail)
  refine (right_yes Hr.out).mono ?_
  rintro e w1 ⟨rfl, hb⟩
  have HB := Lib.hid hb; clear hb
  go_wp2_with (fail)
  refine (few2_calls h3 h5 Hf.out).mono ?_
  rintro e w2 ⟨rfl, hb2⟩
  have HB2 := Lib.hid (HB.out.trans (hb2.mono HB.out.size)); clear hb2
  go_wp2_with (fail)
  refine (iseal_n hm Hk.out Hn.out Htl.out (by omega) (by rw [Hdl.out]; omega) (Hks.out.below HB2.out) (Hns.out.below HB2.out) (Hts.out.below HB2.out) (Hds.out.below HB2.out)).mono ?_
  rintro e w3 ⟨g, rfl, hb3, ho3⟩
  have HB3 := Lib.hid (HB2.out.trans (hb3.mono HB2.out.size)); clear hb3
  have HO3 : Hid (SlV w3 (.slice (some ⟨g, 0, none⟩) (tl + 16) (tl + 16)) (vals (sealB m key nonce text data))) := Lib.hid (by
    have := SlV.mk (cap := tl + 16) ho3 (by rw [vals_length, sealB_length, Htl.out]; exact Nat.le_refl _)
    rwa [vals_length, sealB_length, Htl.out] at this)
  clear ho3
  go_wp2_with (fail)
  refine modes_calls.mono ?_
  rintro e w4 ⟨rfl, rfl⟩
  have HB4 : Hid (Below w.heap.size w (w3.alloc (.cells #[.int .i64 16, .int .i64 8, .int .i64 6, .int .i64 16, .int .i64 16, .int .i64 8, .int .i64 20, .int .i64 8, .int .i64 6] 26))) := Lib.hid (HB3.out.alloc HB3.out.size _)
  have HO4 : Hid (SlV (w3.alloc (.cells #[.int .i64 16, .int .i64 8, .int .i64 6, .int .i64 16, .int .i64 16, .int .i64 8, .int .i64 20, .int .i64 8, .int .i64 6] 26)) (.slice (some ⟨g, 0, none⟩) (tl + 16) (tl + 16)) (vals (sealB m key nonce text data))) := Lib.hid (HO3.out.below ((Below.refl _ _).alloc (Nat.le_refl _) _))
  rcases (show m = 0 ∨ m = 1 ∨ m = 2 by omega) with rfl | rfl | rfl
  all_goals
    go_wp2_with (fail)
    refine (sseal_calls hm Hk.out Hn.out (by rw [Htl.out]; omega) (by rw [Hdl.out]; omega) (Hks.out.below HB4.out) (Hns.out.below HB4.out) (Hts.out.below HB4.out) (Hds.out.below HB4.out)).mono ?_
    rintro e w5 ⟨u, rfl, hb5, hu⟩
    have HB5 := Lib.hid (HB4.out.trans (hb5.mono HB4.out.size))
    have HO5 := Lib.hid (HO4.out.below hb5); clear hb5
    have HU := Lib.hid hu; clear hu
    go_wp2_with (fail)
    refine (same_yes HO5.out HU.out).mono ?_
    rintro e w6 ⟨rfl, hw6⟩
    obtain rfl : w5 = w6 := hw6.symm
    go_wp2_with (fail)
    go_ret
    exact ⟨rfl, HB5.out⟩
theorem sealis_calls {kv nv tv dv : Value} {key nonce text data : List B8} (hks : SlV w kv (vals key)) (hns : SlV w nv (vals nonce)) (hts : SlV w tv (vals text)) (hds : SlV w dv (vals data)) :
    Calls Tryd.prog 4 #[.int .i64 mode, kv, nv, tv, dv] w (Tru w) := by
  obtain ⟨ka, kc, rfl⟩ := slV_shape hks
  obtain ⟨na, nc, rfl⟩ := slV_shape hns
  obtain ⟨ta, tc, rfl⟩ := slV_shape hts
  obtain ⟨da, dc, rfl⟩ := slV_shape hds
  by_cases hbig : key.length ≤ 2147483647 ∧ nonce.length ≤ 2147483647 ∧ text.length ≤ 2147483647 ∧ data.length ≤ 2147483647
  · obtain ⟨h1, h2, h3, h5⟩ := hbig
    cases hr : rightB mode key.length nonce.length with
    | false => exact sealis_wrong h1 h2 h3 h5 hr
    | true =>
      cases hf : decide (text.length + data.length ≤ 4096) with
      | false => exact sealis_many h1 h2 h3 h5 hr hf
      | true =>
        have hr' := of_decide_eq_true hr
        obtain ⟨m, rfl⟩ : ∃ m : Nat, mode = (m : Int) := ⟨mode.toNat, by omega⟩
        rw [Int.toNat_natCast] at hr'
        exact sealis_main (by omega) hr'.2.2.1 hr'.2.2.2 rfl rfl rfl rfl (of_decide_eq_true hf) hks hns hts hds
  · exact sealis_big hbig
end
end Go.Proofs.YtfilandehjmikaaDoor
