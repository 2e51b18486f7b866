/- The law FnOpenSeal. No condition. -/
import Derived.Test.YtfilandehjmikaaDoorAscA
import Derived.Test.YtfilandehjmikaaDoorPrefix
namespace Go.Proofs.YtfilandehjmikaaDoor
open Go.RowKit Go.Proofs.YtfilandehjmikaaDoor.Sx Go.Proofs.YtfilandehjmikaaDoor.Asc

section
variable {w : World} {mode : Int} {ka na ta da : Option Addr} {kl kc nl nc tl tc dl dc : Nat}
theorem few2_calls {W : World} {t : TypeId} {b : Bool} (h4 : tl ≤ 2147483647) (h5 : dl ≤ 2147483647) (hb : decide (tl + dl ≤ 4096) = b) :
    Calls Tryd.prog 14 #[.slice (some ⟨W.heap.size, 0, none⟩) 2 2] (W.alloc (.cells #[.slice ta tl tc, .slice da dl dc] t)) fun e w' => e = .returned (.bool b) ∧ Below W.heap.size W w' := by
  refine (few_calls (vs := [.slice ta tl tc, .slice da dl dc]) rfl (by show 2 ≤ 3; decide) (by show 0 < 2; decide) (fun v hv => ?_) (fun n hn => ?_) (fun j v hv => ?_)).mono fun e w' ⟨he, hb'⟩ => ⟨?_, ?_⟩
  · simp only [List.mem_cons, List.not_mem_nil, or_false] at hv
    rcases hv with rfl | rfl <;> exact ⟨_, _, _, rfl⟩
  · simp only [lens, List.map, List.mem_cons, List.not_mem_nil, or_false] at hn
    rcases hn with rfl | rfl <;> assumption
  · rw [Nat.zero_add, World.cell?_alloc_new]
    simpa using hv
  · rw [he, ← hb]
    simp [lens]
  · exact ((Below.refl _ _).alloc (Nat.le_refl _) _).trans (hb'.mono (by simp))
/-- What was sealed is opened. -/
theorem iopen_seal {m n : Nat} (hm : m ≤ 2) {key nonce text data : List B8} (hk : key.length = klen m) (hn : nonce.length = 16) (htn : text.length = n) (hnl : n + 16 ≤ 1048576) (hdl : data.length ≤ 1048576) {w : World} {kv nv sv dv : Value} {ea : Addr} (h1 : w.cell? ⟨1, 0, none⟩ = some (.iface 91 (.pointer (some ea))))
    (hkv : SlV w kv (vals key)) (hs : SlV w nv (vals nonce)) (ht : SlV w sv (vals (sealB m key nonce text data))) (hd : SlV w dv (vals data)) :
    Calls Tryd.prog 18 #[.int .i64 (m : Int), .slice none 0 0, kv, nv, sv, dv] w fun e w' => ∃ a cap, e = .returned (.tuple #[.slice a n cap, .bool true]) ∧ Below w.heap.size w w' ∧ SlV w' (.slice a n cap) (vals text) := by
  subst htn
  refine (iopen_calls hm hk hn (tagS_length _ _ _) (by rw [crypt_length]; exact hnl) hdl h1 hkv hs ht hd).mono fun e w' h => ?_
  unfold IOpen at h
  rw [openCT_seal] at h
  obtain ⟨v, h2, h3, h4⟩ := h
  obtain ⟨a, cap, rfl⟩ := slV_shape h4
  exact ⟨a, cap, h2, h3, h4⟩
theorem same_yes {w : World} {v u : Value} {a : List B8} (h1 : SlV w v (vals a)) (h2 : SlV w u (vals a)) : Calls Tryd.prog 16 #[v, u] w fun e w' => e = .returned (.bool true) ∧ w' = w := by
  refine (same8_calls h1 h2).mono fun e w' ⟨he, hw⟩ => ⟨?_, hw.symm⟩
  rw [he]; simp
set_option maxHeartbeats 1000000 in
theorem oseal_big (h : ¬(kl ≤ 2147483647 ∧ nl ≤ 2147483647 ∧ tl ≤ 2147483647 ∧ dl ≤ 2147483647)) :
    Calls Tryd.prog 8 #[.int .i64 mode, .slice ka kl kc, .slice na nl nc, .slice ta tl tc, .slice da dl dc] w (Tru w) := by
  by_cases h1 : 2147483647 < kl
  · go_enter Tryd.func8, Tryd.ntmps8
    go_wp2_with (fail)
    go_ret
    exact ⟨rfl, Below.refl _ _⟩
  by_cases h2 : 2147483647 < nl
  · clear h
    go_enter Tryd.func8, Tryd.ntmps8
    go_wp2_with (fail)
    go_ret
    exact ⟨rfl, Below.refl _ _⟩
  by_cases h3 : 2147483647 < tl
  · clear h
    go_enter Tryd.func8, Tryd.ntmps8
    go_wp2_with (fail)
    go_ret
    exact ⟨rfl, Below.refl _ _⟩
  by_cases h4 : 2147483647 < dl
  · clear h
    go_enter Tryd.func8, Tryd.ntmps8
    go_wp2_with (fail)
    go_ret
    exact ⟨rfl, Below.refl _ _⟩
  exact absurd ⟨by omega, by omega, by omega, by omega⟩ h
set_option maxHeartbeats 1000000 in
theorem oseal_wrong (h1 : kl ≤ 2147483647) (h2 : nl ≤ 2147483647) (h3 : tl ≤ 2147483647) (h4 : dl ≤ 2147483647) (hr : rightB mode kl nl = false) :
    Calls Tryd.prog 8 #[.int .i64 mode, .slice ka kl kc, .slice na nl nc, .slice ta tl tc, .slice da dl dc] w (Tru w) := by
  have Hr := Lib.hid hr; clear hr
  go_enter Tryd.func8, Tryd.ntmps8
  go_wp2_with (fail)
  refine (right_no Hr.out).mono ?_
  rintro e w1 ⟨rfl, hb⟩
  have HB := Lib.hid hb; clear hb
  go_wp2_with (fail)
  go_ret
  exact ⟨rfl, HB.out⟩
set_option maxHeartbeats 1000000 in
theorem oseal_many (h1 : kl ≤ 2147483647) (h2 : nl ≤ 2147483647) (h3 : tl ≤ 2147483647) (h4 : dl ≤ 2147483647) (hr : rightB mode kl nl = true) (hf : decide (tl + dl ≤ 4096) = false) :
    Calls Tryd.prog 8 #[.int .i64 mode, .slice ka kl kc, .slice na nl nc, .slice ta tl tc, .slice da dl dc] w (Tru w) := by
  have Hr := Lib.hid hr; clear hr
  have Hf := Lib.hid hf; clear hf
  go_enter Tryd.func8, Tryd.ntmps8
  go_wp2_with (fail)
  refine (right_yes Hr.out).mono ?_
  rintro e w1 ⟨rfl, hb⟩
  have HB := Lib.hid hb; clear hb
  go_wp2_with (fail)
  refine (few2_calls h3 h4 Hf.out).mono ?_
  rintro e w2 ⟨rfl, hb2⟩
  have HB2 := Lib.hid (HB.out.trans (hb2.mono HB.out.size)); clear hb2
  go_wp2_with (fail)
  go_ret
  exact ⟨rfl, HB2.out⟩
set_option maxHeartbeats 1000000 in
theorem oseal_main {m : Nat} {key nonce text data : List B8} {ea : Addr} (he1 : w.cell? ⟨1, 0, none⟩ = some (.iface 91 (.pointer (some ea)))) (hm : m ≤ 2) (hk : key.length = klen m) (hn : nonce.length = 16) (hkl : key.length = kl) (hnl : nonce.length = nl) (htl : text.length = tl) (hdl : data.length = dl) (hsum : tl + dl ≤ 4096)
    (hks : SlV w (.slice ka kl kc) (vals key)) (hns : SlV w (.slice na nl nc) (vals nonce)) (hts : SlV w (.slice ta tl tc) (vals text)) (hds : SlV w (.slice da dl dc) (vals data)) :
    Calls Tryd.prog 8 #[.int .i64 (m : Int), .slice ka kl kc, .slice na nl nc, .slice ta tl tc, .slice da dl dc] w (Tru w) := by
  have h20 := klen_le m
  have h1 : kl ≤ 2147483647 := by omega
  have h2 : nl ≤ 2147483647 := by omega
  have h3 : tl ≤ 2147483647 := by omega
  have h5 : dl ≤ 2147483647 := by omega
  have Hr : Hid (rightB (m : Int) kl nl = true) := Lib.hid (decide_eq_true ⟨by omega, by omega, by rw [Int.toNat_natCast, ← hkl]; exact hk, by rw [← hnl]; exact hn⟩)
  have Hf : Hid (decide (tl + dl ≤ 4096) = true) := Lib.hid (decide_eq_true hsum)
  have Hk := Lib.hid hk; clear hk
  have Hn := Lib.hid hn; clear hn
  have Htl := Lib.hid htl; clear htl
  have Hdl := Lib.hid hdl; clear hdl
  have He := Lib.hid he1; clear he1
  clear hkl hnl
  have Hks := Lib.hid hks; clear hks
  have Hns := Lib.hid hns; clear hns
  have Hts := Lib.hid hts; clear hts
  have Hds := Lib.hid hds; clear hds
  go_enter Tryd.func8, Tryd.ntmps8
  go_wp2_with (fail)
  refine (right_yes Hr.out).mono ?_
  rintro e w1 ⟨rfl, hb⟩
  have HB := Lib.hid hb; clear hb
  go_wp2_with (fail)
  refine (few2_calls h3 h5 Hf.out).mono ?_
  rintro e w2 ⟨rfl, hb2⟩
  have HB2 := Lib.hid (HB.out.trans (hb2.mono HB.out.size)); clear hb2
  go_wp2_with (fail)
  refine (iseal_n hm Hk.out Hn.out Htl.out (by omega) (by rw [Hdl.out]; omega) (Hks.out.below HB2.out) (Hns.out.below HB2.out) (Hts.out.below HB2.out) (Hds.out.below HB2.out)).mono ?_
  rintro e w3 ⟨g, rfl, hb3, ho3⟩
  have HB3 := Lib.hid (HB2.out.trans (hb3.mono HB2.out.size)); clear hb3
  have HO3 : Hid (SlV w3 (.slice (some ⟨g, 0, none⟩) (tl + 16) (tl + 16)) (vals (sealB m key nonce text data))) := Lib.hid (by
    have := SlV.mk (cap := tl + 16) ho3 (by rw [vals_length, sealB_length, Htl.out]; exact Nat.le_refl _)
    rwa [vals_length, sealB_length, Htl.out] at this)
  clear ho3
  go_wp2_with (fail)
  refine (iopen_seal hm Hk.out Hn.out Htl.out (by omega) (by rw [Hdl.out]; omega) ((HB3.out.cell (p := ⟨1, 0, none⟩) (cell_lt He.out)).trans He.out) (Hks.out.below HB3.out) (Hns.out.below HB3.out) HO3.out (Hds.out.below HB3.out)).mono ?_
  rintro e w4 ⟨ya, yc, rfl, hb4, ho4⟩
  have HB4 := Lib.hid (HB3.out.trans (hb4.mono HB3.out.size)); clear hb4
  have HO4 := Lib.hid ho4; clear ho4
  go_wp2_with (fail)
  have hw1 : IntKind.i64.wrap ((tl : Int) + 16) = (tl : Int) + 16 := by rw [IntKind.wrap_i64]; omega
  refine (same_yes HO4.out (Hts.out.below HB4.out)).mono ?_
  rintro e w5 ⟨rfl, rfl⟩
  go_wp2_with (fail)
  go_ret
  exact ⟨rfl, HB4.out⟩
theorem oseal_calls {ea : Addr} (he1 : w.cell? ⟨1, 0, none⟩ = some (.iface 91 (.pointer (some ea)))) {kv nv tv dv : Value} {key nonce text data : List B8} (hks : SlV w kv (vals key)) (hns : SlV w nv (vals nonce)) (hts : SlV w tv (vals text)) (hds : SlV w dv (vals data)) :
    Calls Tryd.prog 8 #[.int .i64 mode, kv, nv, tv, dv] w (Tru w) := by
  obtain ⟨ka, kc, rfl⟩ := slV_shape hks
  obtain ⟨na, nc, rfl⟩ := slV_shape hns
  obtain ⟨ta, tc, rfl⟩ := slV_shape hts
  obtain ⟨da, dc, rfl⟩ := slV_shape hds
  by_cases hbig : key.length ≤ 2147483647 ∧ nonce.length ≤ 2147483647 ∧ text.length ≤ 2147483647 ∧ data.length ≤ 2147483647
  · obtain ⟨h1, h2, h3, h5⟩ := hbig
    cases hr : rightB mode key.length nonce.length with
    | false => exact oseal_wrong h1 h2 h3 h5 hr
    | true =>
      cases hf : decide (text.length + data.length ≤ 4096) with
      | false => exact oseal_many h1 h2 h3 h5 hr hf
      | true =>
        have hr' := of_decide_eq_true hr
        obtain ⟨m, rfl⟩ : ∃ m : Nat, mode = (m : Int) := ⟨mode.toNat, by omega⟩
        rw [Int.toNat_natCast] at hr'
        exact oseal_main he1 (by omega) hr'.2.2.1 hr'.2.2.2 rfl rfl rfl rfl (of_decide_eq_true hf) hks hns hts hds
  · exact oseal_big hbig
end
end Go.Proofs.YtfilandehjmikaaDoor
