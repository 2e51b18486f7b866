/- The law FnOpenIs: its walk, and the card, tied to the program's text. No condition. -/
import Derived.Test.YtfilandehjmikaaDoorAscMA
import Derived.Test.YtfilandehjmikaaDoorSpTP
import Derived.Test.YtfilandehjmikaaDoorPrefix
import Derived.SevenTiedAt
namespace Go.Proofs.YtfilandehjmikaaDoor
open Go.RowKit Go.Proofs.YtfilandehjmikaaDoor.Sx Go.Proofs.YtfilandehjmikaaDoor.Asc

/-- An answer of Open: whether the tag is right, and if so, the text. -/
def OAns (w : World) (ok : Bool) (p : List B8) (e : Ending) (w' : World) : Prop := ∃ v, e = .returned (.tuple #[v, .bool ok]) ∧ Below w.heap.size w w' ∧ (ok = true → SlV w' v (vals p))
def IBoth (m : Nat) (key nonce sx data : List B8) (ok : Bool) (p : List B8) : Prop := ∀ (w : World) (kv nv sv dv : Value) (ea : Addr), w.cell? ⟨1, 0, none⟩ = some (.iface 91 (.pointer (some ea))) → SlV w kv (vals key) → SlV w nv (vals nonce) → SlV w sv (vals sx) → SlV w dv (vals data) →
  Calls Tryd.prog 18 #[.int .i64 (m : Int), .slice none 0 0, kv, nv, sv, dv] w (OAns w ok p)
def SBoth (m : Nat) (key nonce sx data : List B8) (ok : Bool) (p : List B8) : Prop := ∀ (w : World) (kv nv sv dv : Value), SlV w kv (vals key) → SlV w nv (vals nonce) → SlV w sv (vals sx) → SlV w dv (vals data) →
  Calls Tryd.prog 19 #[.agg (modeW m).toArray, kv, nv, sv, dv] w (OAns w ok p)
/-- The code's and the specification's answers. -/
theorem open_both {m : Nat} (hm : m ≤ 2) {key nonce sx data : List B8} (hk : key.length = klen m) (hn : nonce.length = 16) (hl : sx.length ≤ 4096) (hd : data.length ≤ 4096) : ∃ (ok : Bool) (p : List B8), IBoth m key nonce sx data ok p ∧ SBoth m key nonce sx data ok p := by
  by_cases h16 : sx.length < 16
  · refine ⟨false, [], fun w kv nv sv dv ea h1 hkv hnv hsv hdv => ?_, fun w kv nv sv dv hkv hnv hsv hdv => ?_⟩
    · exact (iopen_short hm hk hn rfl h16 (by omega) h1 hkv hnv hsv hdv).mono fun e w' ⟨h2, h3⟩ => ⟨_, h2, h3, fun h => nomatch h⟩
    · exact (sopen_short hm h16 hkv hnv hsv hdv).mono fun e w' ⟨h2, h3⟩ => ⟨_, h2, h3, fun h => nomatch h⟩
  · obtain ⟨c, t, rfl, ht⟩ : ∃ c t : List B8, sx = c ++ t ∧ t.length = 16 := ⟨sx.take (sx.length - 16), sx.drop (sx.length - 16), (List.take_append_drop _ _).symm, by rw [List.length_drop]; omega⟩
    rw [List.length_append, ht] at hl
    refine ⟨decide (tagS m key (crypt (mdOf m) true (dataSt (mdOf m) (beginS m key nonce) data) c).2 = t), (crypt (mdOf m) true (dataSt (mdOf m) (beginS m key nonce) data) c).1, fun w kv nv sv dv ea h1 hkv hnv hsv hdv => ?_, fun w kv nv sv dv hkv hnv hsv hdv => ?_⟩
    · refine (iopen_calls hm hk hn ht (by omega) (by omega) h1 hkv hnv hsv hdv).mono fun e w' h => ?_
      unfold IOpen openCT at h
      by_cases hq : t = tagS m key (crypt (mdOf m) true (dataSt (mdOf m) (beginS m key nonce) data) c).2
      · rw [if_pos hq] at h
        obtain ⟨v, h2, h3, h4⟩ := h
        exact ⟨v, by rw [decide_eq_true hq.symm]; exact h2, h3, fun _ => h4⟩
      · rw [if_neg hq] at h
        obtain ⟨h2, h3⟩ := h
        rw [decide_eq_false (Ne.symm hq)]
        exact ⟨_, h2, h3, fun h => nomatch h⟩
    · exact (sopen_calls hm hk hn ht (by omega) (by omega) hkv hnv hsv hdv).mono fun e w' ⟨u, h2, h3, h4⟩ => ⟨u, h2, h3, fun _ => h4⟩
theorem same_yes {w : World} {v u : Value} {a : List B8} (h1 : SlV w v (vals a)) (h2 : SlV w u (vals a)) : Calls Tryd.prog 16 #[v, u] w fun e w' => e = .returned (.bool true) ∧ w' = w := by
  refine (same8_calls h1 h2).mono fun e w' ⟨he, hw⟩ => ⟨?_, hw.symm⟩
  rw [he]; simp
theorem nilV {w : World} : SlV w (.slice none 0 0) (vals []) := .inl ⟨rfl, rfl⟩
theorem newAt {w : World} {o : Obj} {vs : Array Value} : At ((w.alloc o).alloc (.cells vs 26)) (w.heap.size + 1) 0 vs.toList := fun j x hj => by
  have : (w.alloc o).heap.size = w.heap.size + 1 := by simp
  rw [← this, Nat.zero_add, World.cell?_alloc_new]
  simpa using hj
section
variable {w : World} {mode : Int} {ka na ta da : Option Addr} {kl kc nl nc tl tc dl dc : Nat}
theorem few2_calls {W : World} {t : TypeId} {b : Bool} (h4 : tl ≤ 2147483647) (h5 : dl ≤ 2147483647) (hb : decide (tl + dl ≤ 4096) = b) :
    Calls Tryd.prog 14 #[.slice (some ⟨W.heap.size, 0, none⟩) 2 2] (W.alloc (.cells #[.slice ta tl tc, .slice da dl dc] t)) fun e w' => e = .returned (.bool b) ∧ Below W.heap.size W w' := by
  refine (few_calls (vs := [.slice ta tl tc, .slice da dl dc]) rfl (by show 2 ≤ 3; decide) (by show 0 < 2; decide) (fun v hv => ?_) (fun n hn => ?_) (fun j v hv => ?_)).mono fun e w' ⟨he, hb'⟩ => ⟨?_, ?_⟩
  · simp only [List.mem_cons, List.not_mem_nil, or_false] at hv
    rcases hv with rfl | rfl <;> exact ⟨_, _, _, rfl⟩
  · simp only [lens, List.map, List.mem_cons, List.not_mem_nil, or_false] at hn
    rcases hn with rfl | rfl <;> assumption
  · rw [Nat.zero_add, World.cell?_alloc_new]
    simpa using hv
  · rw [he, ← hb]
    simp [lens]
  · exact ((Below.refl _ _).alloc (Nat.le_refl _) _).trans (hb'.mono (by simp))
/-- What was sealed is opened. -/
theorem iopen_seal {m n : Nat} (hm : m ≤ 2) {key nonce text data : List B8} (hk : key.length = klen m) (hn : nonce.length = 16) (htn : text.length = n) (hnl : n + 16 ≤ 1048576) (hdl : data.length ≤ 1048576) {w : World} {kv nv sv dv : Value} {ea : Addr} (h1 : w.cell? ⟨1, 0, none⟩ = some (.iface 91 (.pointer (some ea))))
    (hkv : SlV w kv (vals key)) (hs : SlV w nv (vals nonce)) (ht : SlV w sv (vals (sealB m key nonce text data))) (hd : SlV w dv (vals data)) :
    Calls Tryd.prog 18 #[.int .i64 (m : Int), .slice none 0 0, kv, nv, sv, dv] w fun e w' => ∃ a cap, e = .returned (.tuple #[.slice a n cap, .bool true]) ∧ Below w.heap.size w w' ∧ SlV w' (.slice a n cap) (vals text) := by
  subst htn
  refine (iopen_calls hm hk hn (tagS_length _ _ _) (by rw [crypt_length]; exact hnl) hdl h1 hkv hs ht hd).mono fun e w' h => ?_
  unfold IOpen at h
  rw [openCT_seal] at h
  obtain ⟨v, h2, h3, h4⟩ := h
  obtain ⟨a, cap, rfl⟩ := slV_shape h4
  exact ⟨a, cap, h2, h3, h4⟩
theorem modes_calls {w : World} : Calls Tryd.prog 12 #[] w fun e w' => e = .returned (.slice (some ⟨w.heap.size, 0, none⟩) 3 3) ∧ w' = w.alloc (.cells #[.int .i64 16, .int .i64 8, .int .i64 6, .int .i64 16, .int .i64 16, .int .i64 8, .int .i64 20, .int .i64 8, .int .i64 6] 26) := by
  go_enter Tryd.func12, Tryd.ntmps12
  go_wp2_with (fail)
  go_ret
  exact ⟨rfl, rfl⟩
set_option maxHeartbeats 1000000 in
theorem openis_big (h : ¬(kl ≤ 2147483647 ∧ nl ≤ 2147483647 ∧ tl ≤ 2147483647 ∧ dl ≤ 2147483647)) :
    Calls Tryd.prog 6 #[.int .i64 mode, .slice ka kl kc, .slice na nl nc, .slice ta tl tc, .slice da dl dc] w (Tru w) := by
  by_cases h1 : 2147483647 < kl
  · go_enter Tryd.func6, Tryd.ntmps6
    go_wp2_with (fail)
    go_ret
    exact ⟨rfl, Below.refl _ _⟩
  by_cases h2 : 2147483647 < nl
  · clear h
    go_enter Tryd.func6, Tryd.ntmps6
    go_wp2_with (fail)
    go_ret
    exact ⟨rfl, Below.refl _ _⟩
  by_cases h3 : 2147483647 < tl
  · clear h
    go_enter Tryd.func6, Tryd.ntmps6
    go_wp2_with (fail)
    go_ret
    exact ⟨rfl, Below.refl _ _⟩
  by_cases h4 : 2147483647 < dl
  · clear h
    go_enter Tryd.func6, Tryd.ntmps6
    go_wp2_with (fail)
    go_ret
    exact ⟨rfl, Below.refl _ _⟩
  exact absurd ⟨by omega, by omega, by omega, by omega⟩ h
set_option maxHeartbeats 1000000 in
theorem openis_wrong (h1 : kl ≤ 2147483647) (h2 : nl ≤ 2147483647) (h3 : tl ≤ 2147483647) (h4 : dl ≤ 2147483647) (hr : rightB mode kl nl = false) :
    Calls Tryd.prog 6 #[.int .i64 mode, .slice ka kl kc, .slice na nl nc, .slice ta tl tc, .slice da dl dc] w (Tru w) := by
  have Hr := Lib.hid hr; clear hr
  go_enter Tryd.func6, Tryd.ntmps6
  go_wp2_with (fail)
  refine (right_no Hr.out).mono ?_
  rintro e w1 ⟨rfl, hb⟩
  have HB := Lib.hid hb; clear hb
  go_wp2_with (fail)
  go_ret
  exact ⟨rfl, HB.out⟩
set_option maxHeartbeats 1000000 in
theorem openis_many (h1 : kl ≤ 2147483647) (h2 : nl ≤ 2147483647) (h3 : tl ≤ 2147483647) (h4 : dl ≤ 2147483647) (hr : rightB mode kl nl = true) (hf : decide (tl + dl ≤ 4096) = false) :
    Calls Tryd.prog 6 #[.int .i64 mode, .slice ka kl kc, .slice na nl nc, .slice ta tl tc, .slice da dl dc] w (Tru w) := by
  have Hr := Lib.hid hr; clear hr
  have Hf := Lib.hid hf; clear hf
  go_enter Tryd.func6, Tryd.ntmps6
  go_wp2_with (fail)
  refine (right_yes Hr.out).mono ?_
  rintro e w1 ⟨rfl, hb⟩
  have HB := Lib.hid hb; clear hb
  go_wp2_with (fail)
  refine (few2_calls h3 h4 Hf.out).mono ?_
  rintro e w2 ⟨rfl, hb2⟩
  have HB2 := Lib.hid (HB.out.trans (hb2.mono HB.out.size)); clear hb2
  go_wp2_with (fail)
  go_ret
  exact ⟨rfl, HB2.out⟩

set_option maxHeartbeats 2000000 in
theorem openis_main {m : Nat} {key nonce sx data : List B8} {ea : Addr} (he1 : w.cell? ⟨1, 0, none⟩ = some (.iface 91 (.pointer (some ea)))) (hm : m ≤ 2) (hk : key.length = klen m) (hn : nonce.length = 16) (hkl : key.length = kl) (hnl : nonce.length = nl) (htl : sx.length = tl) (hdl : data.length = dl) (hsum : tl + dl ≤ 4096)
    (hks : SlV w (.slice ka kl kc) (vals key)) (hns : SlV w (.slice na nl nc) (vals nonce)) (hts : SlV w (.slice ta tl tc) (vals sx)) (hds : SlV w (.slice da dl dc) (vals data)) :
    Calls Tryd.prog 6 #[.int .i64 (m : Int), .slice ka kl kc, .slice na nl nc, .slice ta tl tc, .slice da dl dc] w (Tru w) := by
  have h20 := klen_le m
  have h1 : kl ≤ 2147483647 := by omega
  have h2 : nl ≤ 2147483647 := by omega
  have h3 : tl ≤ 2147483647 := by omega
  have h5 : dl ≤ 2147483647 := by omega
  have Hr : Hid (rightB (m : Int) kl nl = true) := Lib.hid (decide_eq_true ⟨by omega, by omega, by rw [Int.toNat_natCast, ← hkl]; exact hk, by rw [← hnl]; exact hn⟩)
  have Hf : Hid (decide (tl + dl ≤ 4096) = true) := Lib.hid (decide_eq_true hsum)
  have Hk := Lib.hid hk; clear hk
  have Hn := Lib.hid hn; clear hn
  have Htl := Lib.hid htl; clear htl
  have Hdl := Lib.hid hdl; clear hdl
  have He := Lib.hid he1; clear he1
  clear hkl hnl
  have Hks := Lib.hid hks; clear hks
  have Hns := Lib.hid hns; clear hns
  have Hts := Lib.hid hts; clear hts
  have Hds := Lib.hid hds; clear hds
  go_enter Tryd.func6, Tryd.ntmps6
  go_wp2_with (fail)
  refine (right_yes Hr.out).mono ?_
  rintro e w1 ⟨rfl, hb⟩
  have HB := Lib.hid hb; clear hb
  go_wp2_with (fail)
  refine (few2_calls h3 h5 Hf.out).mono ?_
  rintro e w2 ⟨rfl, hb2⟩
  have HB2 := Lib.hid (HB.out.trans (hb2.mono HB.out.size)); clear hb2
  go_wp2_with (fail)
  refine modes_calls.mono ?_
  rintro e w4 ⟨rfl, rfl⟩
  have HB3 : Hid (Below w.heap.size w (w2.alloc (.cells #[.int .i64 16, .int .i64 8, .int .i64 6, .int .i64 16, .int .i64 16, .int .i64 8, .int .i64 20, .int .i64 8, .int .i64 6] 26))) := Lib.hid (HB2.out.alloc HB2.out.size _)
  have HB5 : ∀ o, Hid (Below w.heap.size w ((w2.alloc (.cells #[.int .i64 16, .int .i64 8, .int .i64 6, .int .i64 16, .int .i64 16, .int .i64 8, .int .i64 20, .int .i64 8, .int .i64 6] 26)).alloc o)) := fun o => Lib.hid (HB3.out.alloc HB3.out.size _)
  obtain ⟨ok, p, hi, hs⟩ := open_both hm (sx := sx) (data := data) Hk.out Hn.out (by rw [Htl.out]; omega) (by rw [Hdl.out]; omega)
  have HI := Lib.hid hi; clear hi
  have HS := Lib.hid hs; clear hs
  rcases (show m = 0 ∨ m = 1 ∨ m = 2 by omega) with rfl | rfl | rfl
  all_goals
    go_wp2_with (fail)
    refine (sseal_calls (text := []) (data := []) hm Hk.out Hn.out (by decide) (by decide) (Hks.out.below (HB5 _).out) (Hns.out.below (HB5 _).out) nilV nilV).mono ?_
    rintro e w6 ⟨u, rfl, hb6, hu⟩
    have HP6 := Lib.hid (newAt.below hb6)
    have HB6 := Lib.hid ((HB5 _).out.trans (hb6.mono (HB5 _).out.size)); clear hb6
    have HU := Lib.hid hu; clear hu
    go_wp2_with (fail)
    refine (iopen_seal (n := 0) (text := []) (data := []) hm Hk.out Hn.out rfl (by decide) (by decide) ((HB6.out.cell (p := ⟨1, 0, none⟩) (cell_lt He.out)).trans He.out) (Hks.out.below HB6.out) (Hns.out.below HB6.out) HU.out nilV).mono ?_
    rintro e w7 ⟨ya, yc, rfl, hb7, ho7⟩
    clear ho7
    have HP7 := Lib.hid (HP6.out.below hb7)
    have HB7 := Lib.hid (HB6.out.trans (hb7.mono HB6.out.size)); clear hb7
    go_wp2_with (fail)
    refine (HI.out _ _ _ _ _ _ ((HB7.out.cell (p := ⟨1, 0, none⟩) (cell_lt He.out)).trans He.out) (Hks.out.below HB7.out) (Hns.out.below HB7.out) (Hts.out.below HB7.out) (Hds.out.below HB7.out)).mono ?_
    rintro e w8 ⟨v8, rfl, hb8, hv8⟩
    have HP8 := Lib.hid (HP7.out.below hb8)
    have HB8 := Lib.hid (HB7.out.trans (hb8.mono HB7.out.size)); clear hb8
    have HV8 := Lib.hid hv8; clear hv8
    have c0 : w8.cell? ⟨w2.heap.size + 1, 0, none⟩ = some _ := HP8.out 0 _ rfl
    have c1 : w8.cell? ⟨w2.heap.size + 1, 1, none⟩ = some _ := HP8.out 1 _ rfl
    have c2 : w8.cell? ⟨w2.heap.size + 1, 2, none⟩ = some _ := HP8.out 2 _ rfl
    go_wp2_with (fail)
    refine (HS.out _ _ _ _ _ (Hks.out.below HB8.out) (Hns.out.below HB8.out) (Hts.out.below HB8.out) (Hds.out.below HB8.out)).mono ?_
    rintro e w9 ⟨v9, rfl, hb9, hv9⟩
    have HV8' : Hid (ok = true → SlV w9 v8 (vals p)) := Lib.hid fun h => (HV8.out h).below hb9
    have HB9 := Lib.hid (HB8.out.trans (hb9.mono HB8.out.size)); clear hb9
    have HV9 := Lib.hid hv9; clear hv9
    cases ok with
    | true =>
      go_wp2_with (fail)
      refine (same_yes (HV8'.out (by simp)) (HV9.out (by simp))).mono ?_
      rintro e w10 ⟨rfl, rfl⟩
      go_wp2_with (fail)
      go_ret
      exact ⟨rfl, HB9.out⟩
    | false =>
      go_wp2_with (fail)
      go_ret
      exact ⟨rfl, HB9.out⟩
theorem openis_calls {ea : Addr} (he1 : w.cell? ⟨1, 0, none⟩ = some (.iface 91 (.pointer (some ea)))) {kv nv tv dv : Value} {key nonce text data : List B8} (hks : SlV w kv (vals key)) (hns : SlV w nv (vals nonce)) (hts : SlV w tv (vals text)) (hds : SlV w dv (vals data)) :
    Calls Tryd.prog 6 #[.int .i64 mode, kv, nv, tv, dv] w (Tru w) := by
  obtain ⟨ka, kc, rfl⟩ := slV_shape hks
  obtain ⟨na, nc, rfl⟩ := slV_shape hns
  obtain ⟨ta, tc, rfl⟩ := slV_shape hts
  obtain ⟨da, dc, rfl⟩ := slV_shape hds
  by_cases hbig : key.length ≤ 2147483647 ∧ nonce.length ≤ 2147483647 ∧ text.length ≤ 2147483647 ∧ data.length ≤ 2147483647
  · obtain ⟨h1, h2, h3, h5⟩ := hbig
    cases hr : rightB mode key.length nonce.length with
    | false => exact openis_wrong h1 h2 h3 h5 hr
    | true =>
      cases hf : decide (text.length + data.length ≤ 4096) with
      | false => exact openis_many h1 h2 h3 h5 hr hf
      | true =>
        have hr' := of_decide_eq_true hr
        obtain ⟨m, rfl⟩ : ∃ m : Nat, mode = (m : Int) := ⟨mode.toNat, by omega⟩
        rw [Int.toNat_natCast] at hr'
        exact openis_main he1 (by omega) hr'.2.2.1 hr'.2.2.2 rfl rfl rfl rfl (of_decide_eq_true hf) hks hns hts hds
  · exact openis_big hbig
end
end Go.Proofs.YtfilandehjmikaaDoor
namespace Go.Proofs.YtfilandehjmikaaDoor
open Go.ChangeShapes Go.WideShapes Go.RowKit Go.Proofs.YtfilandehjmikaaDoor.Sx Go.Proofs.YtfilandehjmikaaDoor.Asc

theorem fnOpenIsGlob0 : Tryd.prog.globalNamed "loop.example/pub-g03031/pub/circl/cipher/ascon.ErrNonceSize" = some 0 := by kernel_rfl
theorem fnOpenIsGty0 : (Tryd.prog.globals[0]?).map (·.type) = some 55 := by kernel_rfl
theorem fnOpenIsGlob1 : Tryd.prog.globalNamed "loop.example/pub-g03031/pub/circl/cipher/ascon.ErrDecryption" = some 1 := by kernel_rfl
theorem fnOpenIsGty1 : (Tryd.prog.globals[1]?).map (·.type) = some 55 := by kernel_rfl
theorem fnOpenIsGlob2 : Tryd.prog.globalNamed "loop.example/pub-g03031/pub/circl/cipher/ascon.ErrKeySize" = some 2 := by kernel_rfl
theorem fnOpenIsGty2 : (Tryd.prog.globals[2]?).map (·.type) = some 55 := by kernel_rfl
theorem fnOpenIsGlob3 : Tryd.prog.globalNamed "loop.example/pub-g03031/pub/circl/cipher/ascon.ErrMode" = some 3 := by kernel_rfl
theorem fnOpenIsGty3 : (Tryd.prog.globals[3]?).map (·.type) = some 55 := by kernel_rfl
theorem fnOpenIs_vars (W : World) (h : laidMetH Tryd.prog Rows.fnOpenIsRow.laid W) : ∀ n ∈ Rows.fnOpenIsSpec.vars, (∃ g, Tryd.prog.globalNamed n = some g ∧ (Tryd.prog.globals[g]?).map (·.type) = some 55) ∧ ∃ a, W.var? Tryd.prog n = some #[.iface 91 (.pointer (some a))] := by
  have h' : laidMet Tryd.prog Rows.fnOpenIsRow.laid W := h
  intro n hn
  simp only [Rows.fnOpenIsSpec, List.mem_cons, List.not_mem_nil, or_false] at hn
  rcases hn with rfl | rfl | rfl | rfl
  · exact ⟨⟨2, fnOpenIsGlob2, fnOpenIsGty2⟩, sentinel_of_laid h' (List.mem_cons_self ..) fnOpenIsGlob2 fnOpenIsGty2⟩
  · exact ⟨⟨3, fnOpenIsGlob3, fnOpenIsGty3⟩, sentinel_of_laid h' (List.mem_cons_of_mem _ (List.mem_cons_of_mem _ (List.mem_cons_of_mem _ (List.mem_cons_self ..)))) fnOpenIsGlob3 fnOpenIsGty3⟩
  · exact ⟨⟨0, fnOpenIsGlob0, fnOpenIsGty0⟩, sentinel_of_laid h' (List.mem_cons_of_mem _ (List.mem_cons_self ..)) fnOpenIsGlob0 fnOpenIsGty0⟩
  · exact ⟨⟨1, fnOpenIsGlob1, fnOpenIsGty1⟩, sentinel_of_laid h' (List.mem_cons_of_mem _ (List.mem_cons_of_mem _ (List.mem_cons_self ..))) fnOpenIsGlob1 fnOpenIsGty1⟩
theorem fnOpenIs_laid (os : Os) (args : Array Value) : laidMet Tryd.prog Rows.fnOpenIsRow.laid ((laidWorld os).forCall (fun _ _ => 0) ⟨#[], args, []⟩).memory :=
  laidMet_of_run (ps := [.cell 2 0, .cell (low + 2) 0, .cell 0 0, .cell (low + 0) 0, .cell 1 0, .cell (low + 1) 0, .cell 3 0, .cell (low + 3) 0]) 8 (by kernel_rfl) (by kernel_rfl) (by kernel_rfl)
set_option maxRecDepth 100000 in
theorem fnOpenIs_lifted (os : Os) (started : os.Started) (H : Type) (enc : TypeId × Value → H) :
    ReturnsInHanded {} Tryd.checked os 6 .any (fun w args => (Rows.fnOpenIsSpec.pre enc Tryd.prog Tryd.f6 Rows.fnOpenIsRow.domain Rows.fnOpenIsRow.apart w args ∧ laidMetH Tryd.prog Rows.fnOpenIsRow.laid w) ∧ sizedMet enc Tryd.prog Tryd.f6 (OpenSpec.ofChange Rows.fnOpenIsSpec) Rows.fnOpenIsRow.apart w args)
      (Rows.fnOpenIsSpec.post enc Tryd.prog Tryd.f6 Rows.fnOpenIsRow.apart Rows.fnOpenIsRow.fresh Rows.fnOpenIsRow.handsOn Rows.fnOpenIsRow.again) := by
  refine lawRow started Tryd.func6 (by rw [Tryd.params6]; decide) (by kernel_rfl) (by kernel_rfl) (fun ds gs h1 h2 => ?_) fnOpenIs_vars
    (ChangeSpec.witness_at (enc := enc) (C := Tryd.checked) (os := os) (X := fun w _ => laidMetH Tryd.prog Rows.fnOpenIsRow.laid w) false (laidWorld os) #[.int .i64 0, .slice none 0 0, .slice none 0 0, .slice none 0 0, .slice none 0 0] 8 rfl (by kernel_rfl) (by kernel_rfl) (by kernel_rfl) (by kernel_rfl) (by kernel_rfl) (fnOpenIs_laid os _)) ?_
  · rw [Tryd.params6] at h1
    match ds, gs, h1, h2 with
    | [d1, d2, d3, d4, d5], [g1, g2, g3, g4], _, _ => rfl
  · intro W args l1 l2 hv
    rw [Tryd.params6] at l1 l2
    obtain ⟨l⟩ := args
    match l, l1, l2 with
    | [v0, v1, v2, v3, v4], _, l2 =>
      obtain ⟨n0, rfl⟩ : ∃ n : Int, v0 = .int .i64 n := by
        rcases l2 0 3 v0 rfl rfl with ⟨_, h⟩ | ⟨h, _⟩
        · exact h
        · cases h
      obtain ⟨b1, s1⟩ : ∃ b : List B8, SlV W v1 (vals b) := by
        rcases l2 1 22 v1 rfl rfl with ⟨h, _⟩ | ⟨_, bs, hb, hs⟩
        · cases h
        · obtain ⟨b, e⟩ := b8_of hb; exact ⟨b, e ▸ hs⟩
      obtain ⟨b2, s2⟩ : ∃ b : List B8, SlV W v2 (vals b) := by
        rcases l2 2 22 v2 rfl rfl with ⟨h, _⟩ | ⟨_, bs, hb, hs⟩
        · cases h
        · obtain ⟨b, e⟩ := b8_of hb; exact ⟨b, e ▸ hs⟩
      obtain ⟨b3, s3⟩ : ∃ b : List B8, SlV W v3 (vals b) := by
        rcases l2 3 22 v3 rfl rfl with ⟨h, _⟩ | ⟨_, bs, hb, hs⟩
        · cases h
        · obtain ⟨b, e⟩ := b8_of hb; exact ⟨b, e ▸ hs⟩
      obtain ⟨b4, s4⟩ : ∃ b : List B8, SlV W v4 (vals b) := by
        rcases l2 4 22 v4 rfl rfl with ⟨h, _⟩ | ⟨_, bs, hb, hs⟩
        · cases h
        · obtain ⟨b, e⟩ := b8_of hb; exact ⟨b, e ▸ hs⟩
      obtain ⟨a1, k1⟩ := hv _ (List.mem_cons_of_mem _ (List.mem_cons_of_mem _ (List.mem_cons_of_mem _ (List.mem_cons_self ..))))
      exact openis_calls (by simpa using World.var?_cell fnOpenIsGlob1 k1 0) s1 s2 s3 s4
theorem fnOpenIs_row : Rows.FnOpenIsSaid :=
  OpenClaim.holds_of_wide 6 Tryd.f6 rfl rfl rfl rfl rfl rfl rfl ⟨rfl, rfl, rfl, rfl, rfl⟩ rfl rfl rfl rfl rfl (by kernel_rfl) Tryd.func6 (by kernel_rfl)
    (of_decide_eq_true (by kernel_rfl)) (by unfold Func.isWrapper; first | (rw [if_pos (by decide +kernel)]; kernel_rfl) | (rw [if_neg (by decide +kernel)]; exact ⟨rfl, rfl⟩))
    (fun os started H enc _ => fnOpenIs_lifted os started H enc)
theorem fnOpenIs_holds : Rows.FnOpenIsCardSaid :=
  Claim7.holds_tied_plain_at .later [] [.sentinel, .sentinel, .sentinel, .sentinel] true (true, "dcddebe8a57cbc5ec5d1ef1f265641341a710f1c3173d232f1a5a14498c1ce81") false
    fnOpenIs_row (fun _ h => by cases h) (by kernel_rfl) (fun _ h => by cases h) fnOpenIs_row_tie rfl ⟨rfl, rfl⟩ (by kernel_rfl) rfl
    (fun f fn hf hfn => by
      obtain rfl : f = 6 := Option.some.inj ((show Tryd.prog.funcNamed "loop.example/pub-g03031/laws.FnOpenIs" = some 6 by kernel_rfl).symm.trans hf) |>.symm
      obtain rfl : fn = Tryd.f6 := (Option.some.inj (Tryd.func6.symm.trans hfn)).symm
      exact ⟨by kernel_rfl, fun j t ht => noStand Tryd.f6.params.toList (by rw [Tryd.params6]; decide) j t (by simpa using ht)⟩)
    (by kernel_rfl)
end Go.Proofs.YtfilandehjmikaaDoor
