/- The law FnOpenTurned. No condition. -/
import Derived.Test.YtfilandehjmikaaDoorAscGT
import Derived.Test.YtfilandehjmikaaDoorOseal
import Derived.StillTailTactics
namespace Go.Proofs.YtfilandehjmikaaDoor
open Go.RowKit Go.Proofs.YtfilandehjmikaaDoor.Sx Go.Proofs.YtfilandehjmikaaDoor.Asc

theorem at_set {w : World} {g i : Nat} {vs : List Value} {v : Value} (h : At w g 0 vs) (hi : i < vs.length) : At (w.setCell ⟨g, i, none⟩ v) g 0 (vs.set i v) := fun j u hu => by
  rw [Nat.zero_add]
  by_cases hj : j = i
  · subst hj
    rw [List.getElem?_set_self hi] at hu
    have h0 := h j vs[j] (List.getElem?_eq_getElem hi)
    rw [Nat.zero_add] at h0
    rw [World.cell?_setCell_same _ _ _ h0, Option.some.inj hu]
  · rw [List.getElem?_set_ne (fun e => hj e.symm)] at hu
    rw [World.cell?_setCell_other _ _ _ _ (by intro e; exact hj (congrArg Addr.off e).symm)]
    have := h j u hu
    rwa [Nat.zero_add] at this
theorem xor_bit_all : ∀ b : Fin 256, ∀ r : Fin 8, bits BinOp.xor IntKind.u8 ((b.val : Nat) : Int) (2 ^ r.val % 256) = (((BitVec.ofNat 8 b.val ^^^ BitVec.ofNat 8 (2 ^ r.val)).toNat : Nat) : Int) := by decide +kernel
theorem xor_bit (b : B8) {r : Nat} (hr : r < 8) : bits BinOp.xor IntKind.u8 (b.toNat : Int) (2 ^ r % 256) = ((b ^^^ BitVec.ofNat 8 (2 ^ r)).toNat : Int) := by
  have := xor_bit_all ⟨b.toNat, b.isLt⟩ ⟨r, hr⟩
  simpa using this
theorem bit_ne : ∀ r : Fin 8, BitVec.ofNat 8 (2 ^ r.val) ≠ 0#8 := by decide
theorem turn_ne {tg : List B8} {q r : Nat} (hq : q < tg.length) (hr : r < 8) : tg.set q (tg.getD q 0 ^^^ BitVec.ofNat 8 (2 ^ r)) ≠ tg := fun e => by
  have h1 := congrArg (·[q]?) e
  simp only [List.getElem?_set_self hq] at h1
  rw [List.getElem?_eq_getElem hq] at h1
  have h2 := Option.some.inj h1
  rw [List.getD, List.getElem?_eq_getElem hq] at h2
  exact bit_ne ⟨r, hr⟩ (by
    have h3 := congrArg (tg[q] ^^^ ·) h2
    simpa [← BitVec.xor_assoc] using h3)
theorem iopen_turned {m : Nat} (hm : m ≤ 2) {key nonce text data t : List B8} (hk : key.length = klen m) (hn : nonce.length = 16) (hnl : (crypt (mdOf m) false (dataSt (mdOf m) (beginS m key nonce) data) text).1.length + 16 ≤ 1048576) (hdl : data.length ≤ 1048576) {w : World} {kv nv sv dv : Value} {ea : Addr} (h1 : w.cell? ⟨1, 0, none⟩ = some (.iface 91 (.pointer (some ea))))
    (hkv : SlV w kv (vals key)) (hs : SlV w nv (vals nonce)) (h16 : t.length = 16) (ht : SlV w sv (vals ((crypt (mdOf m) false (dataSt (mdOf m) (beginS m key nonce) data) text).1 ++ t))) (hne : t ≠ tagS m key (crypt (mdOf m) false (dataSt (mdOf m) (beginS m key nonce) data) text).2) (hd : SlV w dv (vals data)) :
    Calls Tryd.prog 18 #[.int .i64 (m : Int), .slice none 0 0, kv, nv, sv, dv] w fun e w' => e = .returned (.tuple #[.slice none 0 0, .bool false]) ∧ Below w.heap.size w w' := by
  refine (iopen_calls hm hk hn h16 hnl hdl h1 hkv hs ht hd).mono fun e w' h => ?_
  unfold IOpen at h
  rw [openCT_turned hne] at h
  exact h
section
variable {w : World} {mode bit : Int} {ka na ta da : Option Addr} {kl kc nl nc tl tc dl dc : Nat}
set_option maxHeartbeats 1000000 in
theorem oturn_big (h : ¬(kl ≤ 2147483647 ∧ nl ≤ 2147483647 ∧ tl ≤ 2147483647 ∧ dl ≤ 2147483647)) :
    Calls Tryd.prog 9 #[.int .i64 mode, .slice ka kl kc, .slice na nl nc, .slice ta tl tc, .slice da dl dc, .int .i64 bit] w (Tru w) := by
  by_cases h1 : 2147483647 < kl
  · go_enter Tryd.func9, Tryd.ntmps9
    go_wp2_with (fail)
    go_ret
    exact ⟨rfl, Below.refl _ _⟩
  by_cases h2 : 2147483647 < nl
  · clear h
    go_enter Tryd.func9, Tryd.ntmps9
    go_wp2_with (fail)
    go_ret
    exact ⟨rfl, Below.refl _ _⟩
  by_cases h3 : 2147483647 < tl
  · clear h
    go_enter Tryd.func9, Tryd.ntmps9
    go_wp2_with (fail)
    go_ret
    exact ⟨rfl, Below.refl _ _⟩
  by_cases h4 : 2147483647 < dl
  · clear h
    go_enter Tryd.func9, Tryd.ntmps9
    go_wp2_with (fail)
    go_ret
    exact ⟨rfl, Below.refl _ _⟩
  exact absurd ⟨by omega, by omega, by omega, by omega⟩ h
set_option maxHeartbeats 1000000 in
theorem oturn_wrong (h1 : kl ≤ 2147483647) (h2 : nl ≤ 2147483647) (h3 : tl ≤ 2147483647) (h4 : dl ≤ 2147483647) (hr : rightB mode kl nl = false) :
    Calls Tryd.prog 9 #[.int .i64 mode, .slice ka kl kc, .slice na nl nc, .slice ta tl tc, .slice da dl dc, .int .i64 bit] w (Tru w) := by
  have Hr := Lib.hid hr; clear hr
  go_enter Tryd.func9, Tryd.ntmps9
  go_wp2_with (fail)
  refine (right_no Hr.out).mono ?_
  rintro e w1 ⟨rfl, hb⟩
  have HB := Lib.hid hb; clear hb
  go_wp2_with (fail)
  go_ret
  exact ⟨rfl, HB.out⟩
set_option maxHeartbeats 1000000 in
theorem oturn_many (h1 : kl ≤ 2147483647) (h2 : nl ≤ 2147483647) (h3 : tl ≤ 2147483647) (h4 : dl ≤ 2147483647) (hr : rightB mode kl nl = true) (hf : decide (tl + dl ≤ 4096) = false) :
    Calls Tryd.prog 9 #[.int .i64 mode, .slice ka kl kc, .slice na nl nc, .slice ta tl tc, .slice da dl dc, .int .i64 bit] w (Tru w) := by
  have Hr := Lib.hid hr; clear hr
  have Hf := Lib.hid hf; clear hf
  go_enter Tryd.func9, Tryd.ntmps9
  go_wp2_with (fail)
  refine (right_yes Hr.out).mono ?_
  rintro e w1 ⟨rfl, hb⟩
  have HB := Lib.hid hb; clear hb
  go_wp2_with (fail)
  refine (few2_calls h3 h4 Hf.out).mono ?_
  rintro e w2 ⟨rfl, hb2⟩
  have HB2 := Lib.hid (HB.out.trans (hb2.mono HB.out.size)); clear hb2
  go_wp2_with (fail)
  go_ret
  exact ⟨rfl, HB2.out⟩
set_option maxHeartbeats 1000000 in
theorem oturn_bit (h1 : kl ≤ 2147483647) (h2 : nl ≤ 2147483647) (h3 : tl ≤ 2147483647) (h4 : dl ≤ 2147483647) (hr : rightB mode kl nl = true) (hf : decide (tl + dl ≤ 4096) = true) (hb : bit < 0 ∨ 127 < bit) :
    Calls Tryd.prog 9 #[.int .i64 mode, .slice ka kl kc, .slice na nl nc, .slice ta tl tc, .slice da dl dc, .int .i64 bit] w (Tru w) := by
  have Hr := Lib.hid hr; clear hr
  have Hf := Lib.hid hf; clear hf
  by_cases hb0 : bit < 0
  · clear hb
    go_enter Tryd.func9, Tryd.ntmps9
    go_wp2_with (fail)
    refine (right_yes Hr.out).mono ?_
    rintro e w1 ⟨rfl, hb⟩
    have HB := Lib.hid hb; clear hb
    go_wp2_with (fail)
    refine (few2_calls h3 h4 Hf.out).mono ?_
    rintro e w2 ⟨rfl, hb2⟩
    have HB2 := Lib.hid (HB.out.trans (hb2.mono HB.out.size)); clear hb2
    go_wp2_with (fail)
    go_ret
    exact ⟨rfl, HB2.out⟩
  · have hb1 : 127 < bit := by omega
    clear hb
    go_enter Tryd.func9, Tryd.ntmps9
    go_wp2_with (fail)
    refine (right_yes Hr.out).mono ?_
    rintro e w1 ⟨rfl, hb⟩
    have HB := Lib.hid hb; clear hb
    go_wp2_with (fail)
    refine (few2_calls h3 h4 Hf.out).mono ?_
    rintro e w2 ⟨rfl, hb2⟩
    have HB2 := Lib.hid (HB.out.trans (hb2.mono HB.out.size)); clear hb2
    go_wp2_with (fail)
    go_ret
    exact ⟨rfl, HB2.out⟩
theorem iseal_thaw {m n : Nat} (hm : m ≤ 2) {key nonce text data : List B8} (hk : key.length = klen m) (hn : nonce.length = 16) (htn : text.length = n) (htl : n ≤ 1048576) (hdl : data.length ≤ 1048576) {w : World} {kv nv tv dv : Value}
    (hkv : SlV w kv (vals key)) (hs : SlV w nv (vals nonce)) (ht : SlV w tv (vals text)) (hd : SlV w dv (vals data)) :
    Calls Tryd.prog 15 #[.int .i64 (m : Int), .slice none 0 0, kv, nv, tv, dv] w fun e w' => ∃ g cap, e = .returned (.tuple #[.slice (some ⟨g, 0, none⟩) (n + 16) cap, .bool true]) ∧ n + 16 ≤ cap ∧ Below w.heap.size w w' ∧ w.heap.size ≤ g ∧ At w' g 0 (vals (sealB m key nonce text data)) ∧ Thaw w' g 0 (n + 16) := by
  refine (iseal_gen (k := 0) (dst := []) hm hk hn htn htl hdl rfl (by decide) (.inl ⟨rfl, rfl⟩) hkv hs ht hd).mono fun e w' ⟨g, cap, h1, h2, h3, h4, h5, h6⟩ => ⟨g, cap, ?_, by omega, h3, h4, h5, h6⟩
  rw [h1, Nat.zero_add]
set_option maxHeartbeats 1000000 in
theorem oturn_main {m q r : Nat} {key nonce text data : List B8} {ea : Addr} (he1 : w.cell? ⟨1, 0, none⟩ = some (.iface 91 (.pointer (some ea)))) (hm : m ≤ 2) (hk : key.length = klen m) (hn : nonce.length = 16) (hkl : key.length = kl) (hnl : nonce.length = nl) (htl : text.length = tl) (hdl : data.length = dl) (hsum : tl + dl ≤ 4096)
    (hq : q < 16) (hr8 : r < 8) (hbit : bit = 8 * (q : Int) + r)
    (hks : SlV w (.slice ka kl kc) (vals key)) (hns : SlV w (.slice na nl nc) (vals nonce)) (hts : SlV w (.slice ta tl tc) (vals text)) (hds : SlV w (.slice da dl dc) (vals data)) :
    Calls Tryd.prog 9 #[.int .i64 (m : Int), .slice ka kl kc, .slice na nl nc, .slice ta tl tc, .slice da dl dc, .int .i64 bit] w (Tru w) := by
  have h20 := klen_le m
  have h1 : kl ≤ 2147483647 := by omega
  have h2 : nl ≤ 2147483647 := by omega
  have h3 : tl ≤ 2147483647 := by omega
  have h5 : dl ≤ 2147483647 := by omega
  have hb0 : ¬ bit < 0 := by omega
  have hb1 : ¬ 127 < bit := by omega
  have Hr : Hid (rightB (m : Int) kl nl = true) := Lib.hid (decide_eq_true ⟨by omega, by omega, by rw [Int.toNat_natCast, ← hkl]; exact hk, by rw [← hnl]; exact hn⟩)
  have Hf : Hid (decide (tl + dl ≤ 4096) = true) := Lib.hid (decide_eq_true hsum)
  have Hk := Lib.hid hk; clear hk
  have Hn := Lib.hid hn; clear hn
  have Htl := Lib.hid htl; clear htl
  have Hdl := Lib.hid hdl; clear hdl
  have He := Lib.hid he1; clear he1
  clear hkl hnl
  have Hks := Lib.hid hks; clear hks
  have Hns := Lib.hid hns; clear hns
  have Hts := Lib.hid hts; clear hts
  have Hds := Lib.hid hds; clear hds
  have Hbit := Lib.hid hbit; clear hbit
  go_enter Tryd.func9, Tryd.ntmps9
  go_wp2_with (fail)
  refine (right_yes Hr.out).mono ?_
  rintro e w1 ⟨rfl, hb⟩
  have HB := Lib.hid hb; clear hb
  go_wp2_with (fail)
  refine (few2_calls h3 h5 Hf.out).mono ?_
  rintro e w2 ⟨rfl, hb2⟩
  have HB2 := Lib.hid (HB.out.trans (hb2.mono HB.out.size)); clear hb2
  go_wp2_with (fail)
  refine (iseal_thaw hm Hk.out Hn.out Htl.out (by omega) (by rw [Hdl.out]; omega) (Hks.out.below HB2.out) (Hns.out.below HB2.out) (Hts.out.below HB2.out) (Hds.out.below HB2.out)).mono ?_
  rintro e w3 ⟨g, cap, rfl, hcap, hb3, hg3, ho3, ht3⟩
  have HB3 := Lib.hid (HB2.out.trans (hb3.mono HB2.out.size))
  have HG3 := Lib.hid (Nat.le_trans HB2.out.size hg3); clear hb3 hg3
  have HO3 := Lib.hid ho3; clear ho3
  have HT3 := Lib.hid ht3; clear ht3
  go_wp2_with (fail)
  have ht1 : bit.tdiv 8 = (q : Int) := by rw [Hbit.out]; rw [Int.tdiv_eq_ediv_of_nonneg (by omega)]; omega
  have ht2 : bit.tmod 8 = (r : Int) := by rw [Hbit.out]; rw [Int.tmod_eq_emod_of_nonneg (by omega)]; omega
  have hw1 : IntKind.i64.wrap (q : Int) = (q : Int) := by rw [IntKind.wrap_i64]; omega
  have hw2 : IntKind.i64.wrap (r : Int) = (r : Int) := by rw [IntKind.wrap_i64]; omega
  have hw3 : IntKind.i64.wrap ((tl : Int) + q) = (tl : Int) + q := by rw [IntKind.wrap_i64]; omega
  have hi0 : (0 : Int) ≤ (tl : Int) + q := by omega
  have hi1 : ((tl : Int) + q).toNat = tl + q := by omega
  have hi2 : (tl : Int) + q < (tl : Int) + 16 := by omega
  have hi3 : tl + q < tl + 16 := by omega
  have hcell : w3.cell? ⟨g, tl + q, none⟩ = some (.int .u8 (((tagS m key (crypt (mdOf m) false (dataSt (mdOf m) (beginS m key nonce) data) text).2).getD q 0).toNat : Int)) := by
    have := HO3.out (tl + q) (.int .u8 (((tagS m key (crypt (mdOf m) false (dataSt (mdOf m) (beginS m key nonce) data) text).2).getD q 0).toNat : Int)) (by
      unfold sealB
      rw [vals_append, List.getElem?_append_right (by rw [vals_length, crypt_length, Htl.out]; omega), vals_length, crypt_length, Htl.out, show tl + q - tl = q by omega]
      simp only [vals, List.getElem?_map, List.getD]
      rw [List.getElem?_eq_getElem (by rw [tagS_length]; exact hq)]
      rfl)
    rwa [Nat.zero_add] at this
  have hfr : w3.frozen? ⟨g, tl + q, none⟩ = false := by
    have := HT3.out (tl + q) (by omega)
    rwa [Nat.zero_add] at this
  generalize hT : tagS m key (crypt (mdOf m) false (dataSt (mdOf m) (beginS m key nonce) data) text).2 = tg at hcell
  have hd : Below w3.heap.size w3 w3.drew := ⟨rfl, rfl, rfl, Nat.le_refl _, fun _ _ => rfl⟩
  have hcell' : w3.drew.cell? ⟨g, tl + q, none⟩ = some (.int .u8 ((tg.getD q 0).toNat : Int)) := hcell
  have hfr' : w3.drew.frozen? ⟨g, tl + q, none⟩ = false := hfr
  go_still_tail 19, (by kernel_rfl)
  change wpList _ _ _ _ _ w3.drew
  generalize w3.drew = w4 at hd hcell' hfr' ⊢
  clear hcell hfr
  go_wp2_with (fail)
  have hx : Value.int IntKind.u8 (bits BinOp.xor IntKind.u8 (↑(BitVec.toNat (tg[q]?.getD 0#8))) (2 ^ r % 256)) = bval (tg.getD q 0 ^^^ BitVec.ofNat 8 (2 ^ r)) := by
    rw [xor_bit _ hr8]; rfl
  have htl16 : tg.length = 16 := by rw [← hT]; exact tagS_length ..
  rw [hx]
  have ha4 : At w4 g 0 (vals (sealB m key nonce text data)) := HO3.out.below hd
  have hs5 : vals ((crypt (mdOf m) false (dataSt (mdOf m) (beginS m key nonce) data) text).1 ++ tg.set q (tg.getD q 0 ^^^ BitVec.ofNat 8 (2 ^ r))) = (vals (sealB m key nonce text data)).set (tl + q) (bval (tg.getD q 0 ^^^ BitVec.ofNat 8 (2 ^ r))) := by
    unfold sealB
    rw [hT]
    unfold vals
    rw [← List.map_set, List.set_append_right _ _ (by rw [crypt_length, Htl.out]; omega), crypt_length, Htl.out, show tl + q - tl = q by omega]
  have ha5 := at_set (i := tl + q) (v := bval (tg.getD q 0 ^^^ BitVec.ofNat 8 (2 ^ r))) ha4 (by rw [vals_length, sealB_length, Htl.out]; omega)
  rw [← hs5] at ha5
  have HB5 := Lib.hid ((HB3.out.trans (hd.mono HB3.out.size)).setCell (p := ⟨g, tl + q, none⟩) HG3.out (bval (tg.getD q 0 ^^^ BitVec.ofNat 8 (2 ^ r))))
  generalize w4.setCell ⟨g, tl + q, none⟩ (bval (tg.getD q 0 ^^^ BitVec.ofNat 8 (2 ^ r))) = w5 at ha5 HB5 ⊢
  have hsl := SlV.mk (cap := cap) ha5 (by rw [vals_length, List.length_append, crypt_length, List.length_set, htl16, Htl.out]; exact hcap)
  rw [vals_length, List.length_append, crypt_length, List.length_set, htl16, Htl.out] at hsl
  have HT := Lib.hid hT; clear hT
  have HSL := Lib.hid hsl; clear hsl
  have H16 := Lib.hid htl16; clear htl16
  clear ha4 ha5 hs5 hx hd hcell' hfr' ht1 ht2 hw1 hw2 hw3 hi0 hi1 hi2 hi3
  refine (iopen_turned hm Hk.out Hn.out (by rw [crypt_length, Htl.out]; omega) (by rw [Hdl.out]; omega) ((HB5.out.cell (p := ⟨1, 0, none⟩) (cell_lt He.out)).trans He.out) (Hks.out.below HB5.out) (Hns.out.below HB5.out) (by rw [List.length_set]; exact H16.out) HSL.out (by rw [HT.out]; exact turn_ne (by rw [H16.out]; exact hq) hr8) (Hds.out.below HB5.out)).mono ?_
  rintro e w6 ⟨rfl, hb6⟩
  have HB6 := Lib.hid (HB5.out.trans (hb6.mono HB5.out.size)); clear hb6
  go_wp2_with (fail)
  go_ret
  exact ⟨rfl, HB6.out⟩
theorem oturn_calls {ea : Addr} (he1 : w.cell? ⟨1, 0, none⟩ = some (.iface 91 (.pointer (some ea)))) {kv nv tv dv : Value} {key nonce text data : List B8} (hks : SlV w kv (vals key)) (hns : SlV w nv (vals nonce)) (hts : SlV w tv (vals text)) (hds : SlV w dv (vals data)) :
    Calls Tryd.prog 9 #[.int .i64 mode, kv, nv, tv, dv, .int .i64 bit] w (Tru w) := by
  obtain ⟨ka, kc, rfl⟩ := slV_shape hks
  obtain ⟨na, nc, rfl⟩ := slV_shape hns
  obtain ⟨ta, tc, rfl⟩ := slV_shape hts
  obtain ⟨da, dc, rfl⟩ := slV_shape hds
  by_cases hbig : key.length ≤ 2147483647 ∧ nonce.length ≤ 2147483647 ∧ text.length ≤ 2147483647 ∧ data.length ≤ 2147483647
  · obtain ⟨h1, h2, h3, h5⟩ := hbig
    cases hr : rightB mode key.length nonce.length with
    | false => exact oturn_wrong h1 h2 h3 h5 hr
    | true =>
      cases hf : decide (text.length + data.length ≤ 4096) with
      | false => exact oturn_many h1 h2 h3 h5 hr hf
      | true =>
        by_cases hb : bit < 0 ∨ 127 < bit
        · exact oturn_bit h1 h2 h3 h5 hr hf hb
        · have hr' := of_decide_eq_true hr
          obtain ⟨m, rfl⟩ : ∃ m : Nat, mode = (m : Int) := ⟨mode.toNat, by omega⟩
          rw [Int.toNat_natCast] at hr'
          exact oturn_main (q := (bit / 8).toNat) (r := (bit % 8).toNat) he1 (by omega) hr'.2.2.1 hr'.2.2.2 rfl rfl rfl rfl (of_decide_eq_true hf) (by omega) (by omega) (by omega) hks hns hts hds
  · exact oturn_big hbig
end
end Go.Proofs.YtfilandehjmikaaDoor
