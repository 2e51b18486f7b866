/- The code's Open behind anything, of what was sealed; the thin package's Open. No condition. -/
import Derived.Test.YtfilandehjmikaaDoorAscGT
import Derived.Test.YtfilandehjmikaaDoorAscA
namespace Go.Proofs.YtfilandehjmikaaDoor.Asc
open Go.RowKit Go.Proofs.YtfilandehjmikaaDoor.Sx

/-- The text stands behind what was there. -/
def GOpenP (w : World) (head : Value) (pre : List B8) (g o : Nat) (p : List B8) (e : Ending) (w' : World) : Prop :=
  e = .returned (.tuple #[head, .nilIface]) ∧ Chg w w' [(g, o, p.length)] ∧ At w' g 0 (vals (pre ++ p))
set_option maxHeartbeats 1000000 in
theorem gopen {m : Nat} (hm : m ≤ 2) {key nonce data c t : List B8} (hk : key.length = klen m) (hn : nonce.length = 16) (h16 : t.length = 16) (hnl : c.length ≤ 1048576) (hdl : data.length ≤ 1048576) {w : World} {cb co ncap sb so scap g o : Nat} {na : Option Addr} {dv dst head : Value} {pre : List B8}
    (htag : t = tagS m key (crypt (mdOf m) true (dataSt (mdOf m) (beginS m key nonce) data) c).2) (ho : o = pre.length ∨ c.length = 0 ∧ o = 0)
    (hsfa : ∀ x : Int, x = (c.length : Int) → Calls Tryd.prog 31 #[dst, .int .i64 x] w (SfaR w head pre g o c.length))
    (hc : At w cb co (cVals m key)) (hs : SlV w (.slice na 16 ncap) (vals nonce)) (ht : At w sb so (vals c ++ vals t)) (hcap : c.length + 16 ≤ scap) (hd : SlV w dv (vals data))
    (hgc : cb ≠ g) (hgs : sb ≠ g) :
    Calls Tryd.prog 29 #[ptrTo cb co, dst, .slice na 16 ncap, .slice (some ⟨sb, so, none⟩) (c.length + 16) scap, dv] w (GOpenP w head pre g o (crypt (mdOf m) true (dataSt (mdOf m) (beginS m key nonce) data) c).1) := by
  have Hk := Lib.hid hk; clear hk
  have Hn := Lib.hid hn; clear hn
  have Hc := Lib.hid hc; clear hc
  have Hs := Lib.hid hs; clear hs
  have Ht := Lib.hid (At.append.1 ht); clear ht
  have Hd := Lib.hid hd; clear hd
  have H16 := Lib.hid h16; clear h16
  have HTG := Lib.hid htag; clear htag
  have HF := Lib.hid hsfa; clear hsfa
  have Ho := Lib.hid ho; clear ho
  go_enter Tryd.func29, Tryd.ntmps29
  go_wp2_with (fail)
  refine (HF.out _ rfl).mono ?_
  rintro e w1 ⟨cap, os, rfl, hcap1, hb1, hol, hone, hat, hth, hg1, hpre⟩
  have H1 := Lib.hid hb1; clear hb1
  have HOL := Lib.hid hol; clear hol
  have HON := Lib.hid hone; clear hone
  have HAT := Lib.hid hat; clear hat
  have HTH := Lib.hid hth; clear hth
  have HP := Lib.hid hpre; clear hpre
  clear HF
  go_wp2_with (fail)
  go_quiet (fail)
  go_wp2_with (fail)
  generalize hW : World.alloc (World.alloc (w1.drewN nq) _) _ = w2
  have HN := Lib.hid (newTS w1 w2 nq 71 47 hW.symm); clear hW
  have hz1 : w.heap.size ≤ w1.heap.size := H1.out.size
  have hb12 : Below w.heap.size w w2 := H1.out.trans (HN.out.1.mono hz1)
  have hz2 : w2.heap.size = w1.heap.size + 2 := HN.out.2.1
  have hcb : cb < w.heap.size := at_lt Hc.out (by simp [cVals])
  have hsb : sb < w.heap.size := at_lt Ht.out.2 (by intro e; have := congrArg List.length e; rw [vals_length, H16.out] at this; cases this)
  refine (init_calls hm Hk.out Hn.out (Hc.out.below hb12) (Hs.out.below hb12) HN.out.2.2.2.2.1 HN.out.2.2.2.2.2 (by omega) (notAt_new Hs.out (by omega))).mono ?_
  have HB := Lib.hid hb12; clear hb12
  rintro e w3 ⟨rfl, hc3, ha3⟩
  have H3 := Lib.hid hc3; clear hc3
  have HA3 := Lib.hid ha3; clear ha3
  go_wp2_with (fail)
  have hb13 : Below w.heap.size w w3 := chg_below ((Chg.of_below HB.out).trans H3.out) (by simp; omega)
  refine (data_calls hm (by omega) rfl rfl rfl (Hc.out.below hb13) (Hd.out.below hb13) (notAt_new Hd.out (by omega)) HA3.out (H3.out.thaw (by omega) HN.out.2.2.2.2.2)).mono ?_
  have HB3 := Lib.hid hb13; clear hb13
  rintro e w4 ⟨rfl, hc4, ha4⟩
  have H4 := Lib.hid hc4; clear hc4
  have HA4 := Lib.hid ha4; clear ha4
  go_wp2_with (fail)
  have hch : Chg w2 w4 [(w1.heap.size + 1, 0, 5)] := H3.out.trans H4.out
  have off : ∀ r ∈ [(w1.heap.size + 1, 0, 5)], r.1 ≠ g := fun r hr => by rw [List.mem_singleton] at hr; subst hr; show w1.heap.size + 1 ≠ _; omega
  have hb14 : Below w.heap.size w w4 := chg_below (((Chg.of_below HB.out).trans H3.out).trans H4.out) (by simp; omega)
  have hz4 : At w4 g o os := hch.at (HAT.out.below HN.out.1) fun r hr => .inl (off r hr)
  have hp4 : At w4 g 0 (vals pre) := hch.at (HP.out.below HN.out.1) fun r hr => .inl (off r hr)
  have ht4 : Thaw w4 g o c.length := hch.thaw (by omega) ((Chg.of_below (R := []) HN.out.1).thaw hg1 HTH.out)
  have hts4 : Thaw w4 (w1.heap.size + 1) 0 5 := hch.thaw (by omega) HN.out.2.2.2.2.2
  have htg4 : At w4 w1.heap.size 0 (zer 16) := hch.at HN.out.2.2.1 fun r hr => .inl (by rw [List.mem_singleton] at hr; subst hr; show w1.heap.size + 1 ≠ _; omega)
  have htt4 : Thaw w4 w1.heap.size 0 16 := hch.thaw (by omega) HN.out.2.2.2.1
  have hs4 : w2.heap.size ≤ w4.heap.size := hch.size
  have hout := outRowG (k := 0) (cap := cap) hz4 (by rw [HOL.out]; rfl) HON.out (by exact ht4) (by omega)
  have hsrc : SlV w (.slice (some ⟨sb, so, none⟩) c.length scap) (vals c) := .inr ⟨⟨sb, so, none⟩, scap, by rw [vals_length], by rw [vals_length]; omega, fun j x hx => by rw [Addr.add_lit]; exact Ht.out.1 j x hx⟩
  refine (text_calls hm true (by omega) rfl rfl rfl (Hc.out.below hb14) ⟨hsrc.below hb14, hout, notAt_new hsrc (by omega), fun b o n c e _ => by simp only [Value.slice.injEq, Option.some.injEq, Addr.mk.injEq] at e; omega, fun _ => by omega, HA4.out, hts4⟩).mono ?_
  have HB4 := Lib.hid hb14; clear hb14
  have HC4 := Lib.hid hch; clear hch
  have HTA := Lib.hid htg4; clear htg4
  have HTT := Lib.hid htt4; clear htt4
  have HS4 := Lib.hid hts4; clear hts4
  have HP4 := Lib.hid hp4; clear hp4
  clear hout hz4 hsrc off ht4
  rintro e w5 ⟨rfl, hc5, ha5, ho5⟩
  have H5 := Lib.hid hc5; clear hc5
  have HA5 := Lib.hid ha5; clear ha5
  have HO5 := Lib.hid ho5; clear ho5
  go_wp2_with (fail)
  have hch : Chg w w5 [(w1.heap.size + 1, 0, 5), (g, o, c.length)] := (chg_sub ((Chg.of_below HB.out).trans HC4.out) fun r hr => by rw [List.mem_singleton] at hr; subst hr; exact List.mem_cons_self ..).trans H5.out
  have hc5 : At w5 cb co (cVals m key) := hch.at Hc.out fun r hr => by
    simp only [List.mem_cons, List.not_mem_nil, or_false] at hr
    rcases hr with rfl | rfl
    · exact .inl (by show w1.heap.size + 1 ≠ _; omega)
    · exact .inl (Ne.symm hgc)
  have htg : At w5 w1.heap.size 0 (zer 16) := H5.out.at HTA.out fun r hr => by
    simp only [List.mem_cons, List.not_mem_nil, or_false] at hr
    rcases hr with rfl | rfl
    · exact .inl (by show w1.heap.size + 1 ≠ _; omega)
    · exact .inl (by show g ≠ _; omega)
  have htt : Thaw w5 w1.heap.size 0 16 := H5.out.thaw (by omega) HTT.out
  have hs5 : w4.heap.size ≤ w5.heap.size := H5.out.size
  refine (fin_calls hm Hk.out hc5 htg (by simp [zer]) (fun x hx => by rw [(List.mem_replicate.1 hx).2]; rfl) htt (Nat.le_refl _) HA5.out (H5.out.thaw (by omega) HS4.out) (by omega) (by omega) (by omega)).mono ?_
  have HC5 := Lib.hid hch; clear hch
  clear htg htt hc5
  rintro e w6 ⟨rfl, hc6, ho6⟩
  have H6 := Lib.hid hc6; clear hc6
  have HO6 := Lib.hid ho6; clear ho6
  go_wp2_with (fail)
  have hs6 : w5.heap.size ≤ w6.heap.size := H6.out.size
  have hch : Chg w w6 [(w1.heap.size + 1, 0, 5), (g, o, c.length), (w1.heap.size, 0, 16)] := (chg_sub HC5.out fun r hr => by
    simp only [List.mem_cons, List.not_mem_nil, or_false] at hr ⊢
    rcases hr with rfl | rfl
    · exact .inl rfl
    · exact .inr (.inl rfl)).trans (chg_sub H6.out fun r hr => by
    simp only [List.mem_cons, List.not_mem_nil, or_false] at hr ⊢
    rcases hr with rfl | rfl
    · exact .inl rfl
    · exact .inr (.inr rfl))
  have hrow6 : At w6 g o (vals (crypt (mdOf m) true (dataSt (mdOf m) (beginS m key nonce) data) c).1) := H6.out.at HO5.out fun r hr => by
    simp only [List.mem_cons, List.not_mem_nil, or_false] at hr
    rcases hr with rfl | rfl
    · exact .inl (by show w1.heap.size + 1 ≠ _; omega)
    · exact .inl (by show w1.heap.size ≠ _; omega)
  have hp6 : At w6 g 0 (vals pre) := H6.out.at (H5.out.at HP4.out fun r hr => by
    simp only [List.mem_cons, List.not_mem_nil, or_false] at hr
    rcases hr with rfl | rfl
    · exact .inl (by show w1.heap.size + 1 ≠ _; omega)
    · rcases Ho.out with h | ⟨h, h'⟩
      · exact .inr (.inr (by show 0 + (vals _).length ≤ o; rw [vals_length, h]; omega))
      · exact .inr (.inl (by show o + c.length ≤ 0; omega))) fun r hr => by
    simp only [List.mem_cons, List.not_mem_nil, or_false] at hr
    rcases hr with rfl | rfl
    · exact .inl (by show w1.heap.size + 1 ≠ _; omega)
    · exact .inl (by show w1.heap.size ≠ _; omega)
  have htv6 : At w6 sb (so + c.length) (vals t) := hch.at (by have := Ht.out.2; rwa [vals_length] at this) fun r hr => by
    simp only [List.mem_cons, List.not_mem_nil, or_false] at hr
    rcases hr with rfl | rfl | rfl
    · exact .inl (by show w1.heap.size + 1 ≠ _; omega)
    · exact .inl (Ne.symm hgs)
    · exact .inl (by show w1.heap.size ≠ _; omega)
  have HR6 := Lib.hid hrow6; clear hrow6
  have HP6 := Lib.hid hp6; clear hp6
  have HCC := Lib.hid hch; clear hch
  refine (ctc_calls H16.out (tagS_length ..) (.inr ⟨⟨sb, so + c.length, none⟩, scap - c.length, by rw [vals_length, H16.out], by rw [vals_length, H16.out]; omega, fun j x hx => by rw [Addr.add_lit]; exact htv6 j x hx⟩) (b := tagS m key (crypt (mdOf m) true (dataSt (mdOf m) (beginS m key nonce) data) c).2) (.inr ⟨⟨w1.heap.size, 0, none⟩, 16, rfl, Nat.le_refl _, fun j x hx => by rw [Addr.add_lit]; exact HO6.out j x hx⟩)).mono ?_
  clear htv6
  rintro e w7 ⟨rfl, hb7⟩
  have HB7 := Lib.hid hb7; clear hb7
  rw [if_pos HTG.out]
  go_wp2_with (fail)
  go_ret2
  have hcl : (crypt (mdOf m) true (dataSt (mdOf m) (beginS m key nonce) data) c).1.length = c.length := crypt_length _ _ _ _
  refine ⟨rfl, (HCC.out.trans (Chg.of_below (HB7.out))).mono fun r hr hlt => ?_, ?_⟩
  · simp only [List.mem_cons, List.not_mem_nil, or_false] at hr
    rcases hr with rfl | rfl | rfl
    · exact absurd hlt (by show ¬ w1.heap.size + 1 < _; omega)
    · exact ⟨_, List.mem_cons_self .., rfl, Nat.le_refl _, by rw [hcl]; exact Nat.le_refl _⟩
    · exact absurd hlt (by show ¬ w1.heap.size < _; omega)
  · rw [vals_append]
    refine At.append.2 ⟨HP6.out.below HB7.out, ?_⟩
    rw [vals_length, Nat.zero_add]
    by_cases h0 : 0 < c.length
    · rw [← (show o = pre.length by have := Ho.out; omega)]; exact HR6.out.below HB7.out
    · rw [List.length_eq_zero_iff.1 (by omega : (crypt (mdOf m) true (dataSt (mdOf m) (beginS m key nonce) data) c).1.length = 0)]
      exact fun j v hv => nomatch hv
theorem gopen_sl {m : Nat} (hm : m ≤ 2) {key nonce data c t : List B8} (hk : key.length = klen m) (hn : nonce.length = 16) (h16 : t.length = 16) (hnl : c.length ≤ 1048576) (hdl : data.length ≤ 1048576) {w : World} {cb co ncap g o : Nat} {na : Option Addr} {v dv dst head : Value} {pre : List B8}
    (htag : t = tagS m key (crypt (mdOf m) true (dataSt (mdOf m) (beginS m key nonce) data) c).2) (ho : o = pre.length ∨ c.length = 0 ∧ o = 0)
    (hsfa : ∀ x : Int, x = (c.length : Int) → Calls Tryd.prog 31 #[dst, .int .i64 x] w (SfaR w head pre g o c.length))
    (hc : At w cb co (cVals m key)) (hs : SlV w (.slice na 16 ncap) (vals nonce)) (ht : SlV w v (vals (c ++ t))) (hd : SlV w dv (vals data))
    (hgc : cb ≠ g) (hgs : NotAt v g) :
    Calls Tryd.prog 29 #[ptrTo cb co, dst, .slice na 16 ncap, v, dv] w (GOpenP w head pre g o (crypt (mdOf m) true (dataSt (mdOf m) (beginS m key nonce) data) c).1) := by
  obtain ⟨sb, so, scap, rfl, h2, ha, _⟩ := ht.cons (fun e => by have := congrArg List.length e; rw [vals_length, List.length_append, h16] at this; simp at this)
  have hne := hgs sb so _ scap rfl (by rw [vals_length, List.length_append, h16]; omega)
  rw [vals_length, List.length_append, h16] at h2 ⊢
  rw [vals_append] at ha
  exact gopen hm hk hn h16 hnl hdl htag ho hsfa hc hs ha h2 hd hgc hne
set_option maxHeartbeats 1000000 in
theorem iopen_own0 {m k n N : Nat} (hm : m ≤ 2) {key nonce text data dst c tg : List B8} (hk : key.length = klen m) (hn : nonce.length = 16) (hcl : c.length = n) (hlN : (c ++ tg).length = N) (hN : N ≤ 1048576) (hnl : n ≤ 1048576) (hdl : data.length ≤ 1048576) (hdk : dst.length = k) (hkl : k ≤ 1048576) (h16 : tg.length = 16)
    (htag : tg = tagS m key (crypt (mdOf m) true (dataSt (mdOf m) (beginS m key nonce) data) c).2) (hback : (crypt (mdOf m) true (dataSt (mdOf m) (beginS m key nonce) data) c).1 = text) {w : World} {xa : Addr} {xc : Nat} {na : Option Addr} {ncap : Nat} {kv sv dv : Value}
    (hxv : ∀ j u, (vals dst)[j]? = some u → w.cell? (xa.add j) = some u) (hkv : SlV w kv (vals key)) (hs : SlV w (.slice na 16 ncap) (vals nonce)) (ht : SlV w sv (vals (c ++ tg))) (hd : SlV w dv (vals data)) :
    Calls Tryd.prog 18 #[.int .i64 (m : Int), .slice (some xa) k xc, kv, .slice na 16 ncap, sv, dv] w fun e w' => ∃ g cap, e = .returned (.tuple #[.slice (some ⟨g, 0, none⟩) (k + n) cap, .bool true]) ∧ k + n ≤ cap ∧ Below w.heap.size w w' ∧ At w' g 0 (vals (dst ++ text)) := by
  have h20 := klen_le m
  have Hs := Lib.hid hs; clear hs
  have Ht := Lib.hid ht; clear ht
  have Hd := Lib.hid hd; clear hd
  have Hx := Lib.hid hxv; clear hxv
  have Hkv := Lib.hid hkv; clear hkv
  have Hk := Lib.hid hk; clear hk
  have Hn := Lib.hid hn; clear hn
  have Hdk := Lib.hid hdk; clear hdk
  have HLN := Lib.hid hlN; clear hlN
  have HCL := Lib.hid hcl; clear hcl
  have H16 := Lib.hid h16; clear h16
  have HTG := Lib.hid htag; clear htag
  have HBK := Lib.hid hback; clear hback
  go_enter Tryd.func18, Tryd.ntmps18
  go_wp2_with (fail)
  refine (cipher_calls hm Hk.out Hkv.out).mono ?_
  rintro e w1 ⟨cb, co, rfl, hb1, hcb, hc1⟩
  have HB1 := Lib.hid hb1; clear hb1
  have HC1 := Lib.hid hc1; clear hc1
  clear hcb
  go_wp2_with (fail)
  refine (clone_own Hdk.out hkl (fun j u hu => by have := Hx.out j u hu; rw [HB1.out.cell (cell_lt this)]; exact this)).mono ?_
  rintro e w2 ⟨g0, cap0, x2, rfl, hb2, hx2⟩
  have B2 := Lib.hid hb2
  have HB2 := Lib.hid (HB1.out.trans (hb2.mono HB1.out.size)); clear hb2
  have HX2 := Lib.hid hx2; clear hx2
  go_wp2_with (fail)
  refine (clone_n Hn.out (by decide) (Hs.out.below HB2.out)).mono ?_
  rintro e w3 ⟨na', ncap', rfl, hb3, hs3⟩
  have B3 := Lib.hid hb3
  have HB3 := Lib.hid (HB2.out.trans (hb3.mono HB2.out.size)); clear hb3
  have HS3 := Lib.hid hs3; clear hs3
  go_wp2_with (fail)
  refine (clone_far HLN.out hN (Ht.out.below HB3.out)).mono ?_
  rintro e w4 ⟨ta', tcap', rfl, hb4, ht4, hf4⟩
  have B4 := Lib.hid hb4
  have HB4 := Lib.hid (HB3.out.trans (hb4.mono HB3.out.size)); clear hb4
  have HT4 := Lib.hid ht4; clear ht4
  have HF4 := Lib.hid hf4; clear hf4
  go_wp2_with (fail)
  refine (clone_sl hdl (Hd.out.below HB4.out)).mono ?_
  rintro e w5 ⟨da', dcap', rfl, hb5, hd5⟩
  have B5 := Lib.hid hb5
  have HB5 := Lib.hid (HB4.out.trans (hb5.mono HB4.out.size)); clear hb5
  have HD5 := Lib.hid hd5; clear hd5
  have B25 : Below w2.heap.size w2 w5 := (B3.out.trans (B4.out.mono B3.out.size)).trans (B5.out.mono (Nat.le_trans B3.out.size B4.out.size))
  obtain ⟨g, o, cap, hcap, hg1, hg2, ho, hsfa⟩ := sfa_room (HX2.out.below B25) (by rw [Hdk.out]; exact hkl) (Nat.le_trans B2.out.size B25.size) n (by omega)
  have HSF := Lib.hid hsfa; clear hsfa
  have hcb1 : cb < w1.heap.size := at_lt HC1.out (by simp [cVals])
  have hg0 : g0 < w2.heap.size := HX2.out.at.2.2
  have hs25 : w2.heap.size ≤ w5.heap.size := B25.size
  have hs12 : w1.heap.size ≤ w2.heap.size := B2.out.size
  have hs23 : w2.heap.size ≤ w3.heap.size := B3.out.size
  have hs01 : w.heap.size ≤ w1.heap.size := HB1.out.size
  have Hgg := Lib.hid hg2; clear hg2
  have Hcc := Lib.hid hcap; clear hcap
  have Hoo := Lib.hid ho; clear ho
  have HB25 := Lib.hid B25; clear B25
  go_wp2_with (fail)
  refine (gopen_sl (g := g) (o := o) (pre := dst) (c := c) (t := tg) (head := .slice (some ⟨g, 0, none⟩) (dst.length + n) cap) hm Hk.out Hn.out H16.out (by rw [HCL.out]; omega) hdl HTG.out (by rw [HCL.out]; exact Hoo.out) (by rw [HCL.out]; exact HSF.out) ((HC1.out.below B2.out).below HB25.out) ((HS3.out.below B4.out).below B5.out) (HT4.out.below B5.out) HD5.out (by omega) (by
    rcases Hgg.out with h | h
    · rw [h]; exact notAt_new (HT4.out.below B5.out) (Nat.le_refl _)
    · exact HF4.out g (by omega))).mono ?_
  rintro e w6 ⟨rfl, hc6, ha6⟩
  rw [HBK.out] at hc6 ha6
  have HC6 := Lib.hid hc6; clear hc6
  have HA6 := Lib.hid ha6; clear ha6
  go_wp2_with (fail)
  go_ret2
  refine ⟨g, cap, by rw [Hdk.out]; rfl, by rw [← Hdk.out]; exact Hcc.out, ?_, HA6.out⟩
  exact chg_below ((Chg.of_below HB5.out).trans HC6.out) fun r hr => by
    rw [List.mem_singleton] at hr
    subst hr
    show w.heap.size ≤ g
    omega
theorem iopen_own {m k n : Nat} (hm : m ≤ 2) {key nonce text data dst : List B8} (hk : key.length = klen m) (hn : nonce.length = 16) (htn : text.length = n) (hnl : n + 16 ≤ 1048576) (hdl : data.length ≤ 1048576) (hdk : dst.length = k) (hkl : k ≤ 1048576) {w : World} {xa : Addr} {xc : Nat} {kv nv sv dv : Value}
    (hxv : ∀ j u, (vals dst)[j]? = some u → w.cell? (xa.add j) = some u) (hkv : SlV w kv (vals key)) (hs : SlV w nv (vals nonce)) (ht : SlV w sv (vals (sealB m key nonce text data))) (hd : SlV w dv (vals data)) :
    Calls Tryd.prog 18 #[.int .i64 (m : Int), .slice (some xa) k xc, kv, nv, sv, dv] w fun e w' => ∃ g cap, e = .returned (.tuple #[.slice (some ⟨g, 0, none⟩) (k + n) cap, .bool true]) ∧ k + n ≤ cap ∧ Below w.heap.size w w' ∧ At w' g 0 (vals (dst ++ text)) := by
  obtain ⟨na, ncap, hnv⟩ := slV_shape hs
  rw [hn] at hnv
  subst hnv
  have hcb := crypt_back (mdOf m) text (dataSt (mdOf m) (beginS m key nonce) data)
  exact iopen_own0 (N := n + 16) hm hk hn (by rw [crypt_length, htn]) (by rw [List.length_append, crypt_length, htn, tagS_length]) hnl (by omega) hdl hdk hkl (tagS_length ..) (by rw [hcb]) (by rw [hcb]) hxv hkv hs ht hd
end Go.Proofs.YtfilandehjmikaaDoor.Asc
