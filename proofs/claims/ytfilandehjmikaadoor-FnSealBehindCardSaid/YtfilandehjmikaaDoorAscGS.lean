/- The code's Seal behind anything, as a contract over what sliceForAppend answers. No condition. -/
import Derived.Test.YtfilandehjmikaaDoorAscF
namespace Go.Proofs.YtfilandehjmikaaDoor.Asc
open Go.RowKit Go.Proofs.YtfilandehjmikaaDoor.Sx

/-- What sliceForAppend answers: a whole, and room behind what was there, that may be written. -/
def SfaR (w : World) (head : Value) (pre : List B8) (g o n : Nat) (e : Ending) (w1 : World) : Prop :=
  ∃ (cap : Nat) (os : List Value), e = .returned (.tuple #[head, .slice (some ⟨g, o, none⟩) n cap]) ∧ n ≤ cap ∧ Below w.heap.size w w1 ∧ os.length = n ∧ (∀ x ∈ os, x.oneCell' = true) ∧ At w1 g o os ∧ Thaw w1 g o n ∧ g < w1.heap.size ∧ At w1 g 0 (vals pre)
theorem outRowG {w : World} {g o n k cap : Nat} {os : List Value} (h : At w g o os) (hl : os.length = n + k) (h1 : ∀ x ∈ os, x.oneCell' = true) (ht : Thaw w g o (n + k)) (hc : n ≤ cap) : OutV w (.slice (some ⟨g, o, none⟩) n cap) g o n := by
  rcases Nat.eq_zero_or_pos n with h0 | h0
  · subst h0; exact .inl ⟨rfl, .inr ⟨_, _, rfl, Nat.zero_le _, fun j x hx => nomatch hx⟩⟩
  · refine .inr ⟨h0, cap, os.take n, rfl, hc, by simp [hl], fun v hv => h1 v (List.mem_of_mem_take hv), fun j v hv => h j v ?_, fun j hj => ht j (by omega)⟩
    have hj := (List.getElem?_eq_some_iff.1 hv).1
    simp at hj
    rwa [List.getElem?_take_of_lt (by omega)] at hv
theorem at_drop {w : World} {g o n : Nat} {os : List Value} (h : At w g o os) : At w g (o + n) (os.drop n) := fun j v hv => by
  rw [List.getElem?_drop] at hv
  have := h (n + j) v hv
  rwa [← Nat.add_assoc] at this
/-- The bytes stand behind what was there. -/
def GSealP (w : World) (head : Value) (pre : List B8) (g o : Nat) (l : List B8) (e : Ending) (w' : World) : Prop :=
  e = .returned head ∧ Chg w w' [(g, o, l.length)] ∧ At w' g 0 (vals (pre ++ l)) ∧ Thaw w' g o l.length
set_option maxHeartbeats 1000000 in
theorem gseal {m : Nat} (hm : m ≤ 2) {key nonce text data : List B8} (hk : key.length = klen m) (hn : nonce.length = 16) (htl : text.length ≤ 1048576) (hdl : data.length ≤ 1048576) {w : World} {cb co ncap g o : Nat} {na : Option Addr} {tv dv dst head : Value} {pre : List B8} (ho : o = pre.length)
    (hsfa : ∀ x : Int, x = (text.length : Int) + 16 → Calls Tryd.prog 31 #[dst, .int .i64 x] w (SfaR w head pre g o (text.length + 16)))
    (hc : At w cb co (cVals m key)) (hs : SlV w (.slice na 16 ncap) (vals nonce)) (ht : SlV w tv (vals text)) (hd : SlV w dv (vals data))
    (hgc : cb ≠ g) (hgt : NotAt tv g) :
    Calls Tryd.prog 23 #[ptrTo cb co, dst, .slice na 16 ncap, tv, dv] w (GSealP w head pre g o (sealB m key nonce text data)) := by
  obtain ⟨ta, tcap, rfl⟩ := slV_shape ht
  have Hc := Lib.hid hc; clear hc
  have Hs := Lib.hid hs; clear hs
  have Ht := Lib.hid ht; clear ht
  have Hd := Lib.hid hd; clear hd
  have Hk := Lib.hid hk; clear hk
  have Hn := Lib.hid hn; clear hn
  have Hgt := Lib.hid hgt; clear hgt
  have HF := Lib.hid hsfa; clear hsfa
  go_enter Tryd.func23, Tryd.ntmps23
  go_wp2_with (fail)
  refine (HF.out _ (by simp)).mono ?_
  rintro e w1 ⟨cap, os, rfl, hcap, hb1, hol, hone, hat, hth, hg1, hpre⟩
  have HP := Lib.hid hpre; clear hpre
  have Ho := Lib.hid ho; clear ho
  have H1 := Lib.hid hb1; clear hb1
  have HOL := Lib.hid hol; clear hol
  have HON := Lib.hid hone; clear hone
  have HAT := Lib.hid hat; clear hat
  have HTH := Lib.hid hth; clear hth
  clear HF
  go_wp2_with (fail)
  go_quiet (fail)
  go_wp2_with (fail)
  have hz1 : w.heap.size ≤ w1.heap.size := H1.out.size
  have hb12 : Below w.heap.size w ((w1.drewN nq).alloc (.cells #[.int .u64 0, .int .u64 0, .int .u64 0, .int .u64 0, .int .u64 0] 47)) := H1.out.trans ((newSt w1 nq 47).1.mono hz1)
  have ha2 := (newSt w1 nq 47).2.1
  have ht2 := (newSt w1 nq 47).2.2
  have hcb : cb < w.heap.size := at_lt Hc.out (by simp [cVals])
  refine (init_calls hm Hk.out Hn.out (Hc.out.below hb12) (Hs.out.below hb12) ha2 ht2 (by omega) (notAt_new Hs.out hz1)).mono ?_
  have HB := Lib.hid hb12; clear hb12
  have HT := Lib.hid ht2; clear ht2
  clear ha2
  rintro e w3 ⟨rfl, hc3, ha3⟩
  have H3 := Lib.hid hc3; clear hc3
  have HA3 := Lib.hid ha3; clear ha3
  go_wp2_with (fail)
  have hb13 : Below w.heap.size w w3 := chg_below ((Chg.of_below HB.out).trans H3.out) (by simp; omega)
  refine (data_calls hm (by omega) rfl rfl rfl (Hc.out.below hb13) (Hd.out.below hb13) (notAt_new Hd.out hz1) HA3.out (H3.out.thaw (Nat.lt_of_lt_of_le (by simp) (Nat.le_refl _)) HT.out)).mono ?_
  have HB3 := Lib.hid hb13; clear hb13
  rintro e w4 ⟨rfl, hc4, ha4⟩
  have H4 := Lib.hid hc4; clear hc4
  have HA4 := Lib.hid ha4; clear ha4
  go_wp2_with (fail)
  have hch : Chg w w4 [(w1.heap.size, 0, 5)] := ((Chg.of_below HB.out).trans H3.out).trans H4.out
  have hb14 : Below w.heap.size w w4 := chg_below hch (by simp; omega)
  have hs1 : w1.heap.size < w4.heap.size := Nat.lt_of_lt_of_le (Nat.lt_of_lt_of_le (by simp) H3.out.size) H4.out.size
  have off : ∀ r ∈ [(w1.heap.size, 0, 5)], r.1 ≠ g := fun r hr => by rw [List.mem_singleton] at hr; subst hr; show w1.heap.size ≠ _; omega
  have hz4 : At w4 g o os := H4.out.at (H3.out.at (HAT.out.below (newSt w1 nq 47).1) fun r hr => .inl (off r hr)) fun r hr => .inl (off r hr)
  have ht4 : Thaw w4 g o (text.length + 16) := H4.out.thaw (by have := H3.out.size; simp at this; omega) (H3.out.thaw (by simp; omega) ((Chg.of_below (R := []) (newSt w1 nq 47).1).thaw hg1 HTH.out))
  have hts4 : Thaw w4 w1.heap.size 0 5 := H4.out.thaw (by have := H3.out.size; simp at this; omega) (H3.out.thaw (by simp) HT.out)
  have hout := outRowG (cap := cap) hz4 HOL.out HON.out ht4 (by omega)
  have htag := at_drop (n := text.length) hz4
  have hp4 : At w4 g 0 (vals pre) := H4.out.at (H3.out.at (HP.out.below (newSt w1 nq 47).1) fun r hr => .inl (off r hr)) fun r hr => .inl (off r hr)
  have HP4 := Lib.hid hp4; clear hp4
  refine (text_calls hm false (by omega) rfl rfl rfl (Hc.out.below hb14) ⟨Ht.out.below hb14, hout, notAt_new Ht.out hz1, Hgt.out, fun _ => by omega, HA4.out, hts4⟩).mono ?_
  have HB4 := Lib.hid hb14; clear hb14
  have HC4 := Lib.hid hch; clear hch
  have HG4 := Lib.hid htag; clear htag
  have HT4 := Lib.hid ht4; clear ht4
  have HS4 := Lib.hid hts4; clear hts4
  have HL4 := Lib.hid hs1; clear hs1
  clear hout hz4 off
  rintro e w5 ⟨rfl, hc5, ha5, ho5⟩
  have H5 := Lib.hid hc5; clear hc5
  have HA5 := Lib.hid ha5; clear ha5
  have HO5 := Lib.hid ho5; clear ho5
  go_wp2_with (fail)
  have hch : Chg w w5 [(w1.heap.size, 0, 5), (g, o, text.length)] := (chg_sub HC4.out fun r hr => by rw [List.mem_singleton] at hr; subst hr; exact List.mem_cons_self ..).trans H5.out
  have hc5 : At w5 cb co (cVals m key) := hch.at Hc.out fun r hr => by
    simp only [List.mem_cons, List.not_mem_nil, or_false] at hr
    rcases hr with rfl | rfl
    · exact .inl (by show w1.heap.size ≠ _; omega)
    · exact .inl (Ne.symm hgc)
  have hg4 : g < w4.heap.size := Nat.lt_trans hg1 HL4.out
  have htg : At w5 g (o + text.length) (os.drop text.length) := H5.out.at HG4.out fun r hr => by
    simp only [List.mem_cons, List.not_mem_nil, or_false] at hr
    rcases hr with rfl | rfl
    · exact .inl (by show w1.heap.size ≠ _; omega)
    · exact .inr (.inl (Nat.le_refl _))
  have htt : Thaw w5 g (o + text.length) 16 := fun j hj => by
    have := H5.out.thaw hg4 HT4.out (text.length + j) (by omega)
    rwa [← Nat.add_assoc] at this
  refine (fin_calls hm Hk.out hc5 htg (by rw [List.length_drop, HOL.out]; omega) (fun x hx => HON.out x (List.mem_of_mem_drop hx)) htt (by omega) HA5.out (H5.out.thaw HL4.out HS4.out) (by omega) (by omega) (by omega)).mono ?_
  have HC5 := Lib.hid hch; clear hch
  have HG5 := Lib.hid (Nat.lt_of_lt_of_le hg4 H5.out.size); clear hg4
  have HTT := Lib.hid (H5.out.thaw (Nat.lt_trans hg1 HL4.out) HT4.out)
  clear hc5 htg htt
  rintro e w6 ⟨rfl, hc6, ho6⟩
  have H6 := Lib.hid hc6; clear hc6
  have HO6 := Lib.hid ho6; clear ho6
  go_wp2_with (fail)
  go_ret
  have hcl : ∀ s : St, (crypt (mdOf m) false s text).1.length = text.length := fun s => crypt_length _ _ _ _
  refine ⟨rfl, ?_, ?_, ?_⟩
  · rw [sealB_length]
    refine ((chg_sub (R' := [(w1.heap.size, 0, 5), (g, o, text.length), (g, o + text.length, 16)]) HC5.out fun r hr => ?_).trans (chg_sub H6.out fun r hr => ?_)).mono fun r hr hlt => ?_
    · simp only [List.mem_cons, List.not_mem_nil, or_false] at hr ⊢
      rcases hr with rfl | rfl
      · exact .inl rfl
      · exact .inr (.inl rfl)
    · simp only [List.mem_cons, List.not_mem_nil, or_false] at hr ⊢
      rcases hr with rfl | rfl
      · exact .inl rfl
      · exact .inr (.inr rfl)
    · simp only [List.mem_cons, List.not_mem_nil, or_false] at hr
      rcases hr with rfl | rfl | rfl
      · exact absurd hlt (by show ¬ w1.heap.size < _; omega)
      · exact ⟨_, List.mem_cons_self .., rfl, Nat.le_refl _, by show o + text.length ≤ o + (text.length + 16); omega⟩
      · exact ⟨_, List.mem_cons_self .., rfl, by show o ≤ o + text.length; omega, by show o + text.length + 16 ≤ o + (text.length + 16); omega⟩
  · have hp6 : At w6 g 0 (vals pre) := H6.out.at (H5.out.at HP4.out fun r hr => ?_) fun r hr => ?_
    unfold sealB
    rw [vals_append, vals_append]
    refine At.append.2 ⟨hp6, ?_⟩
    rw [vals_length, Nat.zero_add, ← Ho.out]
    refine At.append.2 ⟨H6.out.at HO5.out fun r hr => ?_, ?_⟩
    · simp only [List.mem_cons, List.not_mem_nil, or_false] at hr
      rcases hr with rfl | rfl
      · exact .inl (by show w1.heap.size ≠ _; omega)
      · exact .inr (.inr (by show o + (vals _).length ≤ o + text.length; rw [vals_length, hcl]; exact Nat.le_refl _))
    · rw [vals_length, hcl]
      exact HO6.out
    · simp only [List.mem_cons, List.not_mem_nil, or_false] at hr
      rcases hr with rfl | rfl
      · exact .inl (by show w1.heap.size ≠ _; omega)
      · exact .inr (.inr (by show 0 + (vals _).length ≤ o; rw [vals_length, Ho.out]; omega))
    · simp only [List.mem_cons, List.not_mem_nil, or_false] at hr
      rcases hr with rfl | rfl
      · exact .inl (by show w1.heap.size ≠ _; omega)
      · exact .inr (.inr (by show 0 + (vals _).length ≤ o + text.length; rw [vals_length, Ho.out]; omega))
  · rw [sealB_length]
    exact H6.out.thaw HG5.out HTT.out
end Go.Proofs.YtfilandehjmikaaDoor.Asc
