/- The law FnSealPrefix. No condition. -/
import Derived.Test.YtfilandehjmikaaDoorAscH
import Derived.Test.YtfilandehjmikaaDoorSame
import Derived.Test.YtfilandehjmikaaDoorRow
namespace Go.Proofs.YtfilandehjmikaaDoor
open Go.RowKit Go.Proofs.YtfilandehjmikaaDoor.Sx Go.Proofs.YtfilandehjmikaaDoor.Asc

def Tru (w : World) (e : Ending) (w' : World) : Prop := e = .returned (.bool true) ∧ Below w.heap.size w w'
section
variable {w : World} {mode : Int} {ka na ta ma da : Option Addr} {kl kc nl nc tl tc ml mc dl dc : Nat}
set_option maxHeartbeats 1000000 in
theorem prefix_big (h : ¬(kl ≤ 2147483647 ∧ nl ≤ 2147483647 ∧ tl ≤ 2147483647 ∧ ml ≤ 2147483647 ∧ dl ≤ 2147483647)) :
    Calls Tryd.prog 5 #[.int .i64 mode, .slice ka kl kc, .slice na nl nc, .slice ta tl tc, .slice ma ml mc, .slice da dl dc] w (Tru w) := by
  by_cases h1 : 2147483647 < kl
  · go_enter Tryd.func5, Tryd.ntmps5
    go_wp2_with (fail)
    go_ret
    exact ⟨rfl, Below.refl _ _⟩
  by_cases h2 : 2147483647 < nl
  · clear h
    go_enter Tryd.func5, Tryd.ntmps5
    go_wp2_with (fail)
    go_ret
    exact ⟨rfl, Below.refl _ _⟩
  by_cases h3 : 2147483647 < tl
  · clear h
    go_enter Tryd.func5, Tryd.ntmps5
    go_wp2_with (fail)
    go_ret
    exact ⟨rfl, Below.refl _ _⟩
  by_cases h4 : 2147483647 < ml
  · clear h
    go_enter Tryd.func5, Tryd.ntmps5
    go_wp2_with (fail)
    go_ret
    exact ⟨rfl, Below.refl _ _⟩
  by_cases h5 : 2147483647 < dl
  · clear h
    go_enter Tryd.func5, Tryd.ntmps5
    go_wp2_with (fail)
    go_ret
    exact ⟨rfl, Below.refl _ _⟩
  exact absurd ⟨by omega, by omega, by omega, by omega, by omega⟩ h
theorem right_no (h : rightB mode kl nl = false) : Calls Tryd.prog 13 #[.int .i64 mode, .slice ka kl kc, .slice na nl nc] w fun e w' => e = .returned (.bool false) ∧ Below w.heap.size w w' :=
  right_calls.mono fun e w' ⟨he, hb⟩ => ⟨by rw [he, h], hb⟩
theorem right_yes (h : rightB mode kl nl = true) : Calls Tryd.prog 13 #[.int .i64 mode, .slice ka kl kc, .slice na nl nc] w fun e w' => e = .returned (.bool true) ∧ Below w.heap.size w w' :=
  right_calls.mono fun e w' ⟨he, hb⟩ => ⟨by rw [he, h], hb⟩
set_option maxHeartbeats 1000000 in
theorem prefix_wrong (h1 : kl ≤ 2147483647) (h2 : nl ≤ 2147483647) (h3 : tl ≤ 2147483647) (h4 : ml ≤ 2147483647) (h5 : dl ≤ 2147483647) (hr : rightB mode kl nl = false) :
    Calls Tryd.prog 5 #[.int .i64 mode, .slice ka kl kc, .slice na nl nc, .slice ta tl tc, .slice ma ml mc, .slice da dl dc] w (Tru w) := by
  have Hr := Lib.hid hr; clear hr
  go_enter Tryd.func5, Tryd.ntmps5
  go_wp2_with (fail)
  refine (right_no Hr.out).mono ?_
  rintro e w1 ⟨rfl, hb⟩
  have HB := Lib.hid hb; clear hb
  go_wp2_with (fail)
  go_ret
  exact ⟨rfl, HB.out⟩
/-- Slices that were put into a row of a call's own: whether they are few. -/
theorem few3_calls {W : World} {t : TypeId} {b : Bool} (h3 : tl ≤ 2147483647) (h4 : ml ≤ 2147483647) (h5 : dl ≤ 2147483647) (hb : decide (tl + ml + dl ≤ 4096) = b) :
    Calls Tryd.prog 14 #[.slice (some ⟨W.heap.size, 0, none⟩) 3 3] (W.alloc (.cells #[.slice ta tl tc, .slice ma ml mc, .slice da dl dc] t)) fun e w' => e = .returned (.bool b) ∧ Below W.heap.size W w' := by
  refine (few_calls (vs := [.slice ta tl tc, .slice ma ml mc, .slice da dl dc]) rfl (Nat.le_refl 3) (by show 0 < 3; decide) (fun v hv => ?_) (fun n hn => ?_) (fun j v hv => ?_)).mono fun e w' ⟨he, hb'⟩ => ⟨?_, ?_⟩
  · simp only [List.mem_cons, List.not_mem_nil, or_false] at hv
    rcases hv with rfl | rfl | rfl <;> exact ⟨_, _, _, rfl⟩
  · simp only [lens, List.map, List.mem_cons, List.not_mem_nil, or_false] at hn
    rcases hn with rfl | rfl | rfl <;> assumption
  · rw [Nat.zero_add, World.cell?_alloc_new]
    simpa using hv
  · rw [he, ← hb]
    simp [lens, Nat.add_assoc]
  · exact ((Below.refl _ _).alloc (Nat.le_refl _) _).trans (hb'.mono (by simp))
set_option maxHeartbeats 1000000 in
theorem prefix_many (h1 : kl ≤ 2147483647) (h2 : nl ≤ 2147483647) (h3 : tl ≤ 2147483647) (h4 : ml ≤ 2147483647) (h5 : dl ≤ 2147483647) (hr : rightB mode kl nl = true) (hf : decide (tl + ml + dl ≤ 4096) = false) :
    Calls Tryd.prog 5 #[.int .i64 mode, .slice ka kl kc, .slice na nl nc, .slice ta tl tc, .slice ma ml mc, .slice da dl dc] w (Tru w) := by
  have Hr := Lib.hid hr; clear hr
  have Hf := Lib.hid hf; clear hf
  go_enter Tryd.func5, Tryd.ntmps5
  go_wp2_with (fail)
  refine (right_yes Hr.out).mono ?_
  rintro e w1 ⟨rfl, hb⟩
  have HB := Lib.hid hb; clear hb
  go_wp2_with (fail)
  refine (few3_calls h3 h4 h5 Hf.out).mono ?_
  rintro e w2 ⟨rfl, hb2⟩
  have HB2 := Lib.hid (HB.out.trans (hb2.mono HB.out.size)); clear hb2
  go_wp2_with (fail)
  go_ret
  exact ⟨rfl, HB2.out⟩
theorem iseal_n {m n : Nat} (hm : m ≤ 2) {key nonce text data : List B8} (hk : key.length = klen m) (hn : nonce.length = 16) (htn : text.length = n) (htl : n ≤ 1048576) (hdl : data.length ≤ 1048576) {w : World} {kv nv tv dv : Value}
    (hkv : SlV w kv (vals key)) (hs : SlV w nv (vals nonce)) (ht : SlV w tv (vals text)) (hd : SlV w dv (vals data)) :
    Calls Tryd.prog 15 #[.int .i64 (m : Int), .slice none 0 0, kv, nv, tv, dv] w (ISealP w n (sealB m key nonce text data)) := by
  subst htn
  exact iseal_calls hm hk hn htl hdl hkv hs ht hd
def ints (l : List B8) : List Int := l.map fun b => (b.toNat : Int)
theorem vals_ints (l : List B8) : vals l = (ints l).map (Value.int .u8) := by simp [vals, ints, bval]
theorem ints_wf (l : List B8) : ∀ n ∈ ints l, (Lit.int .u8 n).wf = true := fun n hn => by
  obtain ⟨b, _, rfl⟩ := List.mem_map.1 hn
  have := b.isLt
  simp [Lit.wf, IntKind.min, IntKind.max, IntKind.signed, IntKind.bits]
  omega
theorem ints_inj {a b : List B8} (h : ints a = ints b) : a = b := by
  unfold ints at h
  induction a generalizing b with
  | nil => cases b with
    | nil => rfl
    | cons => simp at h
  | cons x a ih => cases b with
    | nil => simp at h
    | cons y b =>
      simp only [List.map_cons, List.cons.injEq] at h
      rw [ih h.2]
      congr 1
      exact BitVec.eq_of_toNat_eq (by omega)
theorem same8_calls {w : World} {v u : Value} {a b : List B8} (h1 : SlV w v (vals a)) (h2 : SlV w u (vals b)) : Calls Tryd.prog 16 #[v, u] w fun e w' => e = .returned (.bool (decide (a = b))) ∧ w = w' := by
  rw [vals_ints] at h1 h2
  refine (same_calls h1 h2 (ints_wf a) (ints_wf b)).mono fun e w' ⟨he, hw⟩ => ⟨?_, hw⟩
  rw [he]
  congr 2
  by_cases h : a = b
  · subst h; simp
  · have : ¬ ints a = ints b := fun e => h (ints_inj e)
    simp [h, this]
/-- The beginnings of two slices, the same. -/
theorem same_pre {w : World} {g g' n c c' : Nat} {a b : List B8} (h1 : At w g 0 (vals a)) (h2 : At w g' 0 (vals b)) (hc : n ≤ c) (hc' : n ≤ c') (hl : n ≤ a.length) (hl' : n ≤ b.length) (h : a.take n = b.take n) :
    Calls Tryd.prog 16 #[.slice (some ⟨g, 0, none⟩) n c, .slice (some ⟨g', 0, none⟩) n c'] w fun e w' => e = .returned (.bool true) ∧ w' = w := by
  have at1 : ∀ {g : Nat} {a : List B8}, At w g 0 (vals a) → At w g 0 (vals (a.take n)) := fun {g a} h => by
    have := h
    rw [tx_split (l := a) (n := n)] at this
    exact (At.append.1 this).1
  have e1 : (vals (a.take n)).length = n := by rw [vals_length, List.length_take]; omega
  have e2 : (vals (b.take n)).length = n := by rw [vals_length, List.length_take]; omega
  have s1 := SlV.mk (cap := c) (at1 h1) (by rw [e1]; exact hc)
  have s2 := SlV.mk (cap := c') (at1 h2) (by rw [e2]; exact hc')
  rw [e1] at s1
  rw [e2] at s2
  refine (same8_calls s1 s2).mono fun e w' ⟨he, hw⟩ => ⟨?_, hw.symm⟩
  rw [he, h]; simp
theorem seal_prefix {m n : Nat} {key nonce text more data : List B8} (h : text.length = n) : (sealB m key nonce text data).take n = (sealB m key nonce ([] ++ text ++ more) data).take n := by
  subst h
  unfold sealB
  have hl : ∀ (t : List B8) (s : St), (crypt (mdOf m) false s t).1.length = t.length := fun t s => crypt_length _ _ _ _
  rw [List.take_left' (hl _ _), List.take_append_of_le_length (by rw [hl]; simp), List.nil_append, crypt_prefix]
set_option maxHeartbeats 1000000 in
theorem prefix_main {m : Nat} {key nonce text more data : List B8} (hm : m ≤ 2) (hk : key.length = klen m) (hn : nonce.length = 16) (hkl : key.length = kl) (hnl : nonce.length = nl) (htl : text.length = tl) (hml : more.length = ml) (hdl : data.length = dl) (hsum : tl + ml + dl ≤ 4096)
    (hks : SlV w (.slice ka kl kc) (vals key)) (hns : SlV w (.slice na nl nc) (vals nonce)) (hts : SlV w (.slice ta tl tc) (vals text)) (hms : SlV w (.slice ma ml mc) (vals more)) (hds : SlV w (.slice da dl dc) (vals data)) :
    Calls Tryd.prog 5 #[.int .i64 (m : Int), .slice ka kl kc, .slice na nl nc, .slice ta tl tc, .slice ma ml mc, .slice da dl dc] w (Tru w) := by
  have h20 := klen_le m
  have h1 : kl ≤ 2147483647 := by omega
  have h2 : nl ≤ 2147483647 := by omega
  have h3 : tl ≤ 2147483647 := by omega
  have h4 : ml ≤ 2147483647 := by omega
  have h5 : dl ≤ 2147483647 := by omega
  have Hr : Hid (rightB (m : Int) kl nl = true) := Lib.hid (decide_eq_true ⟨by omega, by omega, by rw [Int.toNat_natCast, ← hkl]; exact hk, by rw [← hnl]; exact hn⟩)
  have Hf : Hid (decide (tl + ml + dl ≤ 4096) = true) := Lib.hid (decide_eq_true hsum)
  have Hk := Lib.hid hk; clear hk
  have Hn := Lib.hid hn; clear hn
  have Htl := Lib.hid htl; clear htl
  have Hml := Lib.hid hml; clear hml
  have Hdl := Lib.hid hdl; clear hdl
  clear hkl hnl
  have Hks := Lib.hid hks; clear hks
  have Hns := Lib.hid hns; clear hns
  have Hts := Lib.hid hts; clear hts
  have Hms := Lib.hid hms; clear hms
  have Hds := Lib.hid hds; clear hds
  go_enter Tryd.func5, Tryd.ntmps5
  go_wp2_with (fail)
  refine (right_yes Hr.out).mono ?_
  rintro e w1 ⟨rfl, hb⟩
  have HB := Lib.hid hb; clear hb
  go_wp2_with (fail)
  refine (few3_calls h3 h4 h5 Hf.out).mono ?_
  rintro e w2 ⟨rfl, hb2⟩
  have HB2 := Lib.hid (HB.out.trans (hb2.mono HB.out.size)); clear hb2
  go_wp2_with (fail)
  refine (iseal_n hm Hk.out Hn.out Htl.out (by omega) (by rw [Hdl.out]; omega) (Hks.out.below HB2.out) (Hns.out.below HB2.out) (Hts.out.below HB2.out) (Hds.out.below HB2.out)).mono ?_
  rintro e w3 ⟨g, rfl, hb3, ho3⟩
  have HB3 := Lib.hid (HB2.out.trans (hb3.mono HB2.out.size)); clear hb3
  have HO3 := Lib.hid ho3; clear ho3
  go_wp2_with (at_builtin; (with_reducible refine wpList_app (w0 := w3) rfl _ _ rfl w3.heap.size _ _ [] text rfl rfl ?_ ?_ ?_ ?_ ?_ ?_))
  · exact OwnB.new (Nat.le_refl _)
  · exact (Hts.out.below HB3.out).below ((Below.refl _ _).alloc (Nat.le_refl _) _)
  · rw [Htl.out]; simp; omega
  · simp
  · exact (Below.refl _ _).alloc (Nat.le_refl _) _
  intro v4 w4 HO4 HB4 HZ4
  go_wp2_with (at_builtin; (with_reducible refine wpList_app (w0 := w3) rfl _ _ rfl w3.heap.size _ _ ([] ++ text) more rfl rfl ?_ ?_ ?_ ?_ ?_ ?_))
  · exact HO4.out
  · exact (Hms.out.below HB3.out).below HB4.out
  · rw [List.nil_append, Htl.out, Hml.out]; omega
  · exact HB4.out.size
  · exact HB4.out
  intro v5 w5 HO5 HB5 HZ5
  go_wp2_with (fail)
  refine (iseal_n (n := tl + ml) (text := [] ++ text ++ more) hm Hk.out Hn.out (by rw [List.nil_append, List.length_append, Htl.out, Hml.out]) (by omega) (by rw [Hdl.out]; omega) ((Hks.out.below HB3.out).below HB5.out) ((Hns.out.below HB3.out).below HB5.out) HO5.out.sl ((Hds.out.below HB3.out).below HB5.out)).mono ?_
  rintro e w6 ⟨g', rfl, hb6, ho6⟩
  have HB6 := Lib.hid (HB5.out.trans (hb6.mono HB5.out.size))
  have HO6 := Lib.hid ho6; clear ho6
  clear hb6
  have HX : Hid (At w6 g 0 (vals (sealB m key nonce text data))) := HO3.out.below HB6.out
  go_wp2_with (fail)
  have hw1 : IntKind.i64.wrap ((tl : Int) + 16) = (tl : Int) + 16 := by rw [IntKind.wrap_i64]; omega
  have hw2 : IntKind.i64.wrap ((tl : Int) + 16 + ml) = (tl : Int) + 16 + ml := by rw [IntKind.wrap_i64]; omega
  have hw3 : ((tl : Int) + ml + 16 == (tl : Int) + 16 + ml) = true := by rw [beq_iff_eq]; omega
  go_quiet ((go_at_call 16; exact Calls.quiet_of_same (same_pre HX.out HO6.out (by omega) (by omega) (by rw [sealB_length, Htl.out]; omega) (by rw [sealB_length, List.nil_append, List.length_append, Htl.out, Hml.out]; omega) (seal_prefix Htl.out))))
  clear hw1 hw2 hw3
  go_wp2_with (fail)
  go_ret
  have hb := HB3.out.trans (HB6.out.mono HB3.out.size)
  exact ⟨rfl, hb.os, hb.tape, hb.output, hb.size, hb.block⟩
theorem b8_of {bs : List Int} (h : ∀ n ∈ bs, (Lit.int .u8 n).wf = true) : ∃ l : List B8, bs.map (Value.int .u8) = vals l := by
  refine ⟨bs.map fun n => BitVec.ofNat 8 n.toNat, ?_⟩
  simp only [vals, List.map_map]
  refine List.map_congr_left fun n hn => ?_
  have := h n hn
  simp [Lit.wf, IntKind.min, IntKind.max, IntKind.signed, IntKind.bits] at this
  simp only [Function.comp, bval]
  congr 1
  rw [BitVec.toNat_ofNat]
  omega
/-- The law's call, whatever came in. -/
theorem prefix_calls {kv nv tv mv dv : Value} {key nonce text more data : List B8} (hks : SlV w kv (vals key)) (hns : SlV w nv (vals nonce)) (hts : SlV w tv (vals text)) (hms : SlV w mv (vals more)) (hds : SlV w dv (vals data)) :
    Calls Tryd.prog 5 #[.int .i64 mode, kv, nv, tv, mv, dv] w (Tru w) := by
  obtain ⟨ka, kc, rfl⟩ := slV_shape hks
  obtain ⟨na, nc, rfl⟩ := slV_shape hns
  obtain ⟨ta, tc, rfl⟩ := slV_shape hts
  obtain ⟨ma, mc, rfl⟩ := slV_shape hms
  obtain ⟨da, dc, rfl⟩ := slV_shape hds
  by_cases hbig : key.length ≤ 2147483647 ∧ nonce.length ≤ 2147483647 ∧ text.length ≤ 2147483647 ∧ more.length ≤ 2147483647 ∧ data.length ≤ 2147483647
  · obtain ⟨h1, h2, h3, h4, h5⟩ := hbig
    cases hr : rightB mode key.length nonce.length with
    | false => exact prefix_wrong h1 h2 h3 h4 h5 hr
    | true =>
      cases hf : decide (text.length + more.length + data.length ≤ 4096) with
      | false => exact prefix_many h1 h2 h3 h4 h5 hr hf
      | true =>
        have hr' := of_decide_eq_true hr
        obtain ⟨m, rfl⟩ : ∃ m : Nat, mode = (m : Int) := ⟨mode.toNat, by omega⟩
        rw [Int.toNat_natCast] at hr'
        exact prefix_main (by omega) hr'.2.2.1 hr'.2.2.2 rfl rfl rfl rfl rfl (of_decide_eq_true hf) hks hns hts hms hds
  · exact prefix_big hbig
end
end Go.Proofs.YtfilandehjmikaaDoor
