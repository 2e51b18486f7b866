/- The thin package's Seal behind nothing, as a contract. No condition. -/
import Derived.Test.YtfilandehjmikaaDoorAscE
namespace Go.Proofs.YtfilandehjmikaaDoor.Asc
open Go.RowKit Go.Proofs.YtfilandehjmikaaDoor.Sx

def sealB (m : Nat) (key nonce text data : List B8) : List B8 :=
  (crypt (mdOf m) false (dataSt (mdOf m) (beginS m key nonce) data) text).1 ++ tagS m key (crypt (mdOf m) false (dataSt (mdOf m) (beginS m key nonce) data) text).2
theorem sealB_length (m : Nat) (key nonce text data : List B8) : (sealB m key nonce text data).length = text.length + 16 := by
  unfold sealB
  rw [List.length_append, crypt_length, tagS_length]
theorem slV_shape {w : World} {v : Value} {l : List B8} (h : SlV w v (vals l)) : ∃ a cap, v = .slice a l.length cap := by
  rcases h with ⟨h, h'⟩ | ⟨a, cap, h, _⟩
  · exact ⟨none, 0, by rw [h]; have := congrArg List.length h'; rw [vals_length] at this; rw [this]; rfl⟩
  · exact ⟨some a, cap, by rw [h, vals_length]⟩
theorem cloV_sl {w0 w : World} {v : Value} {l : List B8} (h : CloV w0 w v l) : SlV w v (vals l) := by
  rcases h with ⟨rfl, rfl⟩ | ⟨g, cap, h⟩
  · exact .inl ⟨rfl, rfl⟩
  · exact h.sl
theorem clone_nil {w : World} : Calls Tryd.prog 24 #[.slice none 0 0] w fun e w' => e = .returned (.slice none 0 0) ∧ Below w.heap.size w w' := by
  have hE0 : EnvOk (envA ⟨0, 0, 0, 0, 0⟩ [] (rowsN 0 0 0) (vl1 (.slice none 0 0) (.slice none 0 0))) := envA_ok (vl1_one rfl rfl) (rowsN_le (by decide)) rowsN_one
  have hG : CfgOk Tryd.prog (envA ⟨0, 0, 0, 0, 0⟩ [] (rowsN 0 0 0) (vl1 (.slice none 0 0) (.slice none 0 0))) w {} := cfgOk0 (r := []) hE0 fun p hp => nomatch hp
  refine (fn_calls (bl := fun _ => (0, 0)) hG noK_ok mix clo_nil (MRel.nil _ _ w) gok0 rfl).mono fun e w' ⟨bl', vs, he, hr, _, hm'⟩ => ?_
  obtain ⟨v', h1, h2⟩ := rsOne hr
  exact ⟨by rw [he, h1, h2]; rfl, chgNil hm'⟩
/-- A copy: of the same bytes, in whatever memory. -/
theorem clone_sl {l : List B8} (hl : l.length ≤ 1048576) {w : World} {v : Value} (hs : SlV w v (vals l)) :
    Calls Tryd.prog 24 #[v] w fun e w' => ∃ a cap, e = .returned (.slice a l.length cap) ∧ Below w.heap.size w w' ∧ SlV w' (.slice a l.length cap) (vals l) := by
  refine (clone_calls (by omega) hs).mono fun e w' ⟨v', he, hb, hc⟩ => ?_
  have h := cloV_sl hc
  obtain ⟨a, cap, h'⟩ := slV_shape h
  subst h'
  exact ⟨a, cap, he, hb, h⟩
theorem clone_n {l : List B8} {n : Nat} (hn : l.length = n) (hl : n ≤ 1048576) {w : World} {v : Value} (hs : SlV w v (vals l)) :
    Calls Tryd.prog 24 #[v] w fun e w' => ∃ a cap, e = .returned (.slice a n cap) ∧ Below w.heap.size w w' ∧ SlV w' (.slice a n cap) (vals l) := by
  subst hn
  exact clone_sl hl hs
def ISealP (w : World) (n : Nat) (l : List B8) (e : Ending) (w' : World) : Prop :=
  ∃ g, e = .returned (.tuple #[.slice (some ⟨g, 0, none⟩) (n + 16) (n + 16), .bool true]) ∧ Below w.heap.size w w' ∧ At w' g 0 (vals l)
set_option maxHeartbeats 1000000 in
theorem iseal_calls {m : Nat} (hm : m ≤ 2) {key nonce text data : List B8} (hk : key.length = klen m) (hn : nonce.length = 16) (htl : text.length ≤ 1048576) (hdl : data.length ≤ 1048576) {w : World} {kv nv tv dv : Value}
    (hkv : SlV w kv (vals key)) (hs : SlV w nv (vals nonce)) (ht : SlV w tv (vals text)) (hd : SlV w dv (vals data)) :
    Calls Tryd.prog 15 #[.int .i64 (m : Int), .slice none 0 0, kv, nv, tv, dv] w (ISealP w text.length (sealB m key nonce text data)) := by
  obtain ⟨na, ncap, hnv⟩ := slV_shape hs
  rw [hn] at hnv
  subst hnv
  have h20 := klen_le m
  have Hs := Lib.hid hs; clear hs
  have Ht := Lib.hid ht; clear ht
  have Hd := Lib.hid hd; clear hd
  have Hkv := Lib.hid hkv; clear hkv
  have Hk := Lib.hid hk; clear hk
  have Hn := Lib.hid hn; clear hn
  go_enter Tryd.func15, Tryd.ntmps15
  go_wp2_with (fail)
  refine (cipher_calls hm Hk.out Hkv.out).mono ?_
  rintro e w1 ⟨cb, co, rfl, hb1, hcb, hc1⟩
  have HB1 := Lib.hid hb1; clear hb1
  have HC1 := Lib.hid hc1; clear hc1
  have Hcb := Lib.hid hcb; clear hcb
  go_wp2_with (fail)
  refine clone_nil.mono ?_
  rintro e w2 ⟨rfl, hb2⟩
  have HB2 := Lib.hid (HB1.out.trans (hb2.mono HB1.out.size))
  have HC2 := Lib.hid (HC1.out.below hb2); clear hb2
  go_wp2_with (fail)
  refine (clone_n Hn.out (by decide) (Hs.out.below HB2.out)).mono ?_
  rintro e w3 ⟨na', ncap', rfl, hb3, hs3⟩
  have HB3 := Lib.hid (HB2.out.trans (hb3.mono HB2.out.size))
  have HC3 := Lib.hid (HC2.out.below hb3); clear hb3
  have HS3 := Lib.hid hs3; clear hs3
  go_wp2_with (fail)
  refine (clone_sl htl (Ht.out.below HB3.out)).mono ?_
  rintro e w4 ⟨ta', tcap', rfl, hb4, ht4⟩
  have HB4 := Lib.hid (HB3.out.trans (hb4.mono HB3.out.size))
  have HC4 := Lib.hid (HC3.out.below hb4)
  have HS4 := Lib.hid (HS3.out.below hb4); clear hb4
  have HT4 := Lib.hid ht4; clear ht4
  go_wp2_with (fail)
  refine (clone_sl hdl (Hd.out.below HB4.out)).mono ?_
  rintro e w5 ⟨da', dcap', rfl, hb5, hd5⟩
  have HB5 := Lib.hid (HB4.out.trans (hb5.mono HB4.out.size))
  have HC5 := Lib.hid (HC4.out.below hb5)
  have HS5 := Lib.hid (HS4.out.below hb5)
  have HT5 := Lib.hid (HT4.out.below hb5); clear hb5
  have HD5 := Lib.hid hd5; clear hd5
  go_wp2_with (fail)
  refine (seal_calls hm Hk.out Hn.out htl hdl HC5.out HS5.out HT5.out HD5.out).mono ?_
  rintro e w6 ⟨g, rfl, hb6, _, ho⟩
  have HB6 := Lib.hid (HB5.out.trans (hb6.mono HB5.out.size)); clear hb6
  have HO := Lib.hid ho; clear ho
  go_wp2_with (fail)
  go_ret2
  exact ⟨g, rfl, HB6.out, HO.out⟩
end Go.Proofs.YtfilandehjmikaaDoor.Asc
