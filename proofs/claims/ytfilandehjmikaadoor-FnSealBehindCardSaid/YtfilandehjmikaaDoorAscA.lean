/- impl.Open as a contract. No condition. -/
import Derived.Test.YtfilandehjmikaaDoorAscS
namespace Go.Proofs.YtfilandehjmikaaDoor.Asc
open Go.RowKit Go.Proofs.YtfilandehjmikaaDoor.Sx

def IOpen (w : World) (m : Nat) (key nonce c t data : List B8) (e : Ending) (w' : World) : Prop :=
  match openCT m key nonce c t data with
  | some p => ∃ v, e = .returned (.tuple #[v, .bool true]) ∧ Below w.heap.size w w' ∧ SlV w' v (vals p)
  | none => e = .returned (.tuple #[.slice none 0 0, .bool false]) ∧ Below w.heap.size w w'
set_option maxHeartbeats 1000000 in
theorem iopen_calls {m : Nat} (hm : m ≤ 2) {key nonce data c t : List B8} (hk : key.length = klen m) (hn : nonce.length = 16) (h16 : t.length = 16) (hnl : c.length + 16 ≤ 1048576) (hdl : data.length ≤ 1048576) {w : World} {kv nv sv dv : Value} {ea : Addr} (h1 : w.cell? ⟨1, 0, none⟩ = some (.iface 91 (.pointer (some ea))))
    (hkv : SlV w kv (vals key)) (hs : SlV w nv (vals nonce)) (ht : SlV w sv (vals (c ++ t))) (hd : SlV w dv (vals data)) :
    Calls Tryd.prog 18 #[.int .i64 (m : Int), .slice none 0 0, kv, nv, sv, dv] w (IOpen w m key nonce c t data) := by
  obtain ⟨na, ncap, hnv⟩ := slV_shape hs
  rw [hn] at hnv
  subst hnv
  have h20 := klen_le m
  obtain ⟨n, hln⟩ : ∃ n, (c ++ t).length = n := ⟨_, rfl⟩
  have hnm : n ≤ 1048576 := by rw [← hln, List.length_append, h16]; exact hnl
  have HLN := Lib.hid hln; clear hln
  have Hs := Lib.hid hs; clear hs
  have Ht := Lib.hid ht; clear ht
  have Hd := Lib.hid hd; clear hd
  have Hkv := Lib.hid hkv; clear hkv
  have Hk := Lib.hid hk; clear hk
  have Hn := Lib.hid hn; clear hn
  have H16 := Lib.hid h16; clear h16
  have H1 := Lib.hid h1; clear h1
  go_enter Tryd.func18, Tryd.ntmps18
  go_wp2_with (fail)
  refine (cipher_calls hm Hk.out Hkv.out).mono ?_
  rintro e w1 ⟨cb, co, rfl, hb1, hcb, hc1⟩
  have HB1 := Lib.hid hb1; have HC1 := Lib.hid hc1; clear hb1 hc1 hcb
  go_wp2_with (fail)
  refine clone_nil.mono ?_
  rintro e w2 ⟨rfl, hb2⟩
  have B2 := Lib.hid hb2
  have HB2 := Lib.hid (HB1.out.trans (hb2.mono HB1.out.size)); clear hb2
  go_wp2_with (fail)
  refine (clone_n Hn.out (by decide) (Hs.out.below HB2.out)).mono ?_
  rintro e w3 ⟨na', ncap', rfl, hb3, hs3⟩
  have B3 := Lib.hid hb3; have S3 := Lib.hid hs3; clear hs3
  have HB3 := Lib.hid (HB2.out.trans (hb3.mono HB2.out.size)); clear hb3
  go_wp2_with (fail)
  refine (clone_n HLN.out hnm (Ht.out.below HB3.out)).mono ?_
  rintro e w4 ⟨ta', tcap', rfl, hb4, hs4⟩
  have B4 := Lib.hid hb4; have S4 := Lib.hid hs4; clear hs4
  have HB4 := Lib.hid (HB3.out.trans (hb4.mono HB3.out.size)); clear hb4
  go_wp2_with (fail)
  refine (clone_sl hdl (Hd.out.below HB4.out)).mono ?_
  rintro e w5 ⟨da', dcap', rfl, hb5, hs5⟩
  have B5 := Lib.hid hb5; have S5 := Lib.hid hs5; clear hs5
  have HB5 := Lib.hid (HB4.out.trans (hb5.mono HB4.out.size)); clear hb5
  go_wp2_with (fail)
  refine (open_calls (ea := ea) hm Hk.out Hn.out H16.out (by omega) hdl ((HB5.out.cell (p := ⟨1, 0, none⟩) (cell_lt H1.out)).trans H1.out) ((((HC1.out.below B2.out).below B3.out).below B4.out).below B5.out) ((S3.out.below B4.out).below B5.out) (S4.out.below B5.out) S5.out).mono ?_
  rintro e w6 h6
  unfold OpenA at h6
  cases ho : openCT m key nonce c t data with
  | some p =>
    rw [ho] at h6
    obtain ⟨v, rfl, hb6, hv⟩ := h6
    have HB6 := Lib.hid (HB5.out.trans (hb6.mono HB5.out.size)); clear hb6
    have HV := Lib.hid hv; clear hv
    have HO := Lib.hid ho; clear ho
    go_wp2_with (fail)
    go_ret2
    unfold IOpen
    rw [HO.out]
    exact ⟨v, rfl, HB6.out, HV.out⟩
  | none =>
    rw [ho] at h6
    obtain ⟨x, ⟨a, rfl⟩, rfl, hb6⟩ := h6
    have HB6 := Lib.hid (HB5.out.trans (hb6.mono HB5.out.size)); clear hb6
    have HO := Lib.hid ho; clear ho
    go_wp2_with (fail)
    go_ret2
    unfold IOpen
    rw [HO.out]
    exact ⟨rfl, HB6.out⟩
end Go.Proofs.YtfilandehjmikaaDoor.Asc
