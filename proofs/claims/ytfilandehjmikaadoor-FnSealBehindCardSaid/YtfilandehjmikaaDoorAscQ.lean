/- The code's Open behind nothing, as a contract: an empty text. No condition. -/
import Derived.Test.YtfilandehjmikaaDoorAscO
namespace Go.Proofs.YtfilandehjmikaaDoor.Asc
open Go.RowKit Go.Proofs.YtfilandehjmikaaDoor.Sx

def OpenZ (w : World) (m : Nat) (key nonce t data : List B8) (e : Ending) (w' : World) : Prop :=
  (t = tagS m key (crypt (mdOf m) true (dataSt (mdOf m) (beginS m key nonce) data) []).2 → e = .returned (.tuple #[.slice none 0 0, .nilIface]) ∧ Below w.heap.size w w') ∧
  (t ≠ tagS m key (crypt (mdOf m) true (dataSt (mdOf m) (beginS m key nonce) data) []).2 → OShort w e w')
set_option maxHeartbeats 1000000 in
theorem open_zero {m : Nat} (hm : m ≤ 2) {key nonce data t : List B8} (hk : key.length = klen m) (hn : nonce.length = 16) (h16 : t.length = 16) (hdl : data.length ≤ 1048576) {w : World} {cb co ncap sb so scap : Nat} {na : Option Addr} {dv : Value} {ea : Addr} (he1 : w.cell? ⟨1, 0, none⟩ = some (.iface 91 (.pointer (some ea))))
    (hc : At w cb co (cVals m key)) (hs : SlV w (.slice na 16 ncap) (vals nonce)) (ht : At w sb so (vals t)) (hcap : 16 ≤ scap) (hd : SlV w dv (vals data)) :
    Calls Tryd.prog 29 #[ptrTo cb co, .slice none 0 0, .slice na 16 ncap, .slice (some ⟨sb, so, none⟩) 16 scap, dv] w (OpenZ w m key nonce t data) := by
  have He1 := Lib.hid he1; clear he1
  have Hk := Lib.hid hk; clear hk
  have Hn := Lib.hid hn; clear hn
  have Hc := Lib.hid hc; clear hc
  have Hs := Lib.hid hs; clear hs
  have Ht := Lib.hid ht; clear ht
  have Hd := Lib.hid hd; clear hd
  have H16 := Lib.hid h16; clear h16
  go_enter Tryd.func29, Tryd.ntmps29
  go_wp2_with (fail)
  refine sfa_nil.mono ?_
  rintro e w1 ⟨rfl, rfl⟩
  go_wp2_with (fail)
  go_quiet (fail)
  go_wp2_with (fail)
  generalize hW : World.alloc (World.alloc (w.drewN nq) _) _ = w2
  have HN := Lib.hid (newTS w w2 nq 71 47 hW.symm); clear hW
  have hb12 : Below w.heap.size w w2 := HN.out.1
  have hz2 : w2.heap.size = w.heap.size + 2 := HN.out.2.1
  have hcb : cb < w.heap.size := at_lt Hc.out (by simp [cVals])
  refine (init_calls hm Hk.out Hn.out (Hc.out.below hb12) (Hs.out.below hb12) HN.out.2.2.2.2.1 HN.out.2.2.2.2.2 (by omega) (notAt_new Hs.out (by omega))).mono ?_
  have HB := Lib.hid hb12; clear hb12
  rintro e w3 ⟨rfl, hc3, ha3⟩
  have H3 := Lib.hid hc3; clear hc3
  have HA3 := Lib.hid ha3; clear ha3
  go_wp2_with (fail)
  have hb13 : Below w.heap.size w w3 := chg_below ((Chg.of_below HB.out).trans H3.out) (by simp)
  refine (data_calls hm (by omega) rfl rfl rfl (Hc.out.below hb13) (Hd.out.below hb13) (notAt_new Hd.out (by omega)) HA3.out (H3.out.thaw (by omega) HN.out.2.2.2.2.2)).mono ?_
  have HB3 := Lib.hid hb13; clear hb13
  rintro e w4 ⟨rfl, hc4, ha4⟩
  have H4 := Lib.hid hc4; clear hc4
  have HA4 := Lib.hid ha4; clear ha4
  go_wp2_with (fail)
  have hch : Chg w2 w4 [(w.heap.size + 1, 0, 5)] := H3.out.trans H4.out
  have hb14 : Below w.heap.size w w4 := chg_below (((Chg.of_below HB.out).trans H3.out).trans H4.out) (by simp)
  have hts4 : Thaw w4 (w.heap.size + 1) 0 5 := hch.thaw (by omega) HN.out.2.2.2.2.2
  have htg4 : At w4 w.heap.size 0 (zer 16) := hch.at HN.out.2.2.1 fun r hr => .inl (by rw [List.mem_singleton] at hr; subst hr; show w.heap.size + 1 ≠ _; omega)
  have htt4 : Thaw w4 w.heap.size 0 16 := hch.thaw (by omega) HN.out.2.2.2.1
  have hs4 : w2.heap.size ≤ w4.heap.size := hch.size
  have hsrc : SlV w (.slice (some ⟨sb, so, none⟩) 0 scap) (vals []) := .inr ⟨⟨sb, so, none⟩, scap, rfl, Nat.zero_le _, fun j x hx => nomatch hx⟩
  have htagv : SlV w (.slice (some ⟨sb, so, none⟩) 16 scap) (vals t) := .inr ⟨⟨sb, so, none⟩, scap, by rw [vals_length, H16.out], by rw [vals_length, H16.out]; omega, fun j x hx => by
    have := Ht.out j x hx
    rw [Addr.add_lit]; exact this⟩
  refine (text_calls (ob := w.heap.size) (oo := 0) hm true (Nat.zero_le _) rfl rfl rfl (Hc.out.below hb14) ⟨hsrc.below hb14, .inl ⟨rfl, .inl ⟨rfl, rfl⟩⟩, notAt_new hsrc (by omega), notAt_new hsrc (Nat.le_refl _), fun h => absurd rfl h, HA4.out, hts4⟩).mono ?_
  have HB4 := Lib.hid hb14; clear hb14
  have HC4 := Lib.hid hch; clear hch
  have HTA := Lib.hid htg4; clear htg4
  have HTT := Lib.hid htt4; clear htt4
  have HS4 := Lib.hid hts4; clear hts4
  have HTV := Lib.hid htagv; clear htagv
  clear hsrc
  rintro e w5 ⟨rfl, hc5, ha5, ho5⟩
  have H5 := Lib.hid hc5; clear hc5
  have HA5 := Lib.hid ha5; clear ha5
  have HO5 := Lib.hid ho5; clear ho5
  go_wp2_with (fail)
  have hch : Chg w w5 [(w.heap.size + 1, 0, 5), (w.heap.size, 0, 0)] := (chg_sub ((Chg.of_below HB.out).trans HC4.out) fun r hr => by rw [List.mem_singleton] at hr; subst hr; exact List.mem_cons_self ..).trans H5.out
  have hb15 : Below w.heap.size w w5 := chg_below hch fun r hr => by
    simp only [List.mem_cons, List.not_mem_nil, or_false] at hr
    rcases hr with rfl | rfl
    · show w.heap.size ≤ w.heap.size + 1; omega
    · exact Nat.le_refl _
  have htg : At w5 w.heap.size 0 (zer 16) := H5.out.at HTA.out fun r hr => by
    simp only [List.mem_cons, List.not_mem_nil, or_false] at hr
    rcases hr with rfl | rfl
    · exact .inl (by show w.heap.size + 1 ≠ _; omega)
    · exact .inr (.inl (Nat.le_refl _))
  have htt : Thaw w5 w.heap.size 0 16 := H5.out.thaw (by omega) HTT.out
  have hs5 : w4.heap.size ≤ w5.heap.size := H5.out.size
  refine (fin_calls hm Hk.out (Hc.out.below hb15) htg (by simp [zer]) (fun x hx => by rw [(List.mem_replicate.1 hx).2]; rfl) htt (Nat.le_refl _) HA5.out (H5.out.thaw (by omega) HS4.out) (by omega) (by omega) (by omega)).mono ?_
  have HC5 := Lib.hid hch; clear hch
  have HB5 := Lib.hid hb15; clear hb15
  clear htg htt
  rintro e w6 ⟨rfl, hc6, ho6⟩
  have H6 := Lib.hid hc6; clear hc6
  have HO6 := Lib.hid ho6; clear ho6
  go_wp2_with (fail)
  have hs6 : w5.heap.size ≤ w6.heap.size := H6.out.size
  have hb16 : Below w.heap.size w w6 := chg_below (R := [(w.heap.size + 1, 0, 5), (w.heap.size, 0, 0), (w.heap.size, 0, 16)]) ((chg_sub HC5.out fun r hr => by
    simp only [List.mem_cons, List.not_mem_nil, or_false] at hr ⊢
    rcases hr with rfl | rfl
    · exact .inl rfl
    · exact .inr (.inl rfl)).trans (chg_sub H6.out fun r hr => by
    simp only [List.mem_cons, List.not_mem_nil, or_false] at hr ⊢
    rcases hr with rfl | rfl
    · exact .inl rfl
    · exact .inr (.inr rfl))) fun r hr => by
    simp only [List.mem_cons, List.not_mem_nil, or_false] at hr
    rcases hr with rfl | rfl | rfl
    · show w.heap.size ≤ w.heap.size + 1; omega
    · exact Nat.le_refl _
    · show w.heap.size ≤ w.heap.size; omega
  refine (ctc_calls H16.out (tagS_length ..) (HTV.out.below hb16) (b := tagS m key (crypt (mdOf m) true (dataSt (mdOf m) (beginS m key nonce) data) []).2) (.inr ⟨⟨w.heap.size, 0, none⟩, 16, rfl, Nat.le_refl _, fun j x hx => by rw [Addr.add_lit]; exact HO6.out j x hx⟩)).mono ?_
  have HB6 := Lib.hid hb16; clear hb16
  rintro e w7 ⟨rfl, hb7⟩
  have hz6 : w.heap.size < w6.heap.size := by omega
  have HB7 := Lib.hid hb7; clear hb7
  by_cases he : t = tagS m key (crypt (mdOf m) true (dataSt (mdOf m) (beginS m key nonce) data) []).2
  · rw [if_pos he]
    have He := Lib.hid he; clear he
    go_wp2_with (fail)
    go_ret2
    exact ⟨fun _ => ⟨rfl, HB6.out.trans (HB7.out.mono HB6.out.size)⟩, fun h => absurd He.out h⟩
  · rw [if_neg he]
    have He := Lib.hid he; clear he
    go_wp2_with (fail)
    rw [show Sem.run Tryd.prog (Builtin.clear_ #[22] 0 #[.slice none 0 0]) w7 = .ok (.tuple #[]) w7 by rfl]
    have HB8 := Lib.hid (HB6.out.trans (HB7.out.mono HB6.out.size))
    have hE : w7.cell? ⟨1, 0, none⟩ = some (.iface 91 (.pointer (some ea))) := (HB8.out.cell (p := ⟨1, 0, none⟩) (cell_lt He1.out)).trans He1.out
    go_wp2_with (fail)
    go_quiet (fail)
    go_wp2_with (fail)
    go_ret2
    exact ⟨fun h => absurd h He.out, fun _ => ⟨_, ⟨ea, rfl⟩, rfl, HB8.out.trans ⟨rfl, rfl, rfl, Nat.le_refl _, fun _ _ => rfl⟩⟩⟩
end Go.Proofs.YtfilandehjmikaaDoor.Asc
