/- The code's Open behind nothing, as a contract: a full answer. No condition. -/
import Derived.Test.YtfilandehjmikaaDoorAscN
import Derived.Lib.SliceRun
namespace Go.Proofs.YtfilandehjmikaaDoor.Asc
open Go.RowKit Go.Proofs.YtfilandehjmikaaDoor.Sx

def tagC : List Value := zer 16
theorem newTS (w1 w2 : World) (nq : Nat) (t u : TypeId) (he : w2 = ((w1.drewN nq).alloc (.cells (zer 16).toArray t)).alloc (.cells zSt.vals.toArray u)) : Below w1.heap.size w1 w2 ∧ w2.heap.size = w1.heap.size + 2 ∧
    At w2 w1.heap.size 0 (zer 16) ∧ Thaw w2 w1.heap.size 0 16 ∧ At w2 (w1.heap.size + 1) 0 zSt.vals ∧ Thaw w2 (w1.heap.size + 1) 0 5 := by
  subst he
  have hz : (w1.drewN nq).heap.size = w1.heap.size := rfl
  have hz2 : ((w1.drewN nq).alloc (.cells (zer 16).toArray t)).heap.size = w1.heap.size + 1 := by simp [World.alloc]
  have hb : Below w1.heap.size w1 ((w1.drewN nq).alloc (.cells (zer 16).toArray t)) := ⟨rfl, rfl, rfl, by simp, fun k hk => by rw [Below.heap_alloc _ _ _ (by rw [hz]; exact hk)]; rfl⟩
  have h1 : At ((w1.drewN nq).alloc (.cells (zer 16).toArray t)) w1.heap.size 0 (zer 16) := fun j v hv => by
    rw [Nat.zero_add, ← hz, World.cell?_alloc_new]
    simpa using hv
  have h1b : Below (w1.heap.size + 1) ((w1.drewN nq).alloc (.cells (zer 16).toArray t)) (((w1.drewN nq).alloc (.cells (zer 16).toArray t)).alloc (.cells zSt.vals.toArray u)) := (Below.refl _ _).alloc (by rw [hz2]; exact Nat.le_refl _) _
  have h2 : Thaw ((w1.drewN nq).alloc (.cells (zer 16).toArray t)) w1.heap.size 0 16 := fun j _ => by
    rw [Nat.zero_add, ← hz]
    exact World.frozen?_alloc_new _ _ _ _
  refine ⟨hb.trans (h1b.mono (by omega)), by simp [World.alloc], ?_, ?_, ?_, ?_⟩
  · exact (Chg.of_below (R := []) (h1b.mono (by rw [hz2]; exact Nat.le_refl _))).at h1 (fun r hr => nomatch hr)
  · exact (Chg.of_below (R := []) (h1b.mono (by rw [hz2]; exact Nat.le_refl _))).thaw (by rw [hz2]; omega) h2
  · intro j v hv
    rw [Nat.zero_add, ← hz2, World.cell?_alloc_new]
    simpa using hv
  · intro j _
    rw [Nat.zero_add, ← hz2]
    exact World.frozen?_alloc_new _ _ _ _
theorem below_cells {B : Nat} {a : World} (b : Nat) (hb : B ≤ b) : ∀ (vs : List Value) (o : Nat) (w : World), Below B a w → Below B a (w.setCells b o vs)
  | [], _, _, h => h
  | v :: vs, o, _, h => below_cells b hb vs (o + 1) _ (h.setCell (p := ⟨b, o, none⟩) hb v)
theorem run_clear {w : World} {g n : Nat} (h0 : 0 < n) {vs : List Value} (hl : vs.length = n) (ha : At w g 0 vs) (ht : Thaw w g 0 n) :
    Sem.run Tryd.prog (Builtin.clear_ #[22] 0 #[.slice (some ⟨g, 0, none⟩) n n]) w = .ok (.tuple #[]) (w.setCells g 0 (List.replicate n (.int .u8 0))) :=
  Lib.run_clear_slice w 22 5 0 (.int .u8 0) (by kernel_rfl) (fun w => by rfl) rfl rfl g 0 n n h0 (fun j hj => by
    rw [ha j vs[j] (by simp [hl, hj])]; rfl) (fun j hj => ht j hj)
def OpenP (w : World) (m : Nat) (key nonce c t data : List B8) (e : Ending) (w' : World) : Prop :=
  (t = tagS m key (crypt (mdOf m) true (dataSt (mdOf m) (beginS m key nonce) data) c).2 → ∃ g, e = .returned (.tuple #[.slice (some ⟨g, 0, none⟩) c.length c.length, .nilIface]) ∧ Below w.heap.size w w' ∧ w.heap.size ≤ g ∧ At w' g 0 (vals (crypt (mdOf m) true (dataSt (mdOf m) (beginS m key nonce) data) c).1)) ∧
  (t ≠ tagS m key (crypt (mdOf m) true (dataSt (mdOf m) (beginS m key nonce) data) c).2 → OShort w e w')
set_option maxHeartbeats 1000000 in
theorem open_row {m : Nat} (hm : m ≤ 2) {key nonce data c t : List B8} (hk : key.length = klen m) (hn : nonce.length = 16) (h16 : t.length = 16) (hnl : c.length ≤ 1048576) (h0 : 0 < c.length) (hdl : data.length ≤ 1048576) {w : World} {cb co ncap sb so scap : Nat} {na : Option Addr} {dv : Value} {ea : Addr} (he1 : w.cell? ⟨1, 0, none⟩ = some (.iface 91 (.pointer (some ea))))
    (hc : At w cb co (cVals m key)) (hs : SlV w (.slice na 16 ncap) (vals nonce)) (ht : At w sb so (vals c ++ vals t)) (hcap : c.length + 16 ≤ scap) (hd : SlV w dv (vals data)) :
    Calls Tryd.prog 29 #[ptrTo cb co, .slice none 0 0, .slice na 16 ncap, .slice (some ⟨sb, so, none⟩) (c.length + 16) scap, dv] w (OpenP w m key nonce c t data) := by
  have He1 := Lib.hid he1; clear he1
  have Hk := Lib.hid hk; clear hk
  have Hn := Lib.hid hn; clear hn
  have Hc := Lib.hid hc; clear hc
  have Hs := Lib.hid hs; clear hs
  have Ht := Lib.hid (At.append.1 ht); clear ht
  have Hd := Lib.hid hd; clear hd
  have H16 := Lib.hid h16; clear h16
  go_enter Tryd.func29, Tryd.ntmps29
  go_wp2_with (fail)
  refine (sfa_row (n := c.length) (by omega) h0 _ rfl).mono ?_
  rintro e w1 ⟨rfl, hrow⟩
  have H1 := Lib.hid hrow; clear hrow
  go_wp2_with (fail)
  go_quiet (fail)
  go_wp2_with (fail)
  generalize hW : World.alloc (World.alloc (w1.drewN nq) _) _ = w2
  have HN := Lib.hid (newTS w1 w2 nq 71 47 hW.symm); clear hW
  have hb12 : Below w.heap.size w w2 := H1.out.1.trans (HN.out.1.mono H1.out.1.size)
  have hlt1 : w.heap.size < w1.heap.size := H1.out.2.2.2
  have hz2 : w2.heap.size = w1.heap.size + 2 := HN.out.2.1
  have hcb : cb < w.heap.size := at_lt Hc.out (by simp [cVals])
  refine (init_calls hm Hk.out Hn.out (Hc.out.below hb12) (Hs.out.below hb12) HN.out.2.2.2.2.1 HN.out.2.2.2.2.2 (by omega) (notAt_new Hs.out (by omega))).mono ?_
  have HB := Lib.hid hb12; clear hb12
  rintro e w3 ⟨rfl, hc3, ha3⟩
  have H3 := Lib.hid hc3; clear hc3
  have HA3 := Lib.hid ha3; clear ha3
  go_wp2_with (fail)
  have hb13 : Below w.heap.size w w3 := chg_below ((Chg.of_below HB.out).trans H3.out) (by simp; omega)
  refine (data_calls hm (by omega) rfl rfl rfl (Hc.out.below hb13) (Hd.out.below hb13) (notAt_new Hd.out (by omega)) HA3.out (H3.out.thaw (by omega) HN.out.2.2.2.2.2)).mono ?_
  have HB3 := Lib.hid hb13; clear hb13
  rintro e w4 ⟨rfl, hc4, ha4⟩
  have H4 := Lib.hid hc4; clear hc4
  have HA4 := Lib.hid ha4; clear ha4
  go_wp2_with (fail)
  have hch : Chg w2 w4 [(w1.heap.size + 1, 0, 5)] := H3.out.trans H4.out
  have hb14 : Below w.heap.size w w4 := chg_below (((Chg.of_below HB.out).trans H3.out).trans H4.out) (by simp; omega)
  have hz4 : At w4 w.heap.size 0 (zer c.length) := hch.at (H1.out.2.1.below HN.out.1) fun r hr => .inl (by rw [List.mem_singleton] at hr; subst hr; show w1.heap.size + 1 ≠ _; omega)
  have ht4 : Thaw w4 w.heap.size 0 c.length := hch.thaw (by omega) ((Chg.of_below (R := []) HN.out.1).thaw hlt1 H1.out.2.2.1)
  have hts4 : Thaw w4 (w1.heap.size + 1) 0 5 := hch.thaw (by omega) HN.out.2.2.2.2.2
  have htg4 : At w4 w1.heap.size 0 (zer 16) := hch.at HN.out.2.2.1 fun r hr => .inl (by rw [List.mem_singleton] at hr; subst hr; show w1.heap.size + 1 ≠ _; omega)
  have htt4 : Thaw w4 w1.heap.size 0 16 := hch.thaw (by omega) HN.out.2.2.2.1
  have hs4 : w2.heap.size ≤ w4.heap.size := hch.size
  have hout := outRow (k := 0) (n := c.length) (by exact hz4) (by exact ht4)
  have hsrc : SlV w (.slice (some ⟨sb, so, none⟩) c.length scap) (vals c) := .inr ⟨⟨sb, so, none⟩, scap, by rw [vals_length], by rw [vals_length]; omega, fun j x hx => by rw [Addr.add_lit]; exact Ht.out.1 j x hx⟩
  have htagv : SlV w (.slice (some ⟨sb, so + c.length, none⟩) 16 (scap - c.length)) (vals t) := .inr ⟨⟨sb, so + c.length, none⟩, scap - c.length, by rw [vals_length, H16.out], by rw [vals_length, H16.out]; omega, fun j x hx => by
    have := Ht.out.2 j x hx
    rw [vals_length] at this
    rw [Addr.add_lit]; exact this⟩
  refine (text_calls hm true (by omega) rfl rfl rfl (Hc.out.below hb14) ⟨hsrc.below hb14, hout, notAt_new hsrc (by omega), notAt_new hsrc (Nat.le_refl _), fun _ => by omega, HA4.out, hts4⟩).mono ?_
  have HB4 := Lib.hid hb14; clear hb14
  have HC4 := Lib.hid hch; clear hch
  have HTA := Lib.hid htg4; clear htg4
  have HTT := Lib.hid htt4; clear htt4
  have HT4 := Lib.hid ht4; clear ht4
  have HS4 := Lib.hid hts4; clear hts4
  have HTV := Lib.hid htagv; clear htagv
  clear hout hz4 hsrc
  rintro e w5 ⟨rfl, hc5, ha5, ho5⟩
  have H5 := Lib.hid hc5; clear hc5
  have HA5 := Lib.hid ha5; clear ha5
  have HO5 := Lib.hid ho5; clear ho5
  go_wp2_with (fail)
  have hb25 : Below w1.heap.size w1 w2 := HN.out.1
  have hch : Chg w w5 [(w1.heap.size + 1, 0, 5), (w.heap.size, 0, c.length)] := (chg_sub ((Chg.of_below HB.out).trans HC4.out) fun r hr => by rw [List.mem_singleton] at hr; subst hr; exact List.mem_cons_self ..).trans H5.out
  have hb15 : Below w.heap.size w w5 := chg_below hch fun r hr => by
    simp only [List.mem_cons, List.not_mem_nil, or_false] at hr
    rcases hr with rfl | rfl
    · show w.heap.size ≤ w1.heap.size + 1; omega
    · exact Nat.le_refl _
  have htg : At w5 w1.heap.size 0 (zer 16) := H5.out.at HTA.out fun r hr => by
    simp only [List.mem_cons, List.not_mem_nil, or_false] at hr
    rcases hr with rfl | rfl
    · exact .inl (by show w1.heap.size + 1 ≠ _; omega)
    · exact .inl (by show w.heap.size ≠ _; omega)
  have htt : Thaw w5 w1.heap.size 0 16 := H5.out.thaw (by omega) HTT.out
  have hs5 : w4.heap.size ≤ w5.heap.size := H5.out.size
  refine (fin_calls hm Hk.out (Hc.out.below hb15) htg (by simp [zer]) (fun x hx => by rw [(List.mem_replicate.1 hx).2]; rfl) htt (Nat.le_refl _) HA5.out (H5.out.thaw (by omega) HS4.out) (by omega) (by omega) (by omega)).mono ?_
  have HC5 := Lib.hid hch; clear hch
  have HB5 := Lib.hid hb15; clear hb15
  clear htg htt hb25
  rintro e w6 ⟨rfl, hc6, ho6⟩
  have H6 := Lib.hid hc6; clear hc6
  have HO6 := Lib.hid ho6; clear ho6
  go_wp2_with (fail)
  have hs6 : w5.heap.size ≤ w6.heap.size := H6.out.size
  have hb16 : Below w.heap.size w w6 := chg_below (R := [(w1.heap.size + 1, 0, 5), (w.heap.size, 0, c.length), (w1.heap.size, 0, 16)]) ((chg_sub HC5.out fun r hr => by
    simp only [List.mem_cons, List.not_mem_nil, or_false] at hr ⊢
    rcases hr with rfl | rfl
    · exact .inl rfl
    · exact .inr (.inl rfl)).trans (chg_sub H6.out fun r hr => by
    simp only [List.mem_cons, List.not_mem_nil, or_false] at hr ⊢
    rcases hr with rfl | rfl
    · exact .inl rfl
    · exact .inr (.inr rfl))) fun r hr => by
    simp only [List.mem_cons, List.not_mem_nil, or_false] at hr
    rcases hr with rfl | rfl | rfl
    · show w.heap.size ≤ w1.heap.size + 1; omega
    · exact Nat.le_refl _
    · show w.heap.size ≤ w1.heap.size; omega
  have hrow6 : At w6 w.heap.size 0 (vals (crypt (mdOf m) true (dataSt (mdOf m) (beginS m key nonce) data) c).1) := H6.out.at HO5.out fun r hr => by
    simp only [List.mem_cons, List.not_mem_nil, or_false] at hr
    rcases hr with rfl | rfl
    · exact .inl (by show w1.heap.size + 1 ≠ _; omega)
    · exact .inl (by show w1.heap.size ≠ _; omega)
  have HR6 := Lib.hid hrow6; clear hrow6
  refine (ctc_calls H16.out (tagS_length ..) (HTV.out.below hb16) (b := tagS m key (crypt (mdOf m) true (dataSt (mdOf m) (beginS m key nonce) data) c).2) (.inr ⟨⟨w1.heap.size, 0, none⟩, 16, rfl, Nat.le_refl _, fun j x hx => by rw [Addr.add_lit]; exact HO6.out j x hx⟩)).mono ?_
  have HB6 := Lib.hid hb16; clear hb16
  rintro e w7 ⟨rfl, hb7⟩
  have hz6 : w.heap.size < w6.heap.size := by omega
  have HB7 := Lib.hid hb7; clear hb7
  by_cases he : t = tagS m key (crypt (mdOf m) true (dataSt (mdOf m) (beginS m key nonce) data) c).2
  · rw [if_pos he]
    have He := Lib.hid he; clear he
    go_wp2_with (fail)
    go_ret2
    refine ⟨fun _ => ⟨w.heap.size, rfl, HB6.out.trans (HB7.out.mono HB6.out.size), Nat.le_refl _, HR6.out.below HB7.out⟩, fun h => absurd He.out h⟩
  · rw [if_neg he]
    have He := Lib.hid he; clear he
    go_wp2_with (fail)
    rw [run_clear h0 (by rw [vals_length, crypt_length]) (HR6.out.below HB7.out) ((Chg.of_below (R := []) HB7.out).thaw hz6 (H6.out.thaw (by omega) (H5.out.thaw (by omega) HT4.out)))]
    have HB8 := Lib.hid (below_cells w.heap.size (Nat.le_refl _) (List.replicate c.length (.int .u8 0)) 0 w7 (HB6.out.trans (HB7.out.mono HB6.out.size)))
    generalize w7.setCells w.heap.size 0 _ = w8 at HB8 ⊢
    have hE : w8.cell? ⟨1, 0, none⟩ = some (.iface 91 (.pointer (some ea))) := (HB8.out.cell (p := ⟨1, 0, none⟩) (cell_lt He1.out)).trans He1.out
    go_wp2_with (fail)
    go_quiet (fail)
    go_wp2_with (fail)
    go_ret2
    exact ⟨fun h => absurd h He.out, fun _ => ⟨_, ⟨ea, rfl⟩, rfl, HB8.out.trans ⟨rfl, rfl, rfl, Nat.le_refl _, fun _ _ => rfl⟩⟩⟩
end Go.Proofs.YtfilandehjmikaaDoor.Asc
