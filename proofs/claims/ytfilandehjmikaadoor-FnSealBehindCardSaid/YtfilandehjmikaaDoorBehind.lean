/- The law FnSealBehind. No condition. -/
import Derived.Test.YtfilandehjmikaaDoorAscGU
import Derived.Test.YtfilandehjmikaaDoorOseal
import Derived.BigFrame
namespace Go.Proofs.YtfilandehjmikaaDoor
open Go.RowKit Go.Proofs.YtfilandehjmikaaDoor.Sx Go.Proofs.YtfilandehjmikaaDoor.Asc

theorem wpList_appG {w w0 : World} {ops : Array Oper} {rest : List Oper} {o : Oper} {a : Act} {Q : Exit → Act → World → Prop} (s x : Operand)
    (ho : o.op = .call { callee := .builtin .append, args := #[s, x], argTypes := #[22, 22] }) (base : Nat) (v u : Value) (l k : List B8) (hs : a.eval s = v) (hx : a.eval x = u) (hw : Region.wanted o (yielded ops a.tmps) = true)
    (hown : OwnB w base v l) (hu : SlV w u (vals k)) (hl : l.length + k.length ≤ 1099511627776) (hbase : base ≤ w.heap.size) (hb : Below base w0 w)
    (h : ∀ v' w', Hid (OwnB w' base v' (l ++ k)) → Hid (Below base w0 w') → Hid (w.heap.size ≤ w'.heap.size) → wpList Tryd.prog ops Q rest (a.put o.dst v') w') : wpList Tryd.prog ops Q (o :: rest) a w := by
  refine BigFrame.wpList_want hw fun K hK => ?_
  obtain ⟨v', w', hr, h2, h3⟩ := app_run (ty := o.type) hown hu hl hbase
  unfold Oper.wp execOp
  simp only [ho, resolve, invoke, builtin, Sem.run_bind, Sem.run_pure, Result.andThen_ok, List.map_toArray, List.map_cons, List.map_nil, hs, hx, hr]
  exact hK _ _ (h v' w' h2 (hb.grown h3 hbase fun k hk => (World.ownsRow.lt hown k hk).1) h3.size)
section
variable {w : World} {mode : Int} {xa ka na ta da : Option Addr} {xl xc kl kc nl nc tl tc dl dc : Nat}
set_option maxHeartbeats 1000000 in
theorem behind_big (h : ¬(xl ≤ 2147483647 ∧ kl ≤ 2147483647 ∧ nl ≤ 2147483647 ∧ tl ≤ 2147483647 ∧ dl ≤ 2147483647)) :
    Calls Tryd.prog 10 #[.int .i64 mode, .slice xa xl xc, .slice ka kl kc, .slice na nl nc, .slice ta tl tc, .slice da dl dc] w (Tru w) := by
  by_cases h1 : 2147483647 < xl
  · go_enter Tryd.func10, Tryd.ntmps10
    go_wp2_with (fail)
    go_ret
    exact ⟨rfl, Below.refl _ _⟩
  by_cases h2 : 2147483647 < kl
  · clear h
    go_enter Tryd.func10, Tryd.ntmps10
    go_wp2_with (fail)
    go_ret
    exact ⟨rfl, Below.refl _ _⟩
  by_cases h3 : 2147483647 < nl
  · clear h
    go_enter Tryd.func10, Tryd.ntmps10
    go_wp2_with (fail)
    go_ret
    exact ⟨rfl, Below.refl _ _⟩
  by_cases h4 : 2147483647 < tl
  · clear h
    go_enter Tryd.func10, Tryd.ntmps10
    go_wp2_with (fail)
    go_ret
    exact ⟨rfl, Below.refl _ _⟩
  by_cases h5 : 2147483647 < dl
  · clear h
    go_enter Tryd.func10, Tryd.ntmps10
    go_wp2_with (fail)
    go_ret
    exact ⟨rfl, Below.refl _ _⟩
  exact absurd ⟨by omega, by omega, by omega, by omega, by omega⟩ h
set_option maxHeartbeats 1000000 in
theorem behind_wrong (h1 : xl ≤ 2147483647) (h2 : kl ≤ 2147483647) (h3 : nl ≤ 2147483647) (h4 : tl ≤ 2147483647) (h5 : dl ≤ 2147483647) (hr : rightB mode kl nl = false) :
    Calls Tryd.prog 10 #[.int .i64 mode, .slice xa xl xc, .slice ka kl kc, .slice na nl nc, .slice ta tl tc, .slice da dl dc] w (Tru w) := by
  have Hr := Lib.hid hr; clear hr
  go_enter Tryd.func10, Tryd.ntmps10
  go_wp2_with (fail)
  refine (right_no Hr.out).mono ?_
  rintro e w1 ⟨rfl, hb⟩
  have HB := Lib.hid hb; clear hb
  go_wp2_with (fail)
  go_ret
  exact ⟨rfl, HB.out⟩
set_option maxHeartbeats 1000000 in
theorem behind_many (h1 : xl ≤ 2147483647) (h2 : kl ≤ 2147483647) (h3 : nl ≤ 2147483647) (h4 : tl ≤ 2147483647) (h5 : dl ≤ 2147483647) (hr : rightB mode kl nl = true) (hf : decide (xl + tl + dl ≤ 4096) = false) :
    Calls Tryd.prog 10 #[.int .i64 mode, .slice xa xl xc, .slice ka kl kc, .slice na nl nc, .slice ta tl tc, .slice da dl dc] w (Tru w) := by
  have Hr := Lib.hid hr; clear hr
  have Hf := Lib.hid hf; clear hf
  go_enter Tryd.func10, Tryd.ntmps10
  go_wp2_with (fail)
  refine (right_yes Hr.out).mono ?_
  rintro e w1 ⟨rfl, hb⟩
  have HB := Lib.hid hb; clear hb
  go_wp2_with (fail)
  refine (few3_calls h1 h4 h5 Hf.out).mono ?_
  rintro e w2 ⟨rfl, hb2⟩
  have HB2 := Lib.hid (HB.out.trans (hb2.mono HB.out.size)); clear hb2
  go_wp2_with (fail)
  go_ret
  exact ⟨rfl, HB2.out⟩
/-- impl.Open behind anything, of what was sealed. -/
theorem iopen_any {m k n : Nat} (hm : m ≤ 2) {key nonce text data dst : List B8} (hk : key.length = klen m) (hn : nonce.length = 16) (htn : text.length = n) (hnl : n + 16 ≤ 1048576) (hdl : data.length ≤ 1048576) (hdk : dst.length = k) (hkl : k ≤ 1048576) {w : World} {xv kv nv sv dv : Value} {ea : Addr} (h1 : w.cell? ⟨1, 0, none⟩ = some (.iface 91 (.pointer (some ea))))
    (hxv : SlV w xv (vals dst)) (hkv : SlV w kv (vals key)) (hs : SlV w nv (vals nonce)) (ht : SlV w sv (vals (sealB m key nonce text data))) (hd : SlV w dv (vals data)) :
    Calls Tryd.prog 18 #[.int .i64 (m : Int), xv, kv, nv, sv, dv] w fun e w' => ∃ v, e = .returned (.tuple #[v, .bool true]) ∧ Below w.heap.size w w' ∧ SlV w' v (vals (dst ++ text)) := by
  rcases hxv with ⟨rfl, h0⟩ | ⟨a, c, rfl, h2, h3⟩
  · have hd0 : dst = [] := by simpa [vals] using h0
    subst hd0
    exact (iopen_seal hm hk hn htn hnl hdl h1 hkv hs ht hd).mono fun e w' ⟨a, cap, e1, e2, e3⟩ => ⟨_, e1, e2, e3⟩
  · rw [vals_length, hdk]
    refine (iopen_own hm hk hn htn hnl hdl hdk hkl h3 hkv hs ht hd).mono fun e w' ⟨g, cap, e1, e2, e3, e4⟩ => ⟨_, e1, e3, ?_⟩
    have := SlV.mk (cap := cap) e4 (by rw [vals_length, List.length_append, hdk, htn]; exact e2)
    rwa [vals_length, List.length_append, hdk, htn] at this
/-- .. and impl.Seal. -/
theorem iseal_any {m k n : Nat} (hm : m ≤ 2) {key nonce text data dst : List B8} (hk : key.length = klen m) (hn : nonce.length = 16) (htn : text.length = n) (htl : n ≤ 1048576) (hdl : data.length ≤ 1048576) (hdk : dst.length = k) (hkl : k ≤ 1048576) {w : World} {xv kv nv tv dv : Value}
    (hxv : SlV w xv (vals dst)) (hkv : SlV w kv (vals key)) (hs : SlV w nv (vals nonce)) (ht : SlV w tv (vals text)) (hd : SlV w dv (vals data)) :
    Calls Tryd.prog 15 #[.int .i64 (m : Int), xv, kv, nv, tv, dv] w fun e w' => ∃ v, e = .returned (.tuple #[v, .bool true]) ∧ Below w.heap.size w w' ∧ SlV w' v (vals (dst ++ sealB m key nonce text data)) := by
  refine (iseal_gen hm hk hn htn htl hdl hdk hkl hxv hkv hs ht hd).mono fun e w' ⟨g, cap, e1, e2, e3, e4, e5, _⟩ => ⟨_, e1, e3, ?_⟩
  have hl : (vals (dst ++ sealB m key nonce text data)).length = k + (n + 16) := by rw [vals_length, List.length_append, sealB_length, hdk, htn]
  have := SlV.mk (cap := cap) e5 (by rw [hl]; exact e2)
  rwa [hl] at this
set_option maxHeartbeats 1000000 in
theorem behind_main {m : Nat} {key nonce text data dst : List B8} {ea : Addr} (he1 : w.cell? ⟨1, 0, none⟩ = some (.iface 91 (.pointer (some ea)))) (hm : m ≤ 2) (hk : key.length = klen m) (hn : nonce.length = 16) (hkl : key.length = kl) (hnl : nonce.length = nl) (hxl : dst.length = xl) (htl : text.length = tl) (hdl : data.length = dl) (hsum : xl + tl + dl ≤ 4096)
    (hxs : SlV w (.slice xa xl xc) (vals dst)) (hks : SlV w (.slice ka kl kc) (vals key)) (hns : SlV w (.slice na nl nc) (vals nonce)) (hts : SlV w (.slice ta tl tc) (vals text)) (hds : SlV w (.slice da dl dc) (vals data)) :
    Calls Tryd.prog 10 #[.int .i64 (m : Int), .slice xa xl xc, .slice ka kl kc, .slice na nl nc, .slice ta tl tc, .slice da dl dc] w (Tru w) := by
  have h20 := klen_le m
  have h0 : xl ≤ 2147483647 := by omega
  have h1 : kl ≤ 2147483647 := by omega
  have h2 : nl ≤ 2147483647 := by omega
  have h3 : tl ≤ 2147483647 := by omega
  have h5 : dl ≤ 2147483647 := by omega
  have Hr : Hid (rightB (m : Int) kl nl = true) := Lib.hid (decide_eq_true ⟨by omega, by omega, by rw [Int.toNat_natCast, ← hkl]; exact hk, by rw [← hnl]; exact hn⟩)
  have Hf : Hid (decide (xl + tl + dl ≤ 4096) = true) := Lib.hid (decide_eq_true hsum)
  have Hk := Lib.hid hk; clear hk
  have Hn := Lib.hid hn; clear hn
  have Hxl := Lib.hid hxl; clear hxl
  have Htl := Lib.hid htl; clear htl
  have Hdl := Lib.hid hdl; clear hdl
  have He := Lib.hid he1; clear he1
  clear hkl hnl
  have Hxs := Lib.hid hxs; clear hxs
  have Hks := Lib.hid hks; clear hks
  have Hns := Lib.hid hns; clear hns
  have Hts := Lib.hid hts; clear hts
  have Hds := Lib.hid hds; clear hds
  go_enter Tryd.func10, Tryd.ntmps10
  go_wp2_with (fail)
  refine (right_yes Hr.out).mono ?_
  rintro e w1 ⟨rfl, hb⟩
  have HB := Lib.hid hb; clear hb
  go_wp2_with (fail)
  refine (few3_calls h0 h3 h5 Hf.out).mono ?_
  rintro e w2 ⟨rfl, hb2⟩
  have HB2 := Lib.hid (HB.out.trans (hb2.mono HB.out.size)); clear hb2
  go_wp2_with (fail)
  refine (iseal_any (dst := []) (k := 0) hm Hk.out Hn.out Htl.out (by omega) (by rw [Hdl.out]; omega) rfl (by decide) (.inl ⟨rfl, rfl⟩) (Hks.out.below HB2.out) (Hns.out.below HB2.out) (Hts.out.below HB2.out) (Hds.out.below HB2.out)).mono ?_
  rintro e w3 ⟨xv, rfl, hb3, ho3⟩
  have HB3 := Lib.hid (HB2.out.trans (hb3.mono HB2.out.size)); clear hb3
  have HO3 : Hid (SlV w3 xv (vals (sealB m key nonce text data))) := ho3; clear ho3
  go_wp2_with (fail)
  refine (iseal_any hm Hk.out Hn.out Htl.out (by omega) (by rw [Hdl.out]; omega) Hxl.out (by omega) (Hxs.out.below HB3.out) (Hks.out.below HB3.out) (Hns.out.below HB3.out) (Hts.out.below HB3.out) (Hds.out.below HB3.out)).mono ?_
  rintro e w4 ⟨yv, rfl, hb4, ho4⟩
  have HB4 := Lib.hid (HB3.out.trans (hb4.mono HB3.out.size))
  have HX4 := Lib.hid (HO3.out.below hb4); clear hb4
  have HO4 := Lib.hid ho4; clear ho4
  go_wp2_with (fail)
  refine (iopen_any hm Hk.out Hn.out Htl.out (by omega) (by rw [Hdl.out]; omega) Hxl.out (by omega) ((HB4.out.cell (p := ⟨1, 0, none⟩) (cell_lt He.out)).trans He.out) (Hxs.out.below HB4.out) (Hks.out.below HB4.out) (Hns.out.below HB4.out) HX4.out (Hds.out.below HB4.out)).mono ?_
  rintro e w5 ⟨zv, rfl, hb5, ho5⟩
  have HB5 := Lib.hid (HB4.out.trans (hb5.mono HB4.out.size))
  have HX5 := Lib.hid (HX4.out.below hb5)
  have HY5 := Lib.hid (HO4.out.below hb5); clear hb5
  have HO5 := Lib.hid ho5; clear ho5
  go_wp2_with (at_builtin; (with_reducible refine wpList_appG (w0 := w5) _ _ rfl w5.heap.size _ _ [] dst rfl rfl ?_ ?_ ?_ ?_ ?_ ?_ ?_))
  · exact OwnB.new (Nat.le_refl _)
  · exact (Hxs.out.below HB5.out).below ((Below.refl _ _).alloc (Nat.le_refl _) _)
  · rw [Hxl.out]; simp; omega
  · simp
  · exact (Below.refl _ _).alloc (Nat.le_refl _) _
  intro v6 w6 HO6 HB6 HZ6
  go_wp2_with (at_builtin; (with_reducible refine wpList_appG (w0 := w5) _ _ rfl w5.heap.size _ _ ([] ++ dst) (sealB m key nonce text data) rfl rfl ?_ ?_ ?_ ?_ ?_ ?_ ?_))
  · exact HO6.out
  · exact HX5.out.below HB6.out
  · rw [List.nil_append, Hxl.out, sealB_length, Htl.out]; omega
  · exact HB6.out.size
  · exact HB6.out
  intro v7 w7 HO7 HB7 HZ7
  go_wp2_with (fail)
  refine (same_yes (HY5.out.below HB7.out) (by exact HO7.out.sl)).mono ?_
  rintro e w8 ⟨rfl, hw8⟩
  obtain rfl : w7 = w8 := hw8.symm
  have HB57 := Lib.hid (HB5.out.trans (HB7.out.mono HB5.out.size))
  have HZ7' := Lib.hid (HO5.out.below HB7.out)
  clear HY5 HX5 HO6 HO7 HB6 HZ6 HZ7
  go_wp2_with (at_builtin; (with_reducible refine wpList_appG (w0 := w7) _ _ rfl w7.heap.size _ _ [] dst rfl rfl ?_ ?_ ?_ ?_ ?_ ?_ ?_))
  · exact OwnB.new (Nat.le_refl _)
  · exact (Hxs.out.below HB57.out).below ((Below.refl _ _).alloc (Nat.le_refl _) _)
  · rw [Hxl.out]; simp; omega
  · simp
  · exact (Below.refl _ _).alloc (Nat.le_refl _) _
  intro v9 w9 HO9 HB9 HZ9
  go_wp2_with (at_builtin; (with_reducible refine wpList_appG (w0 := w7) _ _ rfl w7.heap.size _ _ ([] ++ dst) text rfl rfl ?_ ?_ ?_ ?_ ?_ ?_ ?_))
  · exact HO9.out
  · exact (Hts.out.below HB57.out).below HB9.out
  · rw [List.nil_append, Hxl.out, Htl.out]; omega
  · exact HB9.out.size
  · exact HB9.out
  intro v10 w10 HO10 HB10 HZ10
  go_wp2_with (fail)
  refine (same_yes (HZ7'.out.below HB10.out) (by exact HO10.out.sl)).mono ?_
  rintro e w11 ⟨rfl, hw11⟩
  obtain rfl : w10 = w11 := hw11.symm
  go_wp2_with (fail)
  go_ret
  exact ⟨rfl, HB57.out.trans (HB10.out.mono HB57.out.size)⟩
theorem behind_calls {ea : Addr} (he1 : w.cell? ⟨1, 0, none⟩ = some (.iface 91 (.pointer (some ea)))) {xv kv nv tv dv : Value} {key nonce text data dst : List B8} (hxs : SlV w xv (vals dst)) (hks : SlV w kv (vals key)) (hns : SlV w nv (vals nonce)) (hts : SlV w tv (vals text)) (hds : SlV w dv (vals data)) :
    Calls Tryd.prog 10 #[.int .i64 mode, xv, kv, nv, tv, dv] w (Tru w) := by
  obtain ⟨xa, xc, rfl⟩ := slV_shape hxs
  obtain ⟨ka, kc, rfl⟩ := slV_shape hks
  obtain ⟨na, nc, rfl⟩ := slV_shape hns
  obtain ⟨ta, tc, rfl⟩ := slV_shape hts
  obtain ⟨da, dc, rfl⟩ := slV_shape hds
  by_cases hbig : dst.length ≤ 2147483647 ∧ key.length ≤ 2147483647 ∧ nonce.length ≤ 2147483647 ∧ text.length ≤ 2147483647 ∧ data.length ≤ 2147483647
  · obtain ⟨h0, h1, h2, h3, h5⟩ := hbig
    cases hr : rightB mode key.length nonce.length with
    | false => exact behind_wrong h0 h1 h2 h3 h5 hr
    | true =>
      cases hf : decide (dst.length + text.length + data.length ≤ 4096) with
      | false => exact behind_many h0 h1 h2 h3 h5 hr hf
      | true =>
        have hr' := of_decide_eq_true hr
        obtain ⟨m, rfl⟩ : ∃ m : Nat, mode = (m : Int) := ⟨mode.toNat, by omega⟩
        rw [Int.toNat_natCast] at hr'
        exact behind_main he1 (by omega) hr'.2.2.1 hr'.2.2.2 rfl rfl rfl rfl rfl (of_decide_eq_true hf) hxs hks hns hts hds
  · exact behind_big hbig
end
end Go.Proofs.YtfilandehjmikaaDoor
