/- The code's Seal behind nothing, as a contract. No condition. -/
import Derived.Test.YtfilandehjmikaaDoorAscD
import Derived.Deep.QuietTactic
import Derived.BigQuiet
import Derived.Lib.Hide
namespace Go.Proofs.YtfilandehjmikaaDoor.Asc
open Go.RowKit Go.Proofs.YtfilandehjmikaaDoor.Sx

theorem notAt_new {w : World} {v : Value} {l : List B8} {sb : Nat} (h : SlV w v (vals l)) (hs : w.heap.size ≤ sb) : NotAt v sb := by
  cases l with
  | nil => exact NotAt.nil h sb
  | cons x l =>
    obtain ⟨ib, io, cap, rfl, _, _, hib⟩ := h.cons (by simp [vals])
    intro b o n c e _
    simp only [Value.slice.injEq, Option.some.injEq, Addr.mk.injEq] at e
    omega
def zSt : St := ⟨0, 0, 0, 0, 0⟩
/-- A new row of zeros. -/
def NewRow (w w' : World) (n : Nat) : Prop := Below w.heap.size w w' ∧ At w' w.heap.size 0 (zer n) ∧ Thaw w' w.heap.size 0 n ∧ w.heap.size < w'.heap.size
theorem sfa_row {w : World} {n : Nat} (hn : n ≤ 1099511627776) (h0 : 0 < n) (x : Int) (hx : x = n) :
    Calls Tryd.prog 31 #[.slice none 0 0, .int .i64 x] w fun e w' => e = .returned (.tuple #[.slice (some ⟨w.heap.size, 0, none⟩) n n, .slice (some ⟨w.heap.size, 0, none⟩) n n]) ∧ NewRow w w' n := by
  subst hx
  refine (sfa_new (cs := []) (Nat.zero_le _) hn (Nat.le_refl _) (Nat.zero_le _) (by omega) rfl (fun h => absurd h (Nat.lt_irrefl _)) (fun _ h => nomatch h)).mono fun e w' ⟨he, hb, hg⟩ => ?_
  have hg' : w'.heap[w.heap.size]? = some (.cells (splice (zer (0 + n)) 0 []).toArray 5 (0, 0)) := hg
  have hz : splice (zer (0 + n)) 0 [] = zer n := by simp [splice]
  rw [hz] at hg'
  have hlt : w.heap.size < w'.heap.size := by
    rcases Nat.lt_or_ge w.heap.size w'.heap.size with h | h
    · exact h
    · rw [Array.getElem?_eq_none h] at hg'; cases hg'
  refine ⟨by rw [he]; simp, hb, fun j v hv => ?_, fun j _ => ?_, hlt⟩
  · simp only [World.cell?, hg', Nat.zero_add]
    simpa using hv
  · simp [World.frozen?, hg']
theorem newSt (w1 : World) (nq : Nat) (t : TypeId) : Below w1.heap.size w1 ((w1.drewN nq).alloc (.cells #[.int .u64 0, .int .u64 0, .int .u64 0, .int .u64 0, .int .u64 0] t)) ∧
    At ((w1.drewN nq).alloc (.cells #[.int .u64 0, .int .u64 0, .int .u64 0, .int .u64 0, .int .u64 0] t)) w1.heap.size 0 zSt.vals ∧ Thaw ((w1.drewN nq).alloc (.cells #[.int .u64 0, .int .u64 0, .int .u64 0, .int .u64 0, .int .u64 0] t)) w1.heap.size 0 5 := by
  have hz : (w1.drewN nq).heap.size = w1.heap.size := rfl
  refine ⟨⟨rfl, rfl, rfl, by simp, fun k hk => by rw [Below.heap_alloc _ _ _ (by rw [hz]; exact hk)]; rfl⟩, fun j v hv => ?_, fun j _ => ?_⟩
  · have : zSt.vals = [.int .u64 0, .int .u64 0, .int .u64 0, .int .u64 0, .int .u64 0] := rfl
    rw [this] at hv
    rw [Nat.zero_add, ← hz, World.cell?_alloc_new]
    simpa using hv
  · rw [Nat.zero_add, ← hz]
    exact World.frozen?_alloc_new _ _ _ _
theorem outRow {w : World} {g n k : Nat} (h : At w g 0 (zer (n + k))) (ht : Thaw w g 0 (n + k)) : OutV w (.slice (some ⟨g, 0, none⟩) n (n + k)) g 0 n := by
  rcases Nat.eq_zero_or_pos n with h0 | h0
  · subst h0; exact .inl ⟨rfl, .inr ⟨_, _, rfl, Nat.zero_le _, fun j x hx => nomatch hx⟩⟩
  · refine .inr ⟨h0, n + k, zer n, rfl, by omega, by simp [zer], fun v hv => ?_, fun j v hv => h j v ?_, fun j hj => ht j (by omega)⟩
    · rw [(List.mem_replicate.1 hv).2]; rfl
    · have hj := (List.getElem?_eq_some_iff.1 hv).1
      simp [zer] at hj
      simp only [zer, List.getElem?_replicate] at hv ⊢
      rw [if_pos (by omega)] at hv ⊢
      exact hv
theorem chg_below {w w' : World} {R : List (Nat × Nat × Nat)} (h : Chg w w' R) (hR : ∀ r ∈ R, w.heap.size ≤ r.1) : Below w.heap.size w w' := (h.mono (R' := []) fun r hr hlt => by have := hR r hr; omega).below
theorem chg_sub {w w' : World} {R R' : List (Nat × Nat × Nat)} (h : Chg w w' R) (hR : ∀ r ∈ R, r ∈ R') : Chg w w' R' := h.mono fun r hr _ => ⟨r, hR r hr, rfl, Nat.le_refl _, Nat.le_refl _⟩
theorem zer_drop {w : World} {g n k : Nat} (h : At w g 0 (zer (n + k))) : At w g n (zer k) := fun j v hv => by
  have := h (n + j) v (by
    have hj := (List.getElem?_eq_some_iff.1 hv).1
    simp [zer] at hj
    simp only [zer, List.getElem?_replicate] at hv ⊢
    rw [if_pos (by omega)] at hv ⊢
    exact hv)
  rwa [Nat.zero_add] at this
def SealP (w : World) (m : Nat) (key nonce text data : List B8) (e : Ending) (w' : World) : Prop :=
  ∃ g, e = .returned (.slice (some ⟨g, 0, none⟩) (text.length + 16) (text.length + 16)) ∧ Below w.heap.size w w' ∧ w.heap.size ≤ g ∧
    At w' g 0 (vals ((crypt (mdOf m) false (dataSt (mdOf m) (beginS m key nonce) data) text).1 ++ tagS m key (crypt (mdOf m) false (dataSt (mdOf m) (beginS m key nonce) data) text).2))
set_option maxHeartbeats 1000000 in
theorem seal_calls {m : Nat} (hm : m ≤ 2) {key nonce text data : List B8} (hk : key.length = klen m) (hn : nonce.length = 16) (htl : text.length ≤ 1048576) (hdl : data.length ≤ 1048576) {w : World} {cb co ncap : Nat} {na : Option Addr} {tv dv : Value}
    (hc : At w cb co (cVals m key)) (hs : SlV w (.slice na 16 ncap) (vals nonce)) (ht : SlV w tv (vals text)) (hd : SlV w dv (vals data)) :
    Calls Tryd.prog 23 #[ptrTo cb co, .slice none 0 0, .slice na 16 ncap, tv, dv] w (SealP w m key nonce text data) := by
  obtain ⟨ta, tcap, htv⟩ : ∃ ta tcap, tv = .slice ta text.length tcap := by
    rcases ht with ⟨h, h'⟩ | ⟨a, cap, h, _⟩
    · exact ⟨none, 0, by rw [h]; have := congrArg List.length h'; rw [vals_length] at this; rw [this]; rfl⟩
    · exact ⟨some a, cap, by rw [h, vals_length]⟩
  subst htv
  go_enter Tryd.func23, Tryd.ntmps23
  go_wp2_with (fail)
  refine (sfa_row (n := text.length + 16) (by omega) (by omega) _ (by simp)).mono ?_
  rintro e w1 ⟨rfl, hrow⟩
  have H1 := Lib.hid hrow; clear hrow
  have Hc := Lib.hid hc; clear hc
  have Hs := Lib.hid hs; clear hs
  have Ht := Lib.hid ht; clear ht
  have Hd := Lib.hid hd; clear hd
  have Hk := Lib.hid hk; clear hk
  have Hn := Lib.hid hn; clear hn
  go_wp2_with (fail)
  go_quiet (fail)
  go_wp2_with (fail)
  have hb12 : Below w.heap.size w ((w1.drewN nq).alloc (.cells #[.int .u64 0, .int .u64 0, .int .u64 0, .int .u64 0, .int .u64 0] 47)) := H1.out.1.trans ((newSt w1 nq 47).1.mono H1.out.1.size)
  have hlt1 : w.heap.size < w1.heap.size := H1.out.2.2.2
  have ha2 := (newSt w1 nq 47).2.1
  have ht2 := (newSt w1 nq 47).2.2
  have hcb : cb < w.heap.size := at_lt Hc.out (by simp [cVals])
  refine (init_calls hm Hk.out Hn.out (Hc.out.below hb12) (Hs.out.below hb12) ha2 ht2 (by omega) (notAt_new Hs.out (by omega))).mono ?_
  have HB := Lib.hid hb12; clear hb12
  have HT := Lib.hid ht2; clear ht2
  clear ha2
  rintro e w3 ⟨rfl, hc3, ha3⟩
  have H3 := Lib.hid hc3; clear hc3
  have HA3 := Lib.hid ha3; clear ha3
  go_wp2_with (fail)
  have hb13 : Below w.heap.size w w3 := chg_below ((Chg.of_below HB.out).trans H3.out) (by simp; omega)
  refine (data_calls hm (by omega) rfl rfl rfl (Hc.out.below hb13) (Hd.out.below hb13) (notAt_new Hd.out (by omega)) HA3.out (H3.out.thaw (Nat.lt_of_lt_of_le (by simp) (Nat.le_refl _)) HT.out)).mono ?_
  have HB3 := Lib.hid hb13; clear hb13
  rintro e w4 ⟨rfl, hc4, ha4⟩
  have H4 := Lib.hid hc4; clear hc4
  have HA4 := Lib.hid ha4; clear ha4
  go_wp2_with (fail)
  have hch : Chg w w4 [(w1.heap.size, 0, 5)] := ((Chg.of_below HB.out).trans H3.out).trans H4.out
  have hb14 : Below w.heap.size w w4 := chg_below hch (by simp; omega)
  have hs1 : w1.heap.size < w4.heap.size := Nat.lt_of_lt_of_le (Nat.lt_of_lt_of_le (by simp) H3.out.size) H4.out.size
  have off : ∀ r ∈ [(w1.heap.size, 0, 5)], r.1 ≠ w.heap.size := fun r hr => by rw [List.mem_singleton] at hr; subst hr; show w1.heap.size ≠ _; omega
  have hz4 : At w4 w.heap.size 0 (zer (text.length + 16)) := H4.out.at (H3.out.at (H1.out.2.1.below (newSt w1 nq 47).1) fun r hr => .inl (off r hr)) fun r hr => .inl (off r hr)
  have ht4 : Thaw w4 w.heap.size 0 (text.length + 16) := H4.out.thaw (by have := H3.out.size; simp at this; omega) (H3.out.thaw (by simp; omega) ((Chg.of_below (R := []) (newSt w1 nq 47).1).thaw hlt1 H1.out.2.2.1))
  have hts4 : Thaw w4 w1.heap.size 0 5 := H4.out.thaw (by have := H3.out.size; simp at this; omega) (H3.out.thaw (by simp) HT.out)
  have hout := outRow hz4 ht4
  have htag := zer_drop hz4
  refine (text_calls hm false (by omega) rfl rfl rfl (Hc.out.below hb14) ⟨Ht.out.below hb14, hout, notAt_new Ht.out (by omega), notAt_new Ht.out (Nat.le_refl _), fun _ => by omega, HA4.out, hts4⟩).mono ?_
  have HB4 := Lib.hid hb14; clear hb14
  have HC4 := Lib.hid hch; clear hch
  have HG4 := Lib.hid htag; clear htag
  have HT4 := Lib.hid ht4; clear ht4
  have HS4 := Lib.hid hts4; clear hts4
  have HL4 := Lib.hid hs1; clear hs1
  clear hout hz4 off
  rintro e w5 ⟨rfl, hc5, ha5, ho5⟩
  have H5 := Lib.hid hc5; clear hc5
  have HA5 := Lib.hid ha5; clear ha5
  have HO5 := Lib.hid ho5; clear ho5
  go_wp2_with (fail)
  have hch : Chg w w5 [(w1.heap.size, 0, 5), (w.heap.size, 0, text.length)] := (chg_sub HC4.out fun r hr => by rw [List.mem_singleton] at hr; subst hr; exact List.mem_cons_self ..).trans H5.out
  have hb15 : Below w.heap.size w w5 := chg_below hch fun r hr => by
    simp only [List.mem_cons, List.not_mem_nil, or_false] at hr
    rcases hr with rfl | rfl
    · show w.heap.size ≤ w1.heap.size; omega
    · exact Nat.le_refl _
  have hw4 : w.heap.size < w4.heap.size := Nat.lt_trans hlt1 HL4.out
  have htg : At w5 w.heap.size text.length (zer 16) := H5.out.at HG4.out fun r hr => by
    simp only [List.mem_cons, List.not_mem_nil, or_false] at hr
    rcases hr with rfl | rfl
    · exact .inl (by show w1.heap.size ≠ _; omega)
    · exact .inr (.inl (by show 0 + text.length ≤ text.length; omega))
  have htt : Thaw w5 w.heap.size text.length 16 := fun j hj => by
    have := H5.out.thaw hw4 HT4.out (text.length + j) (by omega)
    rwa [Nat.zero_add] at this
  refine (fin_calls hm Hk.out (Hc.out.below hb15) htg (by simp [zer]) (fun x hx => by rw [(List.mem_replicate.1 hx).2]; rfl) htt (Nat.le_refl _) HA5.out (H5.out.thaw HL4.out HS4.out) (by omega) (by omega) (by omega)).mono ?_
  have HC5 := Lib.hid hch; clear hch
  clear hb15 htg htt hw4
  rintro e w6 ⟨rfl, hc6, ho6⟩
  have H6 := Lib.hid hc6; clear hc6
  have HO6 := Lib.hid ho6; clear ho6
  go_wp2_with (fail)
  go_ret
  have hcl : ∀ s : St, (crypt (mdOf m) false s text).1.length = text.length := fun s => crypt_length _ _ _ _
  refine ⟨w.heap.size, rfl, ?_, Nat.le_refl _, ?_⟩
  · refine chg_below (R := [(w1.heap.size, 0, 5), (w.heap.size, 0, text.length), (w.heap.size, text.length, 16)]) ((chg_sub HC5.out fun r hr => ?_).trans (chg_sub H6.out fun r hr => ?_)) fun r hr => ?_
    · simp only [List.mem_cons, List.not_mem_nil, or_false] at hr ⊢
      rcases hr with rfl | rfl
      · exact .inl rfl
      · exact .inr (.inl rfl)
    · simp only [List.mem_cons, List.not_mem_nil, or_false] at hr ⊢
      rcases hr with rfl | rfl
      · exact .inl rfl
      · exact .inr (.inr rfl)
    · simp only [List.mem_cons, List.not_mem_nil, or_false] at hr
      rcases hr with rfl | rfl | rfl
      · show w.heap.size ≤ w1.heap.size; omega
      · exact Nat.le_refl _
      · exact Nat.le_refl _
  · rw [vals_append]
    refine At.append.2 ⟨H6.out.at HO5.out fun r hr => ?_, ?_⟩
    · simp only [List.mem_cons, List.not_mem_nil, or_false] at hr
      rcases hr with rfl | rfl
      · exact .inl (by show w1.heap.size ≠ _; omega)
      · exact .inr (.inr (by show 0 + (vals _).length ≤ text.length; rw [vals_length, hcl]; omega))
    · rw [vals_length, hcl, Nat.zero_add]
      exact HO6.out
end Go.Proofs.YtfilandehjmikaaDoor.Asc
