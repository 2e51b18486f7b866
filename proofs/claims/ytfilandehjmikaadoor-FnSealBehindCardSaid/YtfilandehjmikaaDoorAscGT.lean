/- slices.Clone once more, with all that its block holds; room behind a copy; the thin package's Seal behind anything. No condition. -/
import Derived.Test.YtfilandehjmikaaDoorAscGS
import Derived.Test.YtfilandehjmikaaDoorAscH
import Derived.Lib.AppendZeros
namespace Go.Proofs.YtfilandehjmikaaDoor.Asc
open Go.RowKit Go.Proofs.YtfilandehjmikaaDoor.Sx

/-- A block of its own: these bytes, and zeros up to its end. -/
def OwnZ (w0 w : World) (g cap : Nat) (v : Value) (l : List B8) : Prop :=
  v = .slice (some ⟨g, 0, none⟩) l.length cap ∧ l.length ≤ cap ∧ cap ≤ maxLen ∧ w0.heap.size ≤ g ∧ w.heap[g]? = some (.cells (vals l ++ zer (cap - l.length)).toArray 5 (0, 0))
theorem zeroCells_u8 (n : Nat) : Builtin.zeroCells (Value.int .u8 0).cells n = (zer n).toArray := by
  apply Array.ext
  · simp [Builtin.zeroCells, zer, Value.cells]
  · intro j h1 h2
    simp [Builtin.zeroCells, zer, Value.cells, Nat.mod_one]
theorem wpList_clone {w w0 : World} {ops : Array Oper} {rest : List Oper} {o : Oper} {a : Act} {Q : Exit → Act → World → Prop} (hgd : o.guard = none) (s x : Operand)
    (ho : o.op = .call { callee := .builtin .append, args := #[s, x], argTypes := #[22, 22] }) (g0 : Nat) (src : Addr) (c : Nat) (l : List B8) (hs : a.eval s = .slice (some ⟨g0, 0, none⟩) 0 0) (hx : a.eval x = .slice (some src) l.length c)
    (hc : ∀ j u, (vals l)[j]? = some u → w.cell? (src.add j) = some u) (hl : l.length ≤ 1048576) (hg0 : w.heap[g0]? = some (.cells #[] 5 (0, 0))) (hb : Below w0.heap.size w0 w) (hg : w0.heap.size ≤ g0)
    (h : ∀ v' w', Hid (∃ g cap, OwnZ w0 w' g cap v' l) → Hid (Below w0.heap.size w0 w') → wpList Tryd.prog ops Q rest (a.put o.dst v') w') : wpList Tryd.prog ops Q (o :: rest) a w := by
  obtain ⟨i, h1, h2, h3, h4⟩ := info5
  have hsrc : Src Tryd.prog i.size 22 (.slice (some src) l.length c) l.length (vals l) w := by
    rw [h3]; exact Src.ofSlice w bund22 src l.length c (vals l) (by rw [vals_length, Nat.mul_one]) hc (vals_one l)
  by_cases h0 : l.length = 0
  · have hl0 := List.length_eq_zero_iff.1 h0
    subst hl0
    refine Lib.wpList_append_run w hgd s x 22 22 ho _ _ hs hx (.slice (some ⟨g0, 0, none⟩) 0 0) w ?_ (h _ _ ⟨g0, 0, rfl, Nat.le_refl _, Nat.zero_le _, hg, hg0⟩ hb)
    have := run_append_room_src (P := Tryd.prog) w 22 22 o.type 5 i bund22 h1 g0 0 0 0 _ _ _ hsrc (Nat.le_refl _) (fun j hj => absurd hj (Nat.not_lt_zero _)) (fun j hj => absurd hj (Nat.not_lt_zero _))
    exact this
  · have hgr := run_append_grow_src (P := Tryd.prog) w 22 22 o.type 5 i (.int .u8 0) bund22 h1 h2 (some ⟨g0, 0, none⟩) 0 0 [] (by rw [h3]; exact run_firstCells_some _ _ _ _ _ _ _ rfl (fun _ _ h => nomatch h)) _ l.length (vals l) hsrc
      (by omega) (by omega) (growslice_fits (by omega) (by rw [h4]; omega))
    rw [Nat.zero_add] at hgr
    have hge := grownCap_ge w l.length 0 5
    have hcm : grownCap w l.length 0 5 ≤ maxLen := grownCap_le_maxLen w _ 0 5 (by simp only [maxLen]; omega)
    generalize grownCap w l.length 0 5 = cap at hgr hge hcm
    rw [zeroCells_u8, List.nil_append, show (vals l).toArray ++ (zer (cap - l.length)).toArray = (vals l ++ zer (cap - l.length)).toArray by apply Array.ext'; simp] at hgr
    refine Lib.wpList_append_run w hgd s x 22 22 ho _ _ hs hx _ _ hgr (h _ _ ⟨w.heap.size, cap, rfl, hge, hcm, hb.size, ?_⟩ (hb.trans ⟨rfl, rfl, rfl, by simp, fun k hk => ?_⟩))
    · show (w.drew.heap.push _)[w.drew.heap.size]? = _
      exact Array.getElem?_push_size
    · exact Below.heap_alloc w.drew _ _ (show k < w.drew.heap.size from Nat.lt_of_lt_of_le hk hb.size)
theorem run_eqnil (w : World) (a : Addr) (n c : Nat) : (binOp .eql 22 (.slice (some a) n c) (.slice none 0 0)).run Tryd.prog w = .ok (.bool false) w := by
  show (do pure (Value.bool (← Op.equal 22 (.slice (some a) n c) (.slice none 0 0))) : Sem Value).run Tryd.prog w = _
  simp only [Sem.run_bind, run_equal_nil bund22, Result.andThen_ok, Sem.run_pure]
set_option maxHeartbeats 400000 in
theorem clone_own {l : List B8} {n : Nat} (hn : l.length = n) (hl : n ≤ 1048576) {w : World} {src : Addr} {c : Nat} (hc : ∀ j u, (vals l)[j]? = some u → w.cell? (src.add j) = some u) :
    Calls Tryd.prog 24 #[.slice (some src) n c] w fun e w' => ∃ g cap v, e = .returned v ∧ Below w.heap.size w w' ∧ OwnZ w w' g cap v l := by
  have heq := run_eqnil
  have HC := Lib.hid hc; clear hc
  have HN := Lib.hid hn; clear hn
  go_enter Tryd.func24, Tryd.ntmps24
  go_wp2_with (at_builtin; (with_reducible refine wpList_clone (w0 := w) rfl _ _ rfl w.heap.size src c l rfl ?_ ?_ ?_ ?_ ?_ ?_ ?_))
  · rw [HN.out]; rfl
  · intro j u hu
    rw [World.cell?_alloc_lt _ _ _ (by have := cell_lt (HC.out j u hu); exact this)]
    exact HC.out j u hu
  · rw [HN.out]; exact hl
  · show (w.heap.push _)[w.heap.size]? = _
    simp
  · exact (Below.refl _ _).alloc (Nat.le_refl _) _
  · exact Nat.le_refl _
  intro v' w' HO HB
  go_wp2_with (fail)
  go_ret
  obtain ⟨g, cap, ho⟩ := HO.out
  exact ⟨g, cap, _, rfl, HB.out, ho⟩
theorem OwnZ.at {w0 w : World} {g cap : Nat} {v : Value} {l : List B8} (h : OwnZ w0 w g cap v l) : At w g 0 (vals l ++ zer (cap - l.length)) ∧ Thaw w g 0 cap ∧ g < w.heap.size := by
  obtain ⟨_, h2, _, _, h5⟩ := h
  refine ⟨fun j x hx => ?_, fun j hj => ?_, ?_⟩
  · simp only [World.cell?, h5, Nat.zero_add]
    simpa using hx
  · simp [World.frozen?, h5]
  · rcases Nat.lt_or_ge g w.heap.size with h | h
    · exact h
    · rw [Array.getElem?_eq_none h] at h5; cases h5
theorem OwnZ.sl {w0 w : World} {g cap : Nat} {v : Value} {l : List B8} (h : OwnZ w0 w g cap v l) : SlV w v (vals l) := by
  rw [h.1, show l.length = (vals l).length from (vals_length l).symm]
  exact SlV.mk (At.append.1 h.at.1).1 (by rw [vals_length]; exact h.2.1)
theorem OwnZ.below {w0 w w' : World} {g cap : Nat} {v : Value} {l : List B8} (h : OwnZ w0 w g cap v l) (hb : Below w.heap.size w w') : OwnZ w0 w' g cap v l :=
  ⟨h.1, h.2.1, h.2.2.1, h.2.2.2.1, by rw [hb.block g h.at.2.2]; exact h.2.2.2.2⟩
set_option maxHeartbeats 400000 in
theorem sfa_at {w : World} {g len cap n : Nat} (hlen : len ≤ 1099511627776) (hn : n ≤ 1099511627776) (hfit : len + n ≤ cap) (_hm : cap ≤ maxLen) :
    Calls Tryd.prog 31 #[.slice (some ⟨g, 0, none⟩) len cap, .int .i64 (n : Int)] w fun e w' => e = .returned (.tuple #[.slice (some ⟨g, 0, none⟩) (len + n) cap, .slice (some ⟨g, if len = cap then 0 else len, none⟩) n (cap - len)]) ∧ w = w' := by
  unfold maxLen at _hm
  go_enter Tryd.func31, Tryd.ntmps31
  go_wp2
  all_goals go_ret2
  all_goals first | exact ⟨by simp, rfl⟩ | (rw [if_pos (by omega : len = cap)]; exact ⟨by simp, rfl⟩) | (rw [if_neg (by omega : ¬ len = cap)]; exact ⟨by simp, rfl⟩)
/-- Room for n bytes behind a copy: in its block, or in a new one. -/
theorem sfa_room {w0 w : World} {g0 cap0 : Nat} {v : Value} {pre : List B8} (h : OwnZ w0 w g0 cap0 v pre) (hp : pre.length ≤ 1048576) (hw : w0.heap.size ≤ w.heap.size) (n : Nat) (hn : n ≤ 1048592) :
    ∃ (g o cap : Nat), pre.length + n ≤ cap ∧ w0.heap.size ≤ g ∧ (g = w.heap.size ∨ g = g0) ∧ (o = pre.length ∨ n = 0 ∧ o = 0) ∧
      ∀ x : Int, x = (n : Int) → Calls Tryd.prog 31 #[v, .int .i64 x] w (SfaR w (.slice (some ⟨g, 0, none⟩) (pre.length + n) cap) pre g o n) := by
  obtain ⟨hat, hth, hg⟩ := h.at
  obtain ⟨rfl, h2, h3, h4, h5⟩ := h
  have hap := At.append.1 hat
  by_cases hfit : pre.length + n ≤ cap0
  · refine ⟨g0, if pre.length = cap0 then 0 else pre.length, cap0, hfit, h4, .inr rfl, (by split <;> omega), fun x hx => ?_⟩
    subst hx
    refine (sfa_at (by omega) (by omega) hfit h3).mono fun e w1 ⟨he, hw1⟩ => ?_
    subst hw1
    refine ⟨cap0 - pre.length, zer n, he, by omega, Below.refl _ _, by simp [zer], fun x hx => by rw [(List.mem_replicate.1 hx).2]; rfl, fun j v hv => ?_, fun j hj => ?_, hg, hap.1⟩
    · have hj := (List.getElem?_eq_some_iff.1 hv).1
      simp [zer] at hj
      rw [if_neg (by omega : ¬ pre.length = cap0)]
      have := hap.2 j v (by
        simp only [zer, List.getElem?_replicate] at hv ⊢
        rw [if_pos (by omega)] at hv ⊢
        exact hv)
      rwa [vals_length, Nat.zero_add] at this
    · rw [if_neg (by omega : ¬ pre.length = cap0)]
      have := hth (pre.length + j) (by omega)
      rwa [Nat.zero_add] at this
  · refine ⟨w.heap.size, pre.length, pre.length + n, Nat.le_refl _, hw, .inl rfl, .inl rfl, fun x hx => ?_⟩
    subst hx
    refine (sfa_new (cs := vals pre) (by omega) (by omega) h2 h3 (by omega) (vals_length _) (fun _ => ⟨_, rfl, fun j v hv => by rw [Addr.add_lit]; exact hap.1 j v hv⟩) (vals_one pre)).mono fun e w' ⟨he, hb, hgz⟩ => ?_
    have hg' : w'.heap[w.heap.size]? = some (.cells (splice (zer (pre.length + n)) 0 (vals pre)).toArray 5 (0, 0)) := hgz
    have hz : splice (zer (pre.length + n)) 0 (vals pre) = vals pre ++ zer n := by simp [splice, zer, vals_length]
    rw [hz] at hg'
    have hlt : w.heap.size < w'.heap.size := by
      rcases Nat.lt_or_ge w.heap.size w'.heap.size with h | h
      · exact h
      · rw [Array.getElem?_eq_none h] at hg'; cases hg'
    have hall : At w' w.heap.size 0 (vals pre ++ zer n) := fun j v hv => by
      simp only [World.cell?, hg', Nat.zero_add]
      simpa using hv
    have hap' := At.append.1 hall
    rw [vals_length, Nat.zero_add] at hap'
    refine ⟨n, zer n, he, Nat.le_refl _, hb, by simp [zer], fun x hx => by rw [(List.mem_replicate.1 hx).2]; rfl, hap'.2, fun j _ => by simp [World.frozen?, hg'], hlt, hap'.1⟩
/-- A copy: nothing, or a block of its own. -/
def CopyZ (w0 w : World) (v : Value) (l : List B8) : Prop := (v = .slice none 0 0 ∧ l = []) ∨ ∃ g cap, OwnZ w0 w g cap v l
theorem CopyZ.below {w0 w w' : World} {v : Value} {l : List B8} (h : CopyZ w0 w v l) (hb : Below w.heap.size w w') : CopyZ w0 w' v l := by
  rcases h with h | ⟨g, cap, h⟩
  · exact .inl h
  · exact .inr ⟨g, cap, h.below hb⟩
theorem clone_any {l : List B8} (hl : l.length ≤ 1048576) {w : World} {v : Value} (hs : SlV w v (vals l)) :
    Calls Tryd.prog 24 #[v] w fun e w' => ∃ v', e = .returned v' ∧ Below w.heap.size w w' ∧ CopyZ w w' v' l := by
  rcases hs with ⟨rfl, h⟩ | ⟨a, cap, rfl, h2, h3⟩
  · exact clone_nil.mono fun e w' ⟨he, hb⟩ => ⟨_, he, hb, .inl ⟨rfl, by simpa [vals] using h⟩⟩
  · rw [vals_length]
    exact (clone_own rfl hl h3).mono fun e w' ⟨g, cap', v', he, hb, ho⟩ => ⟨v', he, hb, .inr ⟨g, cap', ho⟩⟩
/-- A copy that lies in no block that was there. -/
theorem clone_far {l : List B8} {n : Nat} (hn : l.length = n) (hl : n ≤ 1048576) {w : World} {v : Value} (hs : SlV w v (vals l)) :
    Calls Tryd.prog 24 #[v] w fun e w' => ∃ a cap, e = .returned (.slice a n cap) ∧ Below w.heap.size w w' ∧ SlV w' (.slice a n cap) (vals l) ∧ ∀ b, b < w.heap.size → NotAt (.slice a n cap) b := by
  subst hn
  refine (clone_any hl hs).mono fun e w' ⟨v', he, hb, hc⟩ => ?_
  rcases hc with ⟨rfl, rfl⟩ | ⟨g, cap, ho⟩
  · exact ⟨none, 0, he, hb, .inl ⟨rfl, rfl⟩, fun b _ b' o n c e => by cases e⟩
  · have hv := ho.1
    have := ho.sl
    rw [hv] at he this
    exact ⟨_, cap, he, hb, this, fun b hlt b' o n c e _ => by
      have := ho.2.2.2.1
      simp only [Value.slice.injEq, Option.some.injEq, Addr.mk.injEq] at e
      omega⟩
theorem room_any {w0 w : World} {v : Value} {pre : List B8} {B : Nat} (h : CopyZ w0 w v pre) (hB : ∀ g cap, OwnZ w0 w g cap v pre → g < B) (hp : pre.length ≤ 1048576) (hw : w0.heap.size ≤ w.heap.size) (n : Nat) (hn : n ≤ 1048592) (h0 : 0 < n) :
    ∃ (g cap : Nat), pre.length + n ≤ cap ∧ w0.heap.size ≤ g ∧ (g = w.heap.size ∨ g < B) ∧
      ∀ x : Int, x = (n : Int) → Calls Tryd.prog 31 #[v, .int .i64 x] w (SfaR w (.slice (some ⟨g, 0, none⟩) (pre.length + n) cap) pre g pre.length n) := by
  rcases h with ⟨rfl, rfl⟩ | ⟨g0, cap0, ho⟩
  · refine ⟨w.heap.size, n, by simp, hw, .inl rfl, fun x hx => ?_⟩
    refine (sfa_row (by omega) h0 x hx).mono fun e w1 ⟨he, hb, hz, ht, hlt⟩ => ?_
    refine ⟨n, zer n, by rw [he]; simp, Nat.le_refl _, hb, by simp [zer], fun x hx => by rw [(List.mem_replicate.1 hx).2]; rfl, hz, ht, hlt, fun j v hv => nomatch hv⟩
  · obtain ⟨g, o, cap, h1, h2, h3, h4, h5⟩ := sfa_room ho hp hw n hn
    obtain rfl : o = pre.length := by omega
    refine ⟨g, cap, h1, h2, ?_, h5⟩
    rcases h3 with rfl | rfl
    · exact .inl rfl
    · exact .inr (hB _ _ ho)
def ISealG (w : World) (k n : Nat) (dst l : List B8) (e : Ending) (w' : World) : Prop :=
  ∃ g cap, e = .returned (.tuple #[.slice (some ⟨g, 0, none⟩) (k + (n + 16)) cap, .bool true]) ∧ k + (n + 16) ≤ cap ∧ Below w.heap.size w w' ∧ w.heap.size ≤ g ∧ At w' g 0 (vals (dst ++ l)) ∧ Thaw w' g k (n + 16)
set_option maxHeartbeats 1000000 in
theorem iseal_gen {m k n : Nat} (hm : m ≤ 2) {key nonce text data dst : List B8} (hk : key.length = klen m) (hn : nonce.length = 16) (htn : text.length = n) (htl : n ≤ 1048576) (hdl : data.length ≤ 1048576) (hdk : dst.length = k) (hkl : k ≤ 1048576) {w : World} {xv kv nv tv dv : Value}
    (hxv : SlV w xv (vals dst)) (hkv : SlV w kv (vals key)) (hs : SlV w nv (vals nonce)) (ht : SlV w tv (vals text)) (hd : SlV w dv (vals data)) :
    Calls Tryd.prog 15 #[.int .i64 (m : Int), xv, kv, nv, tv, dv] w (ISealG w k n dst (sealB m key nonce text data)) := by
  obtain ⟨na, ncap, hnv⟩ := slV_shape hs
  rw [hn] at hnv
  subst hnv
  have h20 := klen_le m
  have Hs := Lib.hid hs; clear hs
  have Ht := Lib.hid ht; clear ht
  have Hd := Lib.hid hd; clear hd
  have Hx := Lib.hid hxv; clear hxv
  have Hkv := Lib.hid hkv; clear hkv
  have Hk := Lib.hid hk; clear hk
  have Hn := Lib.hid hn; clear hn
  have Htn := Lib.hid htn; clear htn
  have Hdk := Lib.hid hdk; clear hdk
  go_enter Tryd.func15, Tryd.ntmps15
  go_wp2_with (fail)
  refine (cipher_calls hm Hk.out Hkv.out).mono ?_
  rintro e w1 ⟨cb, co, rfl, hb1, hcb, hc1⟩
  have HB1 := Lib.hid hb1; clear hb1
  have HC1 := Lib.hid hc1; clear hc1
  have Hcb := Lib.hid hcb; clear hcb
  go_wp2_with (fail)
  refine (clone_any (by rw [Hdk.out]; exact hkl) (Hx.out.below HB1.out)).mono ?_
  rintro e w2 ⟨x2, rfl, hb2, hx2⟩
  have B2 := Lib.hid hb2
  have HB2 := Lib.hid (HB1.out.trans (hb2.mono HB1.out.size)); clear hb2
  have HX2 := Lib.hid hx2; clear hx2
  go_wp2_with (fail)
  refine (clone_n Hn.out (by decide) (Hs.out.below HB2.out)).mono ?_
  rintro e w3 ⟨na', ncap', rfl, hb3, hs3⟩
  have B3 := Lib.hid hb3
  have HB3 := Lib.hid (HB2.out.trans (hb3.mono HB2.out.size)); clear hb3
  have HS3 := Lib.hid hs3; clear hs3
  go_wp2_with (fail)
  refine (clone_far Htn.out htl (Ht.out.below HB3.out)).mono ?_
  rintro e w4 ⟨ta', tcap', rfl, hb4, ht4, hf4⟩
  have B4 := Lib.hid hb4
  have HB4 := Lib.hid (HB3.out.trans (hb4.mono HB3.out.size)); clear hb4
  have HT4 := Lib.hid ht4; clear ht4
  have HF4 := Lib.hid hf4; clear hf4
  go_wp2_with (fail)
  refine (clone_sl hdl (Hd.out.below HB4.out)).mono ?_
  rintro e w5 ⟨da', dcap', rfl, hb5, hd5⟩
  have B5 := Lib.hid hb5
  have HB5 := Lib.hid (HB4.out.trans (hb5.mono HB4.out.size)); clear hb5
  have HD5 := Lib.hid hd5; clear hd5
  have B25 : Below w2.heap.size w2 w5 := (B3.out.trans (B4.out.mono B3.out.size)).trans (B5.out.mono (Nat.le_trans B3.out.size B4.out.size))
  obtain ⟨g, cap, hcap, hg1, hg2, hsfa⟩ := room_any (B := w2.heap.size) (HX2.out.below B25) (fun g cap ho => by
    rcases HX2.out with ⟨hv, _⟩ | ⟨g', cap', ho'⟩
    · rw [hv] at ho; exact absurd ho.1 (by intro e; cases e)
    · have h1 := ho.1; rw [ho'.1] at h1
      simp only [Value.slice.injEq, Option.some.injEq, Addr.mk.injEq] at h1
      rw [← h1.1.1]; exact ho'.at.2.2) (by rw [Hdk.out]; exact hkl) (Nat.le_trans B2.out.size B25.size) (n + 16) (by omega) (by omega)
  have HSF := Lib.hid hsfa; clear hsfa
  have hcb1 : cb < w1.heap.size := at_lt HC1.out (by simp [cVals])
  have hs25 : w2.heap.size ≤ w5.heap.size := B25.size
  have hs12 : w1.heap.size ≤ w2.heap.size := B2.out.size
  have hs23 : w2.heap.size ≤ w3.heap.size := B3.out.size
  have hs01 : w.heap.size ≤ w1.heap.size := HB1.out.size
  have Hgg := Lib.hid hg2; clear hg2
  have Hcc := Lib.hid hcap; clear hcap
  have HB25 := Lib.hid B25; clear B25
  go_wp2_with (fail)
  refine (gseal (g := g) (o := dst.length) (pre := dst) (head := .slice (some ⟨g, 0, none⟩) (dst.length + (n + 16)) cap) hm Hk.out Hn.out (by rw [Htn.out]; exact htl) hdl rfl (by rw [Htn.out]; exact fun x hx => HSF.out x (by rw [hx]; simp)) ((HC1.out.below B2.out).below HB25.out) ((HS3.out.below B4.out).below B5.out) (by have := HT4.out.below B5.out; exact this) HD5.out (by omega) (by
    rcases Hgg.out with h | h
    · rw [h]; exact notAt_new (HT4.out.below B5.out) (Nat.le_refl _)
    · exact HF4.out g (by omega))).mono ?_
  rintro e w6 ⟨rfl, hc6, ha6, ht6⟩
  rw [sealB_length, Htn.out, Hdk.out] at ht6
  have HC6 := Lib.hid hc6; clear hc6
  have HA6 := Lib.hid ha6; clear ha6
  have HT6 := Lib.hid ht6; clear ht6
  go_wp2_with (fail)
  go_ret2
  refine ⟨g, cap, by rw [Hdk.out]; rfl, by rw [← Hdk.out]; exact Hcc.out, ?_, by omega, HA6.out, HT6.out⟩
  exact chg_below ((Chg.of_below HB5.out).trans HC6.out) fun r hr => by
    rw [List.mem_singleton] at hr
    subst hr
    show w.heap.size ≤ g
    omega
end Go.Proofs.YtfilandehjmikaaDoor.Asc
