/- append of zeros (a slice that is made just for it) over the abstract memory. No condition. -/
import Derived.Test.YtfilandehjmikaaDoorSxN
import Derived.Lib.AppendZerosOnto
namespace Go.Proofs.YtfilandehjmikaaDoor.Sx
open Go.RowKit

/-- What a second argument of append yields, whatever its form: both arms of append over it. -/
structure SrcA (P : Program) (t tx ty e : TypeId) (z : Value) (x : Value) (news : List Value) (w : World) : Prop where
  grow : ∀ (base : Option Addr) (sCap : Nat) (olds : List Value), (Builtin.firstCells 1 olds.length (.slice base olds.length sCap)).run P w.drew = .ok olds.toArray w.drew → sCap < olds.length + news.length → olds.length + news.length ≤ 2199023255552 →
    (Builtin.append_ #[t, tx] ty #[.slice base olds.length sCap, x]).run P w = .ok (.slice (some ⟨w.heap.size, 0, none⟩) (olds.length + news.length) (grownCap w (olds.length + news.length) sCap e))
      (w.drew.alloc (.cells ((olds ++ news).toArray ++ Builtin.zeroCells z.cells (grownCap w (olds.length + news.length) sCap e - (olds.length + news.length))) e))
  room : ∀ (b sLen sCap : Nat), sLen + news.length ≤ sCap → (∀ j, j < news.length → (w.cell? ⟨b, sLen + j, none⟩).isSome = true) → (∀ j, j < news.length → w.frozen? ⟨b, sLen + j, none⟩ = false) →
    (Builtin.append_ #[t, tx] ty #[.slice (some ⟨b, 0, none⟩) sLen sCap, x]).run P w = .ok (.slice (some ⟨b, 0, none⟩) (sLen + news.length) sCap) (w.setCells b sLen news)

section
variable {E : Env} {bl : Bl} {w0 w : World} {m : List MB}
theorem append_growA {P : Program} {t tx ty e : TypeId} {z : Value} (hz1 : z.cells.size = 1)
    (hm : MRel E bl w0 m w) {d : Option Nat} {r : Nat} {c : List AC}
    {base : Option Addr} {sCap : Nat} {olds news : List Value} (hold : (Builtin.firstCells 1 olds.length (.slice base olds.length sCap)).run P w.drew = .ok olds.toArray w.drew) {x : Value} (hs : SrcA P t tx ty e z x news w)
    (hg : sCap < olds.length + news.length) (hle : olds.length + news.length ≤ 2199023255552) (hc : rowOf E r ++ c.map (AC.den E bl) = olds ++ news) (hwf : c.all (AC.wf m.length) = true) (hlen : (⟨r, c.length⟩ : AN).val E = olds.length + news.length) :
    ∃ bl' w', (Builtin.append_ #[t, tx] ty #[.slice base olds.length sCap, x]).run P w = .ok ((AC.dy m.length r 0 ⟨r, c.length⟩).den E bl') w' ∧ Agree m.length bl bl' ∧ MRel E bl' w0 (killO m d ++ [newMB r c, capMB]) w' := by
  have hr := hs.grow base sCap olds hold hg hle
  have hge := grownCap_ge w (olds.length + news.length) sCap e
  have hcm : grownCap w (olds.length + news.length) sCap e ≤ maxLen := grownCap_le_maxLen w _ sCap e (by simp only [maxLen]; omega)
  generalize grownCap w (olds.length + news.length) sCap e = cap at hr hge hcm
  have hcl : (rowOf E r).length + c.length = olds.length + news.length := by
    have := congrArg List.length hc
    simpa using this
  refine ⟨addBl2 bl m.length w.heap.size (rowOf E r).length cap, _, ?_, addBl2_agree bl m.length w.heap.size (rowOf E r).length cap, MRel.grow hm.drew (w' := w.drew.alloc (.cells ((olds ++ news).toArray ++ Builtin.zeroCells z.cells (cap - (olds.length + news.length))) e)) (killO_length m d) (fun i b' hb' => ?_) rfl rfl rfl
    (by simp) (by simp) (by simpa using hm.size) (fun k hk _ => by simpa using Below.heap_alloc w.drew _ _ (show k < w.drew.heap.size by simpa using hk)) (fun i b hb hl => ?_) hwf (fun j v hv => ?_) (fun j hj => ⟨?_, World.frozen?_alloc_new _ _ _ _⟩) (by omega) hcm⟩
  · rw [hr]
    simp only [AC.den, addBl2_at, addBl2_cap, Nat.sub_self, Nat.add_zero, Nat.sub_zero, hlen]
  · obtain ⟨b, h1, h2, h3, h4, h5, h6⟩ := killO_get hb'
    exact ⟨b, h1, h2, h3, h4, h5, fun e => (h6 e).1⟩
  · obtain ⟨b', h1, _⟩ := killO_get hb
    have := hm.lt i b' h1
    omega
  · rw [hc] at hv
    have : w.drew.heap.size = w.heap.size := rfl
    rw [← this, World.cell?_alloc_new]
    have hj : j < (olds ++ news).length := (List.getElem?_eq_some_iff.1 hv).1
    rw [Array.getElem?_append_left (by simpa using hj)]
    simpa using hv
  · have : w.drew.heap.size = w.heap.size := rfl
    rw [← this, World.cell?_alloc_new]
    have hsz : ((olds ++ news).toArray ++ Builtin.zeroCells z.cells (cap - (olds.length + news.length))).size = cap := by
      simp only [Array.size_append, List.size_toArray, List.length_append, size_zeroCells, hz1]
      omega
    rw [Array.getElem?_eq_getElem (by rw [hsz]; exact hj)]
    rfl
theorem append_roomA {P : Program} {t tx ty e : TypeId} {z : Value} (hE : EnvOk E)
    (hm : MRel E bl w0 m w) {b : Nat} {mb : MB} (hb : m[b]? = some mb) (hl : mb.live = true) (how : mb.own = true) (hso : mb.solo = true) {r : Nat} {c : List AC}
    {news : List Value} {x : Value} (hs : SrcA P t tx ty e z x news w) (hroom : mb.lo E + mb.cs.length + news.length ≤ (bl (b + 1)).2)
    (hc : rowOf E r ++ c.map (AC.den E bl) = (rowOf E mb.row ++ mb.cs.map (AC.den E bl)) ++ news) (hwf : c.all (AC.wf m.length) = true) :
    ∃ bl' w', (Builtin.append_ #[t, tx] ty #[.slice (some ⟨(bl b).1, 0, none⟩) (mb.lo E + mb.cs.length) (bl (b + 1)).2, x]).run P w = .ok ((AC.dy m.length r 0 ⟨r, c.length⟩).den E bl') w' ∧ Agree m.length bl bl' ∧
      MRel E bl' w0 (killO m (some b) ++ [newMB r c, capMB]) w' := by
  obtain ⟨h1, h2, h3, h4, h5, h6⟩ := hm.solo b mb hb hl hso
  have hr := hs.room (bl b).1 (mb.lo E + mb.cs.length) (bl (b + 1)).2 hroom (fun j hj => (h5 _ (by omega)).1) (fun j hj => (h5 _ (by omega)).2)
  have hcl : (rowOf E r).length + c.length = mb.lo E + mb.cs.length + news.length := by
    have := congrArg List.length hc
    simp only [List.length_append, List.length_map] at this
    unfold MB.lo
    omega
  have hold : ∀ (j : Nat) (v : Value), (rowOf E mb.row ++ mb.cs.map (AC.den E bl))[j]? = some v → w.cell? ⟨(bl b).1, j, none⟩ = some v := fun j v hv => by
    by_cases hj : j < (rowOf E mb.row).length
    · rw [List.getElem?_append_left hj] at hv
      have := hm.rowc b mb j v hb hl hv
      rw [h2, Nat.sub_self, Nat.zero_add] at this
      exact this
    · rw [List.getElem?_append_right (by omega), List.getElem?_map] at hv
      cases hy : mb.cs[j - (rowOf E mb.row).length]? with
      | none => rw [hy] at hv; cases hv
      | some y =>
        rw [hy] at hv; cases hv
        have := hm.cell b mb _ y hb hl hy
        rw [← this]
        simp only [at_]
        congr 2
        rw [h2]; unfold MB.lo; omega
  have hblt := hm.lt b mb hb
  have hsz : (w.setCells (bl b).1 (mb.lo E + mb.cs.length) news).heap.size = w.heap.size := setCells_size _ _ _ _
  refine ⟨addBl2 bl m.length (bl b).1 (rowOf E r).length (bl (b + 1)).2, _, ?_, addBl2_agree bl m.length (bl b).1 (rowOf E r).length (bl (b + 1)).2,
    MRel.grow hm (w' := w.setCells (bl b).1 (mb.lo E + mb.cs.length) news) (killO_length m (some b)) (fun i b' hb' => ?_) (World.os_setCells ..) ?_ (World.output_setCells ..) (by omega) (by omega) (hm.new b mb hb how)
    (fun k hk hne => World.heap_setCells_other w _ _ _ hk hne) (fun i b' hb' hl' => ?_) hwf (fun j v hv => ?_) (fun j hj => ?_) (by omega) h4⟩
  · rw [hr]
    simp only [AC.den, addBl2_at, addBl2_cap, Nat.sub_self, Nat.add_zero, Nat.sub_zero, rowVal hE, hcl]
  · obtain ⟨b1, f1, f2, f3, f4, f5, f6⟩ := killO_get hb'
    exact ⟨b1, f1, f2, f3, f4, f5, fun e => (f6 e).1⟩
  · exact setCells_tape _ _ _ _
  · obtain ⟨b1, f1, _, _, _, _, f6⟩ := killO_get hb'
    obtain ⟨f7, f8⟩ := f6 hl'
    subst f7
    exact h6 i b' (fun e => f8 (by rw [e])) f1 hl'
  · rw [hc] at hv
    by_cases hj : j < mb.lo E + mb.cs.length
    · rw [World.cell?_setCells_out _ _ _ _ _ (fun _ _ => .inl hj)]
      rw [List.getElem?_append_left (by simp only [List.length_append, List.length_map]; exact hj)] at hv
      exact hold j v hv
    · have hj' : (rowOf E mb.row ++ mb.cs.map (AC.den E bl)).length = mb.lo E + mb.cs.length := by simp [MB.lo]
      rw [List.getElem?_append_right (by omega), hj'] at hv
      have hlt : j - (mb.lo E + mb.cs.length) < news.length := (List.getElem?_eq_some_iff.1 hv).1
      have := World.cell?_setCells_in (bl b).1 news (mb.lo E + mb.cs.length) w (fun q hq => (h5 _ (by omega)).1) (j - (mb.lo E + mb.cs.length)) hlt
      rw [show mb.lo E + mb.cs.length + (j - (mb.lo E + mb.cs.length)) = j by omega] at this
      rw [this, ← hv, List.getElem?_eq_getElem hlt]
  · rw [World.frozen?_setCells]
    refine ⟨?_, (h5 j hj).2⟩
    by_cases hin : mb.lo E + mb.cs.length ≤ j ∧ j < mb.lo E + mb.cs.length + news.length
    · have := World.cell?_setCells_in (bl b).1 news (mb.lo E + mb.cs.length) w (fun q hq => (h5 _ (by omega)).1) (j - (mb.lo E + mb.cs.length)) (by omega)
      rw [show mb.lo E + mb.cs.length + (j - (mb.lo E + mb.cs.length)) = j by omega] at this
      rw [this]; rfl
    · rw [World.cell?_setCells_out _ _ _ _ _ (fun _ _ => by simp only; omega)]
      exact (h5 j hj).1
theorem srcZeros {P : Program} {t tn ty e : TypeId} {i : TypeInfo} {z zd : Value} {kq kn : IntKind} (ht : P.underlying t = some (.slice e)) (htn : P.underlying tn = some (.int kn)) (hi : P.info? e = some i) (hz : i.zero = some z) (hs1 : i.size = 1) (hz1 : z.cells = #[zd]) (hzo : zd.oneCell' = true) (hby : i.bytes ≤ 16)
    (n : Nat) (h0 : 0 < n) (hn : n ≤ 4096) : SrcA P t tn ty e z (.int kq (n : Int)) (List.replicate n zd) w := by
  have hzc : Builtin.zeroCells z.cells n = (List.replicate n zd).toArray := by
    rw [hz1]
    apply Array.ext
    · simp [Builtin.zeroCells]
    · intro j h1 h2
      simp [Builtin.zeroCells, Nat.mod_one]
  refine ⟨fun base sCap olds hold hg hle => ?_, fun b sLen sCap hroom hc hf => ?_⟩
  · rw [List.length_replicate] at *
    have := Lib.run_append_grow_zeros (P := P) w t tn ty e i z kq kn ht htn hi hz base olds.length sCap olds (by rw [hs1]; exact hold) n h0 (by omega) hg (by omega) (by
      have := Nat.mul_le_mul hn hby; omega) (growslice_fits hg (by
      have := Nat.mul_le_mul (show olds.length + n ≤ 2199023255552 from hle) hby
      omega))
    rw [this, hzc, show olds.toArray ++ (List.replicate n zd).toArray = (olds ++ List.replicate n zd).toArray by apply Array.ext'; simp]
  · rw [List.length_replicate] at *
    have hst := run_storeCells_cells (P := P) b sLen (List.replicate n zd) 0 w (by simpa using hc) (by simpa using hf) (fun u hu => by rw [(List.mem_replicate.1 hu).2]; exact hzo)
    simp only [Nat.add_zero] at hst
    have hw : IntKind.i64.wrap (n : Int) = n := by rw [IntKind.wrap_i64]; omega
    have hneg : ¬ ((n : Int) < 0) := by omega
    have hnz : ¬ n = 0 := by omega
    have h48i : ¬ (281474976710656 < (n : Int) * (i.bytes : Int)) := by
      have := Nat.mul_le_mul hn hby
      rw [← Int.natCast_mul]
      omega
    simp [Builtin.append_, run_underlying ht, run_underlying htn, sizeOf, typeInfo, zeroValue, hi, hz, hs1, asInt, asIntOf, hw, hneg, hnz, h48i, hroom, hzc, Addr.add_lit, hst]
/-- append(s, make([]T, n)...): the number in the place of the slice. -/
def aAppendZ (P : Program) (m : List MB) (t tx : TypeId) (x y : AC) : Option (AC × List MB) :=
  match P.underlying t, P.underlying tx, litNat y with
  | some (.slice e), some (.int _), some n => match P.info? e, zeroA P e with
    | some i, some [z] => if Nat.beq i.size 1 && Nat.ble i.bytes 16 && Nat.ble n 4096 && z.one then
        match destOf m x with
        | some (some b, r, c) => if Nat.ble r 100 && Nat.ble c.length 1048576 then
            match n with
            | 0 => some (x, m)
            | _ => some (.dy m.length r 0 ⟨r, (c ++ List.replicate n z).length⟩, killO m (some b) ++ [newMB r (c ++ List.replicate n z), capMB])
          else none
        | _ => none
      else none
    | _, _ => none
  | _, _, _ => none
theorem aAppendZ_run {P : Program} (hE : EnvOk E) (hm : MRel E bl w0 m w) {t tx ty : TypeId} {x y r : AC} {m' : List MB} (h : aAppendZ P m t tx x y = some (r, m')) (hx : x.wf m.length = true) :
    ∃ bl' w', (Builtin.append_ #[t, tx] ty #[x.den E bl, y.den E bl]).run P w = .ok (r.den E bl') w' ∧ Agree m.length bl bl' ∧ MRel E bl' w0 m' w' ∧ r.wf m'.length = true ∧ m.length ≤ m'.length := by
  unfold aAppendZ at h
  split at h
  · rename_i e kn n ht htx hn
    split at h
    · rename_i i z hi hz
      split at h
      · rename_i hc
        simp only [Bool.and_eq_true, Nat.beq_eq, Nat.ble_eq] at hc
        obtain ⟨⟨⟨hs1, hby⟩, hn4⟩, hzo⟩ := hc
        obtain ⟨it, zv, h1, h2, h3, h4⟩ := zeroA_run (bl := bl) hE hz
        rw [hi] at h1; cases h1
        obtain ⟨kq, hy⟩ := litNat_den (E := E) (bl := bl) hn
        have hz1 : zv.cells = #[z.den E bl] := by rw [h3]; rfl
        split at h
        · rename_i b r1 c hd
          split at h
          · rename_i hc2
            simp only [Bool.and_eq_true, Nat.ble_eq] at hc2
            rcases destOf_den hE hm hd with ⟨_, h', _⟩ | ⟨b', mb, hb', hb, hl, how, hso, hrow, hcs, hxv⟩
            · cases h'
            · cases hb'
              obtain ⟨q1, q2, q3, q4, q5, q6⟩ := hm.solo b mb hb hl hso
              split at h
              · cases h
                refine ⟨bl, w, ?_, Agree.refl _ _, hm, hx, Nat.le_refl _⟩
                rw [hy, hxv]
                have hw : IntKind.i64.wrap (0 : Int) = 0 := by rw [IntKind.wrap_i64]; rfl
                simp [Builtin.append_, run_underlying ht, run_underlying htx, sizeOf, typeInfo, hi, asInt, asIntOf, hw, q3, storeCells]
              · rename_i n' hn0
                have hpos : 0 < n := Nat.pos_of_ne_zero hn0
                cases h
                have hsrc := srcZeros (w := w) (ty := ty) (kq := kq) ht htx hi h2 hs1 hz1 (AC.den_one hE bl hzo) hby n hpos hn4
                have hwf1 : mb.cs.all (AC.wf m.length) = true := List.all_eq_true.2 fun q hq => hm.wf b mb hb hl q hq
                have hwfz : z.wf m.length = true := List.all_eq_true.1 (h4 m.length) z (by simp)
                have hwf : (c ++ List.replicate n z).all (AC.wf m.length) = true := by
                  rw [List.all_append, ← hcs, hwf1]
                  exact List.all_eq_true.2 fun q hq => by rw [(List.mem_replicate.1 hq).2]; exact hwfz
                have hcont : rowOf E r1 ++ (c ++ List.replicate n z).map (AC.den E bl) = (rowOf E mb.row ++ mb.cs.map (AC.den E bl)) ++ List.replicate n (z.den E bl) := by
                  rw [hrow, hcs]; simp [List.append_assoc]
                have hb2 := rowOf_le hE r1 hc2.1
                have hlo : mb.lo E = (rowOf E r1).length := by unfold MB.lo; rw [hrow]
                have hcl : mb.cs.length ≤ 1048576 := by rw [hcs]; exact hc2.2
                refine Exists.elim (?_ : ∃ bl' w', (Builtin.append_ #[t, tx] ty #[x.den E bl, y.den E bl]).run P w = .ok ((AC.dy m.length r1 0 ⟨r1, (c ++ List.replicate n z).length⟩).den E bl') w' ∧ Agree m.length bl bl' ∧ MRel E bl' w0 (killO m (some b) ++ [newMB r1 (c ++ List.replicate n z), capMB]) w') fun bl' ⟨w', e1, e2, e3⟩ => ⟨bl', w', e1, e2, e3, by simp [AC.wf, killO_length], by simp [killO_length]⟩
                rw [hy, hxv]
                by_cases hroom : mb.lo E + mb.cs.length + (List.replicate n (z.den E bl)).length ≤ (bl (b + 1)).2
                · exact append_roomA hE hm hb hl how hso hsrc hroom hcont hwf
                · have hol : (rowOf E mb.row ++ mb.cs.map (AC.den E bl)).length = mb.lo E + mb.cs.length := by simp [MB.lo]
                  have hold : ∀ (j : Nat) (v : Value), (rowOf E mb.row ++ mb.cs.map (AC.den E bl))[j]? = some v → w.drew.cell? ((⟨(bl b).1, 0, none⟩ : Addr).add j) = some v := fun j v hv => by
                    rw [Addr.add_lit, Nat.zero_add, World.cell?_drew]
                    by_cases hj : j < (rowOf E mb.row).length
                    · rw [List.getElem?_append_left hj] at hv
                      have := hm.rowc b mb j v hb hl hv
                      rw [q2, Nat.sub_self, Nat.zero_add] at this
                      exact this
                    · rw [List.getElem?_append_right (by omega), List.getElem?_map] at hv
                      cases hy : mb.cs[j - (rowOf E mb.row).length]? with
                      | none => rw [hy] at hv; cases hv
                      | some y =>
                        rw [hy] at hv; cases hv
                        have := hm.cell b mb _ y hb hl hy
                        rw [← this]
                        simp only [at_]
                        congr 2
                        rw [q2]; unfold MB.lo; omega
                  have := append_growA (d := some b) (z := zv) (t := t) (tx := tx) (ty := ty) (sCap := (bl (b + 1)).2) (base := some ⟨(bl b).1, 0, none⟩) (by rw [hz1]; rfl) hm (olds := rowOf E mb.row ++ mb.cs.map (AC.den E bl))
                    (run_firstCells_some _ _ _ _ _ _ _ (by rw [Nat.mul_one]) hold) hsrc (by rw [hol]; omega) (by rw [hol, List.length_replicate, hlo]; omega) hcont hwf (by rw [rowVal hE, hol, List.length_replicate, List.length_append, List.length_replicate, hlo, hcs]; omega)
                  rw [hol] at this
                  exact this
          · cases h
        · cases h
      · cases h
    · cases h
  · cases h
end
end Go.Proofs.YtfilandehjmikaaDoor.Sx
