/- Ascon's key: the cipher that is made, the state at the beginning, the tag. No condition. -/
import Derived.Test.YtfilandehjmikaaDoorAscZ
namespace Go.Proofs.YtfilandehjmikaaDoor.Asc
open Go.RowKit Go.Proofs.YtfilandehjmikaaDoor.Sx

/-! ### in plain Lean -/
def klen (m : Nat) : Nat := match m with
  | 2 => 20
  | _ => 16
def k0W (m : Nat) (key : List B8) : BitVec 64 := match m with
  | 2 => cat8 (0 :: 0 :: 0 :: 0 :: key.take 4)
  | _ => 0
def k1W (m : Nat) (key : List B8) : BitVec 64 := match m with
  | 2 => cat8 (key.drop 4)
  | _ => cat8 key
def k2W (m : Nat) (key : List B8) : BitVec 64 := match m with
  | 2 => cat8 (key.drop 12)
  | _ => cat8 (key.drop 8)
def ivW (m : Nat) (key : List B8) : BitVec 64 := match m with
  | 2 => cat8 (160 :: 64 :: 12 :: 6 :: key.take 4)
  | 1 => cat8 [128, 128, 12, 8]
  | _ => cat8 [128, 64, 12, 6]
def beginS (m : Nat) (key nonce : List B8) : St :=
  let p := perm 12 ⟨ivW m key, k1W m key, k2W m key, cat8 nonce, cat8 (nonce.drop 8)⟩
  ⟨p.a, p.b, p.c ^^^ k0W m key, p.d ^^^ k1W m key, p.e ^^^ k2W m key⟩
def preTag (m : Nat) (key : List B8) (s : St) : St := match m with
  | 2 => ⟨s.a, s.b ^^^ cat8 key, s.c ^^^ cat8 (key.drop 8), s.d ^^^ cat8 ((key.drop 16).take 4), s.e⟩
  | 1 => ⟨s.a, s.b, s.c ^^^ k1W m key, s.d ^^^ k2W m key, s.e⟩
  | _ => ⟨s.a, s.b ^^^ k1W m key, s.c ^^^ k2W m key, s.d, s.e⟩
def tagS (m : Nat) (key : List B8) (s : St) : List B8 :=
  let p := perm 12 (preTag m key s)
  wbs (p.d ^^^ k1W m key) ++ wbs (p.e ^^^ k2W m key)
theorem tagS_length (m : Nat) (key : List B8) (s : St) : (tagS m key s).length = 16 := rfl
def cVals (m : Nat) (key : List B8) : List Value := [.int .u64 ((k0W m key).toNat : Int), .int .u64 ((k1W m key).toNat : Int), .int .u64 ((k2W m key).toNat : Int), .int .i64 (cmode m)]

/-! ### terms: the key's bytes from 0 on, the nonce's from 20 on -/
def kT (m : Nat) : List T := match m with
  | 2 => [mkCat ⟨.k 0, .k 0, .k 0, .k 0, byT 0, byT 1, byT 2, byT 3⟩, cat8T byT 4, cat8T byT 12]
  | _ => [.k 0, cat8T byT 0, cat8T byT 8]
def k0T (m : Nat) : T := match m with
  | 2 => mkCat ⟨.k 0, .k 0, .k 0, .k 0, byT 0, byT 1, byT 2, byT 3⟩
  | _ => .k 0
def k1T (m : Nat) : T := match m with
  | 2 => cat8T byT 4
  | _ => cat8T byT 0
def k2T (m : Nat) : T := match m with
  | 2 => cat8T byT 12
  | _ => cat8T byT 8
def ivT (m : Nat) : T := match m with
  | 2 => mkCat ⟨.k 160, .k 64, .k 12, .k 6, byT 0, byT 1, byT 2, byT 3⟩
  | 1 => mkCat ⟨.k 128, .k 128, .k 12, .k 8, .k 0, .k 0, .k 0, .k 0⟩
  | _ => mkCat ⟨.k 128, .k 64, .k 12, .k 6, .k 0, .k 0, .k 0, .k 0⟩
def apOf (x : List T) (i : Nat) : T := match x with
  | [a, b, c, d, e] => .ap 12 i a b c d e
  | _ => .k 0
def beg0 (m : Nat) : List T := [ivT m, k1T m, k2T m, cat8T byT 20, cat8T byT 28]
def beginT (m : Nat) : List T := [apOf (beg0 m) 0, apOf (beg0 m) 1, mkXor (apOf (beg0 m) 2) (k0T m), mkXor (apOf (beg0 m) 3) (k1T m), mkXor (apOf (beg0 m) 4) (k2T m)]
def preT (m : Nat) : List T := match m with
  | 2 => [sT 0, mkXor (sT 1) (cat8T byT 0), mkXor (sT 2) (cat8T byT 8), mkXor (sT 3) (mkCat ⟨byT 16, byT 17, byT 18, byT 19, .k 0, .k 0, .k 0, .k 0⟩), sT 4]
  | 1 => [sT 0, sT 1, mkXor (sT 2) (k1T m), mkXor (sT 3) (k2T m), sT 4]
  | _ => [sT 0, mkXor (sT 1) (k1T m), mkXor (sT 2) (k2T m), sT 3, sT 4]
def tagT (m i : Nat) : T := mkXor1 (.byte (i % 8) (apOf (preT m) (3 + i / 8))) (byT (klen m - 16 + i))
def tagA (m : Nat) : List AC := (List.range 16).map fun i => .w .u8 (tagT m i)
/-- The key's bytes, up to twenty, and the nonce's. -/
def kn (key nonce : List B8) : List B8 := (key ++ List.replicate (20 - key.length) 0) ++ nonce
section
variable {E : Env} {s : St} {key nonce : List B8} {m : Nat}
theorem kn_key (hk : key.length ≤ 20) {i : Nat} (hi : i < 20) : (kn key nonce).getD i 0 = key.getD i 0 := by
  unfold kn
  simp only [List.getD]
  rw [List.getElem?_append_left (by simp; omega)]
  by_cases h : i < key.length
  · rw [List.getElem?_append_left h]
  · rw [List.getElem?_append_right (by omega), List.getElem?_replicate, List.getElem?_eq_none (by omega : key.length ≤ i)]
    split <;> rfl
theorem kn_nonce (hk : key.length ≤ 20) (i : Nat) : (kn key nonce).getD (20 + i) 0 = nonce.getD i 0 := by
  unfold kn
  simp only [List.getD]
  rw [List.getElem?_append_right (by simp; omega)]
  congr 2
  simp; omega
theorem key_den (h : SymOk E s (kn key nonce)) (hk : key.length ≤ 20) {i : Nat} (hi : i < 20) : (byT i).den E = up (key.getD i 0) := by rw [byT_den h (by omega), kn_key hk hi]
theorem catK (h : SymOk E s (kn key nonce)) (hk : key.length ≤ 20) {o : Nat} (ho : o ≤ 12) : (cat8T byT o).den E = cat8 (key.drop o) := cat8T_den fun i hi => by rw [key_den h hk (by omega), getD_drop]
theorem k0_den (h : SymOk E s (kn key nonce)) (hk : key.length ≤ 20) (m : Nat) : (k0T m).den E = k0W m key := by
  unfold k0T k0W
  split
  · rw [mkCat_den]
    simp only [C8.den, key_den h hk (show 0 < 20 by decide), key_den h hk (show 1 < 20 by decide), key_den h hk (show 2 < 20 by decide), key_den h hk (show 3 < 20 by decide)]
    unfold cat8
    simp only [List.getD_cons_zero, List.getD_cons_succ, getD_take key 4 0 0 (by decide), getD_take key 4 1 0 (by decide), getD_take key 4 2 0 (by decide), getD_take key 4 3 0 (by decide)]
    rfl
  · rfl
theorem k1_den (h : SymOk E s (kn key nonce)) (hk : key.length ≤ 20) (m : Nat) : (k1T m).den E = k1W m key := by
  unfold k1T k1W
  split
  · exact catK h hk (by decide)
  · exact catK h hk (by decide)
theorem k2_den (h : SymOk E s (kn key nonce)) (hk : key.length ≤ 20) (m : Nat) : (k2T m).den E = k2W m key := by
  unfold k2T k2W
  split
  · exact catK h hk (by decide)
  · exact catK h hk (by decide)
theorem iv_den (h : SymOk E s (kn key nonce)) (hk : key.length ≤ 20) (m : Nat) : (ivT m).den E = ivW m key := by
  unfold ivT ivW
  split
  · rw [mkCat_den]
    simp only [C8.den, key_den h hk (show 0 < 20 by decide), key_den h hk (show 1 < 20 by decide), key_den h hk (show 2 < 20 by decide), key_den h hk (show 3 < 20 by decide)]
    unfold cat8
    simp only [List.getD_cons_zero, List.getD_cons_succ, getD_take key 4 0 0 (by decide), getD_take key 4 1 0 (by decide), getD_take key 4 2 0 (by decide), getD_take key 4 3 0 (by decide)]
    rfl
  · rw [mkCat_den]; rfl
  · rw [mkCat_den]; rfl
theorem nonce_den (h : SymOk E s (kn key nonce)) (hk : key.length ≤ 20) {o : Nat} (ho : o ≤ 8) : (cat8T byT (20 + o)).den E = cat8 (nonce.drop o) := cat8T_den fun i hi => by
  rw [byT_den h (by omega), Nat.add_assoc, kn_nonce hk, getD_drop]
theorem apOf_den (hap : ApOk E) {x : List T} {y : St} (hx : Is5 E x y) (i : Nat) : (apOf x i).den E = (perm 12 y).get i := by
  unfold Is5 at hx
  have h5 : x.length = 5 := by have := congrArg List.length hx; simpa using this
  match x, h5, hx with
  | [a, b, c, d, e], _, hx =>
    simp only [List.map_cons, List.map_nil, List.cons.injEq, and_true] at hx
    obtain ⟨h1, h2, h3, h4, h5⟩ := hx
    simp only [apOf, T.den, hap _ _ _ _ _ _ _, h1, h2, h3, h4, h5]
theorem beg0_den (h : SymOk E s (kn key nonce)) (hk : key.length ≤ 20) (m : Nat) : Is5 E (beg0 m) ⟨ivW m key, k1W m key, k2W m key, cat8 nonce, cat8 (nonce.drop 8)⟩ := by
  simp only [Is5, beg0, List.map, iv_den h hk, k1_den h hk, k2_den h hk, show (cat8T byT 20).den E = cat8 nonce from nonce_den h hk (o := 0) (by decide), show (cat8T byT 28).den E = cat8 (nonce.drop 8) from nonce_den h hk (o := 8) (by decide)]
theorem beginT_den (h : SymOk E s (kn key nonce)) (hap : ApOk E) (hk : key.length ≤ 20) (m : Nat) : Is5 E (beginT m) (beginS m key nonce) := by
  have hb := beg0_den h hk m
  simp only [Is5, beginT, List.map, mkXor_den, apOf_den hap hb, k0_den h hk, k1_den h hk, k2_den h hk]
  rfl
theorem preT_den (h : SymOk E s (kn key nonce)) (hk : key.length ≤ 20) (m : Nat) : Is5 E (preT m) (preTag m key s) := by
  unfold preT preTag
  split
  · have h3 : (mkCat ⟨byT 16, byT 17, byT 18, byT 19, .k 0, .k 0, .k 0, .k 0⟩ : T).den E = cat8 ((key.drop 16).take 4) := by
      rw [mkCat_den]
      simp only [C8.den, key_den h hk (show 16 < 20 by decide), key_den h hk (show 17 < 20 by decide), key_den h hk (show 18 < 20 by decide), key_den h hk (show 19 < 20 by decide)]
      unfold cat8
      have z : ∀ i, 4 ≤ i → ((key.drop 16).take 4).getD i 0 = 0 := fun i hi => by
        simp only [List.getD]; rw [List.getElem?_eq_none (by simp; omega)]; rfl
      rw [z 4 (by decide), z 5 (by decide), z 6 (by decide), z 7 (by decide), getD_take _ 4 0 0 (by decide), getD_take _ 4 1 0 (by decide), getD_take _ 4 2 0 (by decide), getD_take _ 4 3 0 (by decide), getD_drop, getD_drop, getD_drop, getD_drop]
      rfl
    simp only [Is5, List.map, mkXor_den, h3, show (cat8T byT 0).den E = cat8 key from catK h hk (o := 0) (by decide), catK h hk (show 8 ≤ 12 by decide), sT_den h (show 0 < 5 by decide), sT_den h (show 1 < 5 by decide), sT_den h (show 2 < 5 by decide), sT_den h (show 3 < 5 by decide), sT_den h (show 4 < 5 by decide)]
    rfl
  · simp only [Is5, List.map, mkXor_den, k1_den h hk, k2_den h hk, sT_den h (show 0 < 5 by decide), sT_den h (show 1 < 5 by decide), sT_den h (show 2 < 5 by decide), sT_den h (show 3 < 5 by decide), sT_den h (show 4 < 5 by decide)]
    rfl
  · simp only [Is5, List.map, mkXor_den, k1_den h hk, k2_den h hk, sT_den h (show 0 < 5 by decide), sT_den h (show 1 < 5 by decide), sT_den h (show 2 < 5 by decide), sT_den h (show 3 < 5 by decide), sT_den h (show 4 < 5 by decide)]
    rfl
theorem wb_cat8 (l : List B8) {i : Nat} (hi : i < 8) : wb (cat8 l) i = l.getD i 0 := by
  apply up_inj
  rw [up_wb]
  unfold cat8
  rw [byteOf_cat i (by omega)]
  match i, hi with
  | 0, _ | 1, _ | 2, _ | 3, _ | 4, _ | 5, _ | 6, _ | 7, _ => exact byteOf_up _
theorem wb_xor (x y : BitVec 64) (i : Nat) : wb (x ^^^ y) i = wb x i ^^^ wb y i := by
  apply up_inj
  rw [up_xor, up_wb, up_wb, up_wb, byteOf_xor]
theorem kb_get (m : Nat) (key : List B8) {i : Nat} (hi : i < 8) : wb (k1W m key) i = key.getD (klen m - 16 + i) 0 ∧ wb (k2W m key) i = key.getD (klen m - 16 + 8 + i) 0 := by
  unfold k1W k2W klen
  split
  · exact ⟨by rw [wb_cat8 _ hi, getD_drop], by rw [wb_cat8 _ hi, getD_drop]⟩
  · exact ⟨by rw [wb_cat8 _ hi, Nat.sub_self, Nat.zero_add], by rw [wb_cat8 _ hi, getD_drop]⟩
theorem klen_le (m : Nat) : klen m ≤ 20 ∧ 16 ≤ klen m := by unfold klen; split <;> decide
theorem tagT_den (h : SymOk E s (kn key nonce)) (hap : ApOk E) (hk : key.length ≤ 20) (m : Nat) {i : Nat} (hi : i < 16) : (tagT m i).den E = up ((tagS m key s).getD i 0) := by
  have hb := preT_den h hk m
  have h20 := klen_le m
  rw [tagT, mkXor1_den, T.den, apOf_den hap hb, key_den h hk (by omega)]
  unfold tagS
  by_cases h8 : i < 8
  · have : (wbs ((perm 12 (preTag m key s)).d ^^^ k1W m key) ++ wbs ((perm 12 (preTag m key s)).e ^^^ k2W m key)).getD i 0 = wb ((perm 12 (preTag m key s)).d ^^^ k1W m key) i := by
      match i, h8 with
      | 0, _ | 1, _ | 2, _ | 3, _ | 4, _ | 5, _ | 6, _ | 7, _ => rfl
    rw [this, wb_xor, up_xor, up_wb, (kb_get m key h8).1, show i % 8 = i by omega, show i / 8 = 0 by omega]
    rfl
  · obtain ⟨j, rfl⟩ : ∃ j, i = 8 + j := ⟨i - 8, by omega⟩
    have hj : j < 8 := by omega
    have : (wbs ((perm 12 (preTag m key s)).d ^^^ k1W m key) ++ wbs ((perm 12 (preTag m key s)).e ^^^ k2W m key)).getD (8 + j) 0 = wb ((perm 12 (preTag m key s)).e ^^^ k2W m key) j := by
      match j, hj with
      | 0, _ | 1, _ | 2, _ | 3, _ | 4, _ | 5, _ | 6, _ | 7, _ => rfl
    rw [this, wb_xor, up_xor, up_wb, (kb_get m key hj).2, show (8 + j) % 8 = j by omega, show (8 + j) / 8 = 1 by omega, Nat.add_assoc]
    rfl
theorem tagA_den (h : SymOk E s (kn key nonce)) (hap : ApOk E) (hk : key.length ≤ 20) (m : Nat) (bl : Bl) : (tagA m).map (AC.den E bl) = vals (tagS m key s) := by
  apply List.ext_getElem?
  intro j
  simp only [tagA, vals, List.map_map, List.getElem?_map]
  by_cases hj : j < 16
  · rw [List.getElem?_range hj, List.getElem?_eq_getElem (by rw [tagS_length]; exact hj)]
    simp only [Option.map_some, Function.comp]
    congr 1
    refine byte_val bl ?_
    rw [tagT_den h hap hk m hj, List.getD, List.getElem?_eq_getElem (by rw [tagS_length]; exact hj)]
    rfl
  · rw [List.getElem?_eq_none (by simpa using hj), List.getElem?_eq_none (by rw [tagS_length]; omega)]; rfl
end
end Go.Proofs.YtfilandehjmikaaDoor.Asc
