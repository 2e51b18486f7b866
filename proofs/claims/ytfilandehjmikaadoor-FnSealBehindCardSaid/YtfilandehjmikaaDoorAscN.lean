/- The code's Open behind nothing, as a contract. No condition. -/
import Derived.Test.YtfilandehjmikaaDoorAscM
namespace Go.Proofs.YtfilandehjmikaaDoor.Asc
open Go.RowKit Go.Proofs.YtfilandehjmikaaDoor.Sx

def ErrV (v : Value) : Prop := ∃ a, v = .iface 91 (.pointer (some a))
def OShort (w : World) (e : Ending) (w' : World) : Prop := ∃ x, ErrV x ∧ e = .returned (.tuple #[.slice none 0 0, x]) ∧ Below w.heap.size w w'
set_option maxHeartbeats 1000000 in
theorem open_short {w : World} {cp dv : Value} {na sa : Option Addr} {ncap sl scap : Nat} {ea : Addr} (h1 : w.cell? ⟨1, 0, none⟩ = some (.iface 91 (.pointer (some ea)))) (hs : sl < 16) :
    Calls Tryd.prog 29 #[cp, .slice none 0 0, .slice na 16 ncap, .slice sa sl scap, dv] w (OShort w) := by
  go_enter Tryd.func29, Tryd.ntmps29
  go_wp2_with (fail)
  go_quiet (fail)
  go_wp2_with (fail)
  go_ret2
  exact ⟨_, ⟨ea, rfl⟩, rfl, ⟨rfl, rfl, rfl, Nat.le_refl _, fun _ _ => rfl⟩⟩
def IShort (w : World) (e : Ending) (w' : World) : Prop := e = .returned (.tuple #[.slice none 0 0, .bool false]) ∧ Below w.heap.size w w'
set_option maxHeartbeats 1000000 in
theorem iopen_short {m : Nat} (hm : m ≤ 2) {key nonce l data : List B8} {sl : Nat} (hk : key.length = klen m) (hn : nonce.length = 16) (hsl : l.length = sl) (h16 : sl < 16) (hdl : data.length ≤ 1048576) {w : World} {kv nv sv dv : Value} {ea : Addr} (h1 : w.cell? ⟨1, 0, none⟩ = some (.iface 91 (.pointer (some ea))))
    (hkv : SlV w kv (vals key)) (hs : SlV w nv (vals nonce)) (ht : SlV w sv (vals l)) (hd : SlV w dv (vals data)) :
    Calls Tryd.prog 18 #[.int .i64 (m : Int), .slice none 0 0, kv, nv, sv, dv] w (IShort w) := by
  obtain ⟨na, ncap, hnv⟩ := slV_shape hs
  rw [hn] at hnv
  subst hnv
  have h20 := klen_le m
  have Hs := Lib.hid hs; clear hs
  have Ht := Lib.hid ht; clear ht
  have Hd := Lib.hid hd; clear hd
  have Hkv := Lib.hid hkv; clear hkv
  have Hk := Lib.hid hk; clear hk
  have Hn := Lib.hid hn; clear hn
  have Hsl := Lib.hid hsl; clear hsl
  have H1 := Lib.hid h1; clear h1
  go_enter Tryd.func18, Tryd.ntmps18
  go_wp2_with (fail)
  refine (cipher_calls hm Hk.out Hkv.out).mono ?_
  rintro e w1 ⟨cb, co, rfl, hb1, hcb, hc1⟩
  have HB1 := Lib.hid hb1; clear hb1 hc1 hcb
  go_wp2_with (fail)
  refine clone_nil.mono ?_
  rintro e w2 ⟨rfl, hb2⟩
  have HB2 := Lib.hid (HB1.out.trans (hb2.mono HB1.out.size)); clear hb2
  go_wp2_with (fail)
  refine (clone_n Hn.out (by decide) (Hs.out.below HB2.out)).mono ?_
  rintro e w3 ⟨na', ncap', rfl, hb3, _⟩
  have HB3 := Lib.hid (HB2.out.trans (hb3.mono HB2.out.size)); clear hb3
  go_wp2_with (fail)
  refine (clone_n Hsl.out (by omega) (Ht.out.below HB3.out)).mono ?_
  rintro e w4 ⟨ta', tcap', rfl, hb4, _⟩
  have HB4 := Lib.hid (HB3.out.trans (hb4.mono HB3.out.size)); clear hb4
  go_wp2_with (fail)
  refine (clone_sl hdl (Hd.out.below HB4.out)).mono ?_
  rintro e w5 ⟨da', dcap', rfl, hb5, _⟩
  have HB5 := Lib.hid (HB4.out.trans (hb5.mono HB4.out.size)); clear hb5
  go_wp2_with (fail)
  refine (open_short (ea := ea) ((HB5.out.cell (p := ⟨1, 0, none⟩) (cell_lt H1.out)).trans H1.out) h16).mono ?_
  rintro e w6 ⟨x, ⟨a, rfl⟩, rfl, hb6⟩
  have HB6 := Lib.hid (HB5.out.trans (hb6.mono HB5.out.size)); clear hb6
  go_wp2_with (fail)
  go_ret2
  exact ⟨rfl, HB6.out⟩
def ISizes (w : World) (e : Ending) (w' : World) : Prop := e = .returned (.tuple #[.int .i64 16, .int .i64 16, .bool true]) ∧ Below w.heap.size w w'
set_option maxHeartbeats 1000000 in
theorem isizes {m : Nat} (hm : m ≤ 2) {key : List B8} (hk : key.length = klen m) {w : World} {kv : Value} (hkv : SlV w kv (vals key)) : Calls Tryd.prog 11 #[.int .i64 (m : Int), kv] w (ISizes w) := by
  have Hkv := Lib.hid hkv; clear hkv
  have Hk := Lib.hid hk; clear hk
  go_enter Tryd.func11, Tryd.ntmps11
  go_wp2_with (fail)
  refine (cipher_calls hm Hk.out Hkv.out).mono ?_
  rintro e w1 ⟨cb, co, rfl, hb1, hcb, hc1⟩
  have HB1 := Lib.hid hb1; clear hb1 hc1 hcb
  go_wp2_with (go_in)
  exact bodyPost_ret (v := .tuple #[.int .i64 16, .int .i64 16, .bool true]) (by simp [results, Tryd.results11, go_sem]) rfl ⟨rfl, HB1.out⟩
end Go.Proofs.YtfilandehjmikaaDoor.Asc
