/- Open over bytes. No condition. -/
import Derived.Test.YtfilandehjmikaaDoorAscQ
namespace Go.Proofs.YtfilandehjmikaaDoor.Asc
open Go.RowKit Go.Proofs.YtfilandehjmikaaDoor.Sx

def openCT (m : Nat) (key nonce c t data : List B8) : Option (List B8) :=
  if t = tagS m key (crypt (mdOf m) true (dataSt (mdOf m) (beginS m key nonce) data) c).2 then some (crypt (mdOf m) true (dataSt (mdOf m) (beginS m key nonce) data) c).1 else none
theorem openCT_seal (m : Nat) (key nonce text data : List B8) : openCT m key nonce (crypt (mdOf m) false (dataSt (mdOf m) (beginS m key nonce) data) text).1 (tagS m key (crypt (mdOf m) false (dataSt (mdOf m) (beginS m key nonce) data) text).2) data = some text := by
  unfold openCT
  rw [crypt_back, if_pos rfl]
theorem openCT_turned {m : Nat} {key nonce text data t : List B8} (h : t ≠ tagS m key (crypt (mdOf m) false (dataSt (mdOf m) (beginS m key nonce) data) text).2) : openCT m key nonce (crypt (mdOf m) false (dataSt (mdOf m) (beginS m key nonce) data) text).1 t data = none := by
  unfold openCT
  rw [crypt_back, if_neg h]
def OpenA (w : World) (m : Nat) (key nonce c t data : List B8) (e : Ending) (w' : World) : Prop :=
  match openCT m key nonce c t data with
  | some p => ∃ v, e = .returned (.tuple #[v, .nilIface]) ∧ Below w.heap.size w w' ∧ SlV w' v (vals p)
  | none => OShort w e w'
theorem open_calls {m : Nat} (hm : m ≤ 2) {key nonce data c t : List B8} (hk : key.length = klen m) (hn : nonce.length = 16) (h16 : t.length = 16) (hnl : c.length ≤ 1048576) (hdl : data.length ≤ 1048576) {w : World} {cb co ncap : Nat} {na : Option Addr} {v dv : Value} {ea : Addr} (he1 : w.cell? ⟨1, 0, none⟩ = some (.iface 91 (.pointer (some ea))))
    (hc : At w cb co (cVals m key)) (hs : SlV w (.slice na 16 ncap) (vals nonce)) (ht : SlV w v (vals (c ++ t))) (hd : SlV w dv (vals data)) :
    Calls Tryd.prog 29 #[ptrTo cb co, .slice none 0 0, .slice na 16 ncap, v, dv] w (OpenA w m key nonce c t data) := by
  obtain ⟨sb, so, scap, rfl, h2, ha, _⟩ := ht.cons (fun e => by have := congrArg List.length e; rw [vals_length, List.length_append, h16] at this; simp at this)
  rw [vals_length, List.length_append, h16] at h2 ⊢
  rw [vals_append] at ha
  rcases Nat.eq_zero_or_pos c.length with h0 | h0
  · obtain rfl := List.length_eq_zero_iff.1 h0
    rw [show ([] : List B8).length + 16 = 16 from rfl] at h2 ⊢
    refine (open_zero hm hk hn h16 hdl he1 hc hs ha h2 hd).mono fun e w' ⟨h3, h4⟩ => ?_
    unfold OpenA openCT
    split
    · rename_i p hp
      split at hp
      · rename_i hq
        obtain ⟨h5, h6⟩ := h3 hq
        cases hp
        refine ⟨_, h5, h6, .inl ⟨rfl, ?_⟩⟩
        rw [List.length_eq_zero_iff.1 (crypt_length (mdOf m) true [] _)]; rfl
      · cases hp
    · rename_i hp
      split at hp
      · cases hp
      · rename_i hq; exact h4 hq
  · refine (open_row hm hk hn h16 hnl h0 hdl he1 hc hs ha h2 hd).mono fun e w' ⟨h3, h4⟩ => ?_
    unfold OpenA openCT
    split
    · rename_i p hp
      split at hp
      · rename_i hq
        obtain ⟨g, h5, h6, _, h7⟩ := h3 hq
        cases hp
        refine ⟨_, h5, h6, ?_⟩
        have := SlV.mk (cap := c.length) h7 (by rw [vals_length, crypt_length]; exact Nat.le_refl _)
        rwa [vals_length, crypt_length] at this
      · cases hp
    · rename_i hp
      split at hp
      · cases hp
      · rename_i hq; exact h4 hq
end Go.Proofs.YtfilandehjmikaaDoor.Asc
