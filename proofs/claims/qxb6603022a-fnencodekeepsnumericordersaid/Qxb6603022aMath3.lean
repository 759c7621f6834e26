/- More plain mathematics: the decoder. -/
import Derived.Test.Qxb6603022aMath2
namespace Go.Proofs.Qxb6603022a.M58

/-- room, then j bytes from behind. -/
def back (z : Nat) (A : List Int) (j : Nat) : List Int := List.replicate (z + (A.length - j)) 0 ++ (A.take j).reverse
theorem back_zero (z : Nat) (A : List Int) : back z A 0 = List.replicate (z + A.length) 0 := by simp [back]
theorem back_len (z : Nat) (A : List Int) (j : Nat) (h : j ≤ A.length) : (back z A j).length = z + A.length := by simp [back]; omega
theorem back_step (z : Nat) (A : List Int) (j : Nat) (h : j < A.length) : (back z A j).set (z + A.length - 1 - j) (A.getD j 0) = back z A (j + 1) := by
  unfold back
  rw [show z + (A.length - j) = (z + (A.length - (j + 1))) + 1 by omega, List.replicate_succ', take_snoc h]
  simp only [List.append_assoc, List.cons_append, List.nil_append]
  rw [set_mid _ _ _ _ _ (by simp; omega)]
  simp
theorem back_end (z : Nat) (A : List Int) : back z A A.length = List.replicate z 0 ++ A.reverse := by simp [back]

def text (z : Nat) (R : List Int) : List Int := List.replicate z 49 ++ R.map alpha
theorem text_len (z : Nat) (R : List Int) : (text z R).length = z + R.length := by simp [text]
theorem text_one (z : Nat) (R : List Int) (i : Nat) (h : i < z) : (text z R).getD i 0 = 49 := by
  simp [text, List.getD, List.getElem?_append, h]
theorem text_digit (z : Nat) (R : List Int) (k : Nat) (h : k < R.length) : (text z R).getD (z + k) 0 = alpha (R.getD k 0) := by
  simp [text, List.getD, h]
theorem alpha_one {d : Int} (h0 : 0 < d) (h1 : d < 58) : alpha d ≠ 49 := by
  have := alpha_lt (d := 0) (e := d) h0 h1
  have e : alpha 0 = 49 := by decide
  omega

theorem canon_rev {l : List Int} (h : 0 < l.length → l.getD 0 0 ≠ 0) : Canon l.reverse := by
  cases l with
  | nil => exact canon_nil
  | cons a l => rw [List.reverse_cons, canon_snoc]; simpa using h (by simp)

theorem head_of_canon {D : List Int} (h : Canon D) (hne : 0 < D.length) : D.reverse.getD 0 0 ≠ 0 := by
  have : D ≠ [] := by rintro rfl; simp at hne
  obtain ⟨m, d, rfl⟩ := snoc_of_ne this
  rw [canon_snoc] at h
  simpa using h

/-- What the decoder gives of the text of zs is zs. -/
theorem dec_back {zs : List Int} {z : Nat} {D A : List Int} (hd : Dig 256 zs) (h2 : zs.take z = List.replicate z 0) (h3 : z < zs.length → zs.getD z 0 ≠ 0)
    (hV : V 58 D 0 = V 256 (zs.drop z).reverse 0) (hA : Dig 256 A) (cA : Canon A) (hVA : V 256 A 0 = V 58 D 0) : List.replicate z 0 ++ A.reverse = zs := by
  have cz : Canon (zs.drop z).reverse := canon_rev (by
    intro h
    have := h3 (by simp at h; omega)
    simpa [List.getD] using this)
  have e := uniq (by omega) A (zs.drop z).reverse hA (Dig_reverse (Dig_drop hd z)) cA cz (hVA.trans hV)
  rw [e, List.reverse_reverse, ← h2, List.take_append_drop]

end Go.Proofs.Qxb6603022a.M58
