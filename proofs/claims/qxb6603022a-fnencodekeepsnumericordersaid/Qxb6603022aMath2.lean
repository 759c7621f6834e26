/- More plain mathematics: the long-division model. -/
import Derived.Test.Qxb6603022aMath
namespace Go.Proofs.Qxb6603022a.M58

theorem len2 : ∀ (m : Nat) (R : List Int) (t : Int), 0 < t → Dig 58 R → V 58 R t < 256 ^ m → R.length ≤ 2 * m
  | 0, R, t, ht, hR, h => by
    have := V_pos (B := 58) (by omega) R t hR ht
    simp at h
    omega
  | m + 1, [], t, _, _, _ => by simp
  | m + 1, [a], t, _, _, _ => by simp; omega
  | m + 1, a :: b :: R, t, ht, hR, h => by
    have h1 := (Dig_cons.1 hR).1
    have h2 := (Dig_cons.1 (Dig_cons.1 hR).2).1
    have h3 := (Dig_cons.1 (Dig_cons.1 hR).2).2
    rw [V_cons, V_cons, Int.pow_succ] at h
    have hp := V_pos (B := 58) (by omega) R t h3 ht
    have := len2 m R t ht h3 (by omega)
    simp
    omega

theorem V_lt_pow : ∀ (X : List Int), Dig 256 X → V 256 X 0 < 256 ^ X.length
  | [], _ => by simp [V_nil]
  | a :: X, h => by
    have h1 := (Dig_cons.1 h).1
    have ih := V_lt_pow X (Dig_cons.1 h).2
    rw [V_cons, List.length_cons, Int.pow_succ]
    omega

/-- The state of the outer loop of the model. -/
structure Out (N : Int) (m : Nat) (R X : List Int) (s : Nat) : Prop where
  digR : Dig 58 R
  digX : Dig 256 X
  lenX : X.length = m
  zer : X.take s = List.replicate s 0
  val : V 58 R (V 256 X.reverse 0) = N
  can : V 256 X.reverse 0 = 0 → Canon R
  low : V 256 X.reverse 0 + R.length ≤ N
  sm : s ≤ m

theorem out_start {X : List Int} (hX : Dig 256 X) : Out (V 256 X.reverse 0) X.length [] X 0 :=
  ⟨Dig_nil _, hX, rfl, rfl, rfl, fun _ => canon_nil, by simp, Nat.zero_le _⟩

theorem V_zero_all {B : Int} (hB : 0 < B) : ∀ (l : List Int), Dig B l → V B l 0 = 0 → ∀ x ∈ l, x = 0
  | [], _, _, x, hx => by simp at hx
  | a :: l, hl, h, x, hx => by
    rw [V_cons] at h
    have h1 := (Dig_cons.1 hl).1
    have h2 := V_nonneg hB l 0 (Dig_cons.1 hl).2 (Int.le_refl _)
    have h3 : 0 ≤ B * V B l 0 := Int.mul_nonneg (by omega) h2
    have h4 : B * V B l 0 = 0 := by omega
    have h5 : V B l 0 = 0 := by
      rcases Int.mul_eq_zero.1 h4 with h | h
      · omega
      · exact h
    rcases List.mem_cons.1 hx with rfl | hx
    · omega
    · exact V_zero_all hB l (Dig_cons.1 hl).2 h5 x hx

theorem out_pos {N : Int} {m : Nat} {R X : List Int} {s : Nat} (h : Out N m R X s) (hs : s < m) (hne : X.getD s 0 ≠ 0) : 0 < V 256 X.reverse 0 := by
  have h0 := V_nonneg (B := 256) (by omega) X.reverse 0 (Dig_reverse h.digX) (Int.le_refl _)
  rcases Int.lt_or_eq_of_le h0 with h1 | h1
  · exact h1
  · exfalso
    have hsl : s < X.length := by rw [h.lenX]; exact hs
    have := V_zero_all (B := 256) (by omega) X.reverse (Dig_reverse h.digX) h1.symm X[s] (by simp)
    apply hne
    simp [List.getD, hsl, this]

theorem out_len {N : Int} {m : Nat} {R X : List Int} {s : Nat} (h : Out N m R X s) (hN : N < 256 ^ m) (hp : 0 < V 256 X.reverse 0) : R.length ≤ 2 * m :=
  len2 m R _ hp h.digR (by rw [h.val]; exact hN)

theorem out_step {N : Int} {m : Nat} {R X Y : List Int} {s : Nat} {r : Int} (h : Out N m R X s) (hp : 0 < V 256 X.reverse 0) (hY : Div 256 58 X Y X.length r) (hz : Y.take s = List.replicate s 0) :
    Out N m (R ++ [r]) Y s := by
  have he := div_end hY
  have h0 := V_nonneg (B := 256) (by omega) Y.reverse 0 (Dig_reverse hY.dig) (Int.le_refl _)
  have hr0 := hY.r0
  have hr1 := hY.r1
  have hl := h.low
  refine ⟨Dig_append.2 ⟨h.digR, Dig_cons.2 ⟨⟨hr0, hr1⟩, Dig_nil _⟩⟩, hY.dig, hY.len.trans h.lenX, hz, ?_, ?_, ?_, h.sm⟩
  · rw [V_snoc, ← he]; exact h.val
  · intro e
    rw [canon_snoc]
    omega
  · simp
    omega

theorem out_move {N : Int} {m : Nat} {R X : List Int} {s s' : Nat} (h : Out N m R X s) (hz : X.take s' = List.replicate s' 0) (hs : s' ≤ m) : Out N m R X s' :=
  ⟨h.digR, h.digX, h.lenX, hz, h.val, h.can, h.low, hs⟩

theorem out_end {N : Int} {m : Nat} {R X : List Int} (h : Out N m R X m) : Canon R ∧ V 58 R 0 = N := by
  have hz := h.zer
  rw [← h.lenX, List.take_length] at hz
  have e : V 256 X.reverse 0 = 0 := by rw [hz, V_zeros]
  refine ⟨h.can e, ?_⟩
  have := h.val
  rw [e] at this
  exact this

theorem canon_len {m : Nat} {R : List Int} (hR : Dig 58 R) (cR : Canon R) (h : V 58 R 0 < 256 ^ m) : R.length ≤ 2 * m + 1 := by
  rcases (Classical.em (R = [])) with rfl | hne
  · simp
  · obtain ⟨M, d, rfl⟩ := snoc_of_ne hne
    rw [V_snoc] at h
    have h1 := canon_snoc.1 cR
    have h2 := (Dig_cons.1 (Dig_append.1 hR).2).1
    have := len2 m M _ (by omega) (Dig_append.1 hR).1 h
    simp
    omega

theorem take_set_le (l : List Int) (i s : Nat) (v : Int) (h : s ≤ i) : (l.set i v).take s = l.take s := by
  rw [List.take_set, List.set_eq_of_length_le (by simp; omega)]

/-- z ones, then j digits from the front, then room. -/
def laid (z : Nat) (T : List Int) (j : Nat) : List Int := List.replicate z 49 ++ (T.reverse.take j ++ List.replicate (T.length - j) 0)
theorem laid_zero (z : Nat) (T : List Int) : laid z T 0 = ones (z + T.length) z := by simp [laid, ones]
theorem laid_len (z : Nat) (T : List Int) (j : Nat) (h : j ≤ T.length) : (laid z T j).length = z + T.length := by simp [laid]; omega
theorem laid_step (z : Nat) (T : List Int) (j : Nat) (h : j < T.length) : (laid z T j).set (z + j) (T.getD (T.length - 1 - j) 0) = laid z T (j + 1) := by
  unfold laid
  have e : T.reverse.getD j 0 = T.getD (T.length - 1 - j) 0 := by
    simp [List.getD, List.getElem?_reverse h]
  rw [take_snoc (l := T.reverse) (i := j) (by simpa using h), e, show T.length - j = (T.length - (j + 1)) + 1 by omega, List.replicate_succ, ← List.append_assoc, set_mid _ _ _ _ _ (by simp; omega)]
  simp
theorem laid_end (z : Nat) (T : List Int) : laid z T T.length = List.replicate z 49 ++ T.reverse := by
  simp [laid, List.take_of_length_le]

theorem enc_uniq {zs x y : List Int} (hx : Enc zs x) (hy : Enc zs y) : x = y := by
  obtain ⟨z, D, h1, h2, h3, h4, h5, h6, h7⟩ := hx
  obtain ⟨z', D', h1', h2', h3', h4', h5', h6', h7'⟩ := hy
  have hzz : z = z' := by
    rcases Nat.lt_trichotomy z z' with h | h | h
    · exfalso
      apply h3 (by omega)
      have : (zs.take z').getD z 0 = 0 := by rw [h2']; simp [List.getD, h]
      simpa [List.getD, List.getElem?_take, h] using this
    · exact h
    · exfalso
      apply h3' (by omega)
      have : (zs.take z).getD z' 0 = 0 := by rw [h2]; simp [List.getD, h]
      simpa [List.getD, List.getElem?_take, h] using this
  subst hzz
  have hDD : D = D' := uniq (by omega) D D' h4 h4' h5 h5' (h6.trans h6'.symm)
  subst hDD
  rw [h7, h7']

end Go.Proofs.Qxb6603022a.M58
