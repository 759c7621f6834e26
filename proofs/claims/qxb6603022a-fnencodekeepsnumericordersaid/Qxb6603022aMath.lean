/- THE PLAIN MATHEMATICS OF BASE 58 AND BASE 256: no Go in sight. -/
namespace Go.Proofs.Qxb6603022a.M58

/-- The value of digits, the least significant first, in base B, with t above them. -/
def V (B : Int) (l : List Int) (t : Int) : Int := l.foldr (fun d acc => d + B * acc) t
/-- Every digit lies in range. -/
def Dig (B : Int) (l : List Int) : Prop := ∀ d ∈ l, 0 ≤ d ∧ d < B
/-- No zero on top. -/
def Canon (l : List Int) : Prop := l.getLast? ≠ some 0

theorem V_nil (B t : Int) : V B [] t = t := rfl
theorem V_cons (B d t : Int) (l : List Int) : V B (d :: l) t = d + B * V B l t := rfl
theorem V_append (B t : Int) (l m : List Int) : V B (l ++ m) t = V B l (V B m t) := by
  unfold V; rw [List.foldr_append]
theorem V_snoc (B d t : Int) (l : List Int) : V B (l ++ [d]) t = V B l (d + B * t) := by
  rw [V_append]; rfl

theorem Dig_nil (B : Int) : Dig B [] := by intro d h; simp at h
theorem Dig_cons {B d : Int} {l : List Int} : Dig B (d :: l) ↔ (0 ≤ d ∧ d < B) ∧ Dig B l := by
  unfold Dig; simp
theorem Dig_append {B : Int} {l m : List Int} : Dig B (l ++ m) ↔ Dig B l ∧ Dig B m := by
  unfold Dig
  constructor
  · intro h; exact ⟨fun d hd => h d (by simp [hd]), fun d hd => h d (by simp [hd])⟩
  · intro h d hd
    rcases List.mem_append.1 hd with hd | hd
    · exact h.1 d hd
    · exact h.2 d hd
theorem Dig_reverse {B : Int} {l : List Int} (h : Dig B l) : Dig B l.reverse := by
  intro d hd; exact h d (by simpa using hd)
theorem Dig_take {B : Int} {l : List Int} (h : Dig B l) (k : Nat) : Dig B (l.take k) := fun d hd => h d (List.mem_of_mem_take hd)
theorem Dig_drop {B : Int} {l : List Int} (h : Dig B l) (k : Nat) : Dig B (l.drop k) := fun d hd => h d (List.mem_of_mem_drop hd)
theorem Dig_set {B : Int} {l : List Int} (h : Dig B l) (k : Nat) (v : Int) (hv : 0 ≤ v ∧ v < B) : Dig B (l.set k v) := by
  intro d hd
  rcases List.mem_or_eq_of_mem_set hd with hd | rfl
  · exact h d hd
  · exact hv
theorem Dig_get {B : Int} {l : List Int} (h : Dig B l) (k : Nat) (hk : k < l.length) : 0 ≤ l.getD k 0 ∧ l.getD k 0 < B := by
  have e : l.getD k 0 = l[k] := by simp [List.getD, hk]
  rw [e]; exact h _ (List.getElem_mem hk)

theorem V_nonneg {B : Int} (hB : 0 < B) : ∀ (l : List Int) (t : Int), Dig B l → 0 ≤ t → 0 ≤ V B l t
  | [], t, _, ht => ht
  | d :: l, t, h, ht => by
    rw [V_cons]
    have h1 := V_nonneg hB l t (Dig_cons.1 h).2 ht
    have h2 := (Dig_cons.1 h).1.1
    have h3 : 0 ≤ B * V B l t := Int.mul_nonneg (by omega) h1
    omega

/-- The longer, or the greater on top, is the greater. -/
theorem V_lt {B : Int} (hB : 0 < B) : ∀ (l m : List Int) (s t : Int), l.length = m.length → Dig B l → Dig B m → s < t → V B l s < V B m t
  | [], [], s, t, _, _, _, hst => hst
  | [], _ :: _, _, _, h, _, _, _ => by simp at h
  | _ :: _, [], _, _, h, _, _, _ => by simp at h
  | a :: l, b :: m, s, t, h, hl, hm, hst => by
    have ih := V_lt hB l m s t (by simpa using h) (Dig_cons.1 hl).2 (Dig_cons.1 hm).2 hst
    rw [V_cons, V_cons]
    have h1 := (Dig_cons.1 hl).1
    have h2 := (Dig_cons.1 hm).1
    have h3 : B * (V B l s + 1) ≤ B * V B m t := Int.mul_le_mul_of_nonneg_left (by omega) (by omega)
    rw [Int.mul_add] at h3
    omega

theorem V_pos {B : Int} (hB : 0 < B) (m : List Int) (t : Int) (hm : Dig B m) (ht : 0 < t) : 0 < V B m t := by
  induction m with
  | nil => exact ht
  | cons b m ih =>
    have ih' := ih (Dig_cons.1 hm).2
    rw [V_cons]
    have := (Dig_cons.1 hm).1
    have h3 : 0 < B * V B m t := Int.mul_pos hB ih'
    omega

theorem V_lt_len {B : Int} (hB : 0 < B) : ∀ (l m : List Int) (t : Int), l.length ≤ m.length → Dig B l → Dig B m → 0 < t → V B l 0 < V B m t
  | [], m, t, _, _, hm, ht => V_pos hB m t hm ht
  | _ :: _, [], _, h, _, _, _ => by simp at h
  | a :: l, b :: m, t, h, hl, hm, ht => by
    have ih := V_lt_len hB l m t (by simpa using h) (Dig_cons.1 hl).2 (Dig_cons.1 hm).2 ht
    rw [V_cons, V_cons]
    have h1 := (Dig_cons.1 hl).1
    have h2 := (Dig_cons.1 hm).1
    have h3 : B * (V B l 0 + 1) ≤ B * V B m t := Int.mul_le_mul_of_nonneg_left (by omega) (by omega)
    rw [Int.mul_add] at h3
    omega

theorem canon_nil : Canon [] := by simp [Canon]
theorem canon_snoc {l : List Int} {d : Int} : Canon (l ++ [d]) ↔ d ≠ 0 := by simp [Canon]
theorem snoc_of_ne {l : List Int} (h : l ≠ []) : ∃ m d, l = m ++ [d] := by
  refine ⟨l.dropLast, l.getLast h, ?_⟩
  exact (List.dropLast_concat_getLast h).symm
theorem canon_cons {d : Int} {l : List Int} (h : Canon (d :: l)) : Canon l := by
  rcases (Classical.em (l = [])) with rfl | hl
  · exact canon_nil
  · obtain ⟨m, e, rfl⟩ := snoc_of_ne hl
    rw [← List.cons_append, canon_snoc] at h
    exact canon_snoc.2 h

theorem canon_pos {B : Int} (hB : 0 < B) {l : List Int} (hl : Dig B l) (hc : Canon l) (hne : l ≠ []) : 0 < V B l 0 := by
  obtain ⟨m, d, rfl⟩ := snoc_of_ne hne
  rw [V_snoc]
  have h1 := (Dig_cons.1 (Dig_append.1 hl).2).1
  have h2 := canon_snoc.1 hc
  exact V_pos hB m _ (Dig_append.1 hl).1 (by omega)

theorem canon_zero {B : Int} (hB : 0 < B) {l : List Int} (hl : Dig B l) (hc : Canon l) (h : V B l 0 = 0) : l = [] := by
  rcases (Classical.em (l = [])) with e | e
  · exact e
  · have := canon_pos hB hl hc e
    omega

theorem split_eq {B d e x y : Int} (hB : 0 < B) (hd : 0 ≤ d ∧ d < B) (he : 0 ≤ e ∧ e < B) (h : d + B * x = e + B * y) : d = e ∧ x = y := by
  have h1 : (d + B * x) % B = d := by rw [Int.add_mul_emod_self_left]; exact Int.emod_eq_of_lt hd.1 hd.2
  have h2 : (e + B * y) % B = e := by rw [Int.add_mul_emod_self_left]; exact Int.emod_eq_of_lt he.1 he.2
  have h3 : d = e := by rw [← h1, h, h2]
  refine ⟨h3, ?_⟩
  subst h3
  have h4 : B * x = B * y := by omega
  exact Int.eq_of_mul_eq_mul_left (by omega) h4

/-- The digits are told by the value. -/
theorem uniq {B : Int} (hB : 0 < B) : ∀ (l m : List Int), Dig B l → Dig B m → Canon l → Canon m → V B l 0 = V B m 0 → l = m
  | [], m, _, hm, _, cm, h => (canon_zero hB hm cm h.symm).symm
  | a :: l, [], hl, _, cl, _, h => canon_zero hB hl cl h
  | a :: l, b :: m, hl, hm, cl, cm, h => by
    rw [V_cons, V_cons] at h
    obtain ⟨h1, h2⟩ := split_eq hB (Dig_cons.1 hl).1 (Dig_cons.1 hm).1 h
    subst h1
    rw [uniq hB l m (Dig_cons.1 hl).2 (Dig_cons.1 hm).2 (canon_cons cl) (canon_cons cm) h2]

/-! ### 'times m, plus c', digit by digit -/
/-- After i digits of D have been multiplied by m; the digits are now L; k is carried. -/
structure Inner (B m : Int) (D : List Int) (c : Int) (L : List Int) (i : Nat) (k : Int) : Prop where
  len : L.length = D.length
  dig : Dig B L
  rest : L.drop i = D.drop i
  val : V B (L.take i) (k + m * V B (D.drop i) 0) = c + m * V B D 0
  k0 : 0 ≤ k
  k1 : k < m

theorem inner_start {B m : Int} {D : List Int} {c : Int} (hD : Dig B D) (h0 : 0 ≤ c) (h1 : c < m) : Inner B m D c D 0 c :=
  ⟨rfl, hD, rfl, by simp [V_nil], h0, h1⟩

theorem drop_getD {l : List Int} {i : Nat} (h : i < l.length) : l.drop i = l.getD i 0 :: l.drop (i + 1) := by
  rw [List.drop_eq_getElem_cons h]; simp [List.getD, h]

theorem take_set_snoc {l : List Int} {i : Nat} (h : i < l.length) (v : Int) : (l.set i v).take (i + 1) = l.take i ++ [v] := by
  rw [List.take_succ_eq_append_getElem (by simpa using h)]
  simp only [List.getElem_set_self]
  rw [List.take_set, List.set_eq_of_length_le (by simp; omega)]

theorem drop_set_succ (l : List Int) (i : Nat) (v : Int) : (l.set i v).drop (i + 1) = l.drop (i + 1) := by
  rw [List.drop_set]; simp

theorem inner_step {B m : Int} (hB : 0 < B) (hm : 0 < m) {D : List Int} {c : Int} {L : List Int} {i : Nat} {k : Int} (h : Inner B m D c L i k) (hi : i < D.length) :
    Inner B m D c (L.set i ((k + L.getD i 0 * m) % B)) (i + 1) ((k + L.getD i 0 * m) / B) := by
  have hiL : i < L.length := by rw [h.len]; exact hi
  have hd := Dig_get h.dig i hiL
  have e1 := h.rest
  rw [drop_getD hiL, drop_getD hi] at e1
  obtain ⟨e2, e3⟩ := List.cons.inj e1
  generalize hx : L.getD i 0 = d at *
  have hq := Int.emod_add_mul_ediv (k + d * m) B
  have hr := Int.emod_nonneg (k + d * m) (show B ≠ 0 by omega)
  have hr2 := Int.emod_lt_of_pos (k + d * m) hB
  have hdm : 0 ≤ d * m := Int.mul_nonneg hd.1 (by omega)
  have k0 := h.k0
  have k1 := h.k1
  refine ⟨by simpa using h.len, Dig_set h.dig _ _ ⟨hr, hr2⟩, ?_, ?_, Int.ediv_nonneg (by omega) (by omega), ?_⟩
  · rw [drop_set_succ]; exact e3
  · rw [take_set_snoc hiL, V_snoc, ← h.val, drop_getD hi, ← e2, V_cons]
    congr 1
    generalize V B (D.drop (i + 1)) 0 = t
    have e4 : B * (m * t) = m * (B * t) := Int.mul_left_comm ..
    have e5 : d * m = m * d := Int.mul_comm ..
    rw [Int.mul_add, Int.mul_add]
    omega
  · refine Int.ediv_lt_of_lt_mul hB ?_
    have h5 : (d + 1) * m ≤ B * m := Int.mul_le_mul_of_nonneg_right (by omega) (by omega)
    rw [Int.add_mul] at h5
    have e6 : m * B = B * m := Int.mul_comm ..
    omega

/-- The digits so far, and the carry above them, make N. -/
structure Tail (B : Int) (N : Int) (L : List Int) (k : Int) : Prop where
  dig : Dig B L
  val : V B L k = N
  can : k = 0 → Canon L
  k0 : 0 ≤ k

theorem inner_end {B m : Int} (hB : 0 < B) (hm : 0 < m) {D : List Int} {c : Int} {L : List Int} {k : Int} (hD : Dig B D) (cD : Canon D) (h0 : 0 ≤ c) (h : Inner B m D c L D.length k) :
    Tail B (c + m * V B D 0) L k := by
  have hv := h.val
  rw [List.drop_length, V_nil, ← h.len, List.take_length] at hv
  simp only [Int.mul_zero, Int.add_zero] at hv
  refine ⟨h.dig, hv, ?_, h.k0⟩
  rintro rfl
  rcases (Classical.em (L = [])) with rfl | hL
  · exact canon_nil
  · obtain ⟨M, e, rfl⟩ := snoc_of_ne hL
    rw [canon_snoc]
    rintro rfl
    have hl := h.len
    have hne : D ≠ [] := by rintro rfl; simp at hl
    obtain ⟨E, d, rfl⟩ := snoc_of_ne hne
    have h1 := canon_snoc.1 cD
    have h2 := (Dig_cons.1 (Dig_append.1 hD).2).1
    have h3 := V_lt hB M E 0 d (by simpa using hl) (Dig_append.1 h.dig).1 (Dig_append.1 hD).1 (by omega)
    rw [V_snoc] at hv
    simp only [Int.mul_zero, Int.add_zero] at hv
    rw [V_snoc] at hv
    simp only [Int.mul_zero, Int.add_zero] at hv
    have h4 := V_pos hB E d (Dig_append.1 hD).1 (by omega)
    have h5 : 1 * V B E d ≤ m * V B E d := Int.mul_le_mul_of_nonneg_right (by omega) (by omega)
    omega

theorem tail_step {B : Int} (hB : 0 < B) {N : Int} {L : List Int} {k : Int} (h : Tail B N L k) (hk : 0 < k) : Tail B N (L ++ [k % B]) (k / B) := by
  have hq := Int.emod_add_mul_ediv k B
  have hr := Int.emod_nonneg k (show B ≠ 0 by omega)
  have hr2 := Int.emod_lt_of_pos k hB
  refine ⟨Dig_append.2 ⟨h.dig, Dig_cons.2 ⟨⟨hr, hr2⟩, Dig_nil B⟩⟩, ?_, ?_, Int.ediv_nonneg h.k0 (by omega)⟩
  · rw [V_snoc, hq]; exact h.val
  · intro e
    rw [canon_snoc]
    rw [e] at hq
    simp at hq
    omega

/-! ### Long division by m of a number in base B, the most significant digit first -/
structure Div (B m : Int) (X : List Int) (Y : List Int) (i : Nat) (r : Int) : Prop where
  len : Y.length = X.length
  dig : Dig B Y
  rest : Y.drop i = X.drop i
  val : V B (X.take i).reverse 0 = r + m * V B (Y.take i).reverse 0
  r0 : 0 ≤ r
  r1 : r < m

theorem V_rev_snoc (B x : Int) (l : List Int) : V B (l ++ [x]).reverse 0 = x + B * V B l.reverse 0 := by
  simp [V_cons]

theorem take_snoc {l : List Int} {i : Nat} (h : i < l.length) : l.take (i + 1) = l.take i ++ [l.getD i 0] := by
  rw [List.take_succ_eq_append_getElem h]; simp [List.getD, h]

theorem V_zeros (B : Int) (n : Nat) : V B (List.replicate n (0 : Int)).reverse 0 = 0 := by
  rw [List.reverse_replicate]
  induction n with
  | zero => rfl
  | succ n ih => rw [List.replicate_succ, V_cons, ih]; simp

theorem div_start {B m : Int} {X : List Int} {s : Nat} (hX : Dig B X) (hm : 0 < m) (hs : X.take s = List.replicate s 0) : Div B m X X s 0 :=
  ⟨rfl, hX, rfl, by rw [hs, V_zeros]; simp, Int.le_refl _, hm⟩

theorem div_step {B m : Int} (hB : 0 < B) (hm : 0 < m) {X Y : List Int} {i : Nat} {r : Int} (h : Div B m X Y i r) (hi : i < X.length) :
    Div B m X (Y.set i ((r * B + Y.getD i 0) / m)) (i + 1) ((r * B + Y.getD i 0) % m) := by
  have hiY : i < Y.length := by rw [h.len]; exact hi
  have hd := Dig_get h.dig i hiY
  have e1 := h.rest
  rw [drop_getD hiY, drop_getD hi] at e1
  obtain ⟨e2, e3⟩ := List.cons.inj e1
  generalize hx : Y.getD i 0 = d at *
  have hq := Int.emod_add_mul_ediv (r * B + d) m
  have hr := Int.emod_nonneg (r * B + d) (show m ≠ 0 by omega)
  have hr2 := Int.emod_lt_of_pos (r * B + d) hm
  have r0 := h.r0
  have r1 := h.r1
  have hrB : 0 ≤ r * B := Int.mul_nonneg r0 (by omega)
  have hql : (r * B + d) / m < B := by
    refine Int.ediv_lt_of_lt_mul hm ?_
    have h5 : (r + 1) * B ≤ m * B := Int.mul_le_mul_of_nonneg_right (by omega) (by omega)
    rw [Int.add_mul] at h5
    have e6 : B * m = m * B := Int.mul_comm ..
    omega
  refine ⟨by simpa using h.len, Dig_set h.dig _ _ ⟨Int.ediv_nonneg (by omega) (by omega), hql⟩, ?_, ?_, hr, hr2⟩
  · rw [drop_set_succ]; exact e3
  · rw [take_set_snoc hiY, take_snoc hi, ← e2, V_rev_snoc, V_rev_snoc, h.val]
    generalize V B (Y.take i).reverse 0 = t
    have e4 : B * (m * t) = m * (B * t) := Int.mul_left_comm ..
    have e5 : r * B = B * r := Int.mul_comm ..
    rw [Int.mul_add, Int.mul_add]
    omega

theorem div_end {B m : Int} {X Y : List Int} {r : Int} (h : Div B m X Y X.length r) : V B X.reverse 0 = r + m * V B Y.reverse 0 := by
  have hv := h.val
  rw [List.take_length, ← h.len, List.take_length] at hv
  exact hv

/-! ### The comparisons -/
def cmp (a b : Int) : Int := if a < b then -1 else if b < a then 1 else 0
/-- Digit by digit, the first that parts decides. -/
def lex : List Int → List Int → Int
  | x :: xs, y :: ys => if x < y then -1 else if y < x then 1 else lex xs ys
  | _, _ => 0
/-- The shorter is the smaller, then digit by digit. -/
def slex (x y : List Int) : Int := if x.length < y.length then -1 else if y.length < x.length then 1 else lex x y

theorem V_rev_cons (B x t : Int) (l : List Int) : V B (x :: l).reverse t = V B l.reverse (x + B * t) := by
  rw [List.reverse_cons, V_snoc]

theorem lex_cmp {B : Int} (hB : 0 < B) : ∀ (x y : List Int) (t : Int), x.length = y.length → Dig B x → Dig B y → lex x y = cmp (V B x.reverse t) (V B y.reverse t)
  | [], [], t, _, _, _ => by simp [lex, cmp]
  | [], _ :: _, _, h, _, _ => by simp at h
  | _ :: _, [], _, h, _, _ => by simp at h
  | a :: x, b :: y, t, h, hx, hy => by
    have hl : x.reverse.length = y.reverse.length := by simpa using h
    have dx := Dig_reverse (Dig_cons.1 hx).2
    have dy := Dig_reverse (Dig_cons.1 hy).2
    rw [V_rev_cons, V_rev_cons]
    unfold lex
    by_cases h1 : a < b
    · have := V_lt hB x.reverse y.reverse (a + B * t) (b + B * t) hl dx dy (by omega)
      simp [h1, cmp, this]
    · by_cases h2 : b < a
      · have := V_lt hB y.reverse x.reverse (b + B * t) (a + B * t) hl.symm dy dx (by omega)
        have h3 : ¬ V B x.reverse (a + B * t) < V B y.reverse (b + B * t) := by omega
        simp [h1, h2, cmp, this, h3]
      · have h3 : a = b := by omega
        subst h3
        simp only [Int.lt_irrefl, if_false]
        exact lex_cmp hB x y _ (by simpa using h) (Dig_cons.1 hx).2 (Dig_cons.1 hy).2

theorem len_lt_V {B : Int} (hB : 0 < B) {l m : List Int} (hl : Dig B l) (hm : Dig B m) (cm : Canon m) (h : l.length < m.length) : V B l 0 < V B m 0 := by
  have hne : m ≠ [] := by rintro rfl; simp at h
  obtain ⟨E, d, rfl⟩ := snoc_of_ne hne
  have h1 := canon_snoc.1 cm
  have h2 := (Dig_cons.1 (Dig_append.1 hm).2).1
  rw [V_snoc]
  refine V_lt_len hB l E _ ?_ hl (Dig_append.1 hm).1 (by omega)
  simp at h
  omega

theorem slex_cmp {B : Int} (hB : 0 < B) {x y : List Int} (hx : Dig B x) (hy : Dig B y) (cx : Canon x.reverse) (cy : Canon y.reverse) :
    slex x y = cmp (V B x.reverse 0) (V B y.reverse 0) := by
  unfold slex
  by_cases h1 : x.length < y.length
  · have := len_lt_V hB (Dig_reverse hx) (Dig_reverse hy) cy (by simpa using h1)
    simp [h1, cmp, this]
  · by_cases h2 : y.length < x.length
    · have := len_lt_V hB (Dig_reverse hy) (Dig_reverse hx) cx (by simpa using h2)
      have h3 : ¬ V B x.reverse 0 < V B y.reverse 0 := by omega
      simp [h1, h2, cmp, this, h3]
    · simp only [h1, h2, if_false]
      exact lex_cmp hB x y 0 (by omega) hx hy

/-! ### The alphabet -/
def alpha (d : Int) : Int :=
  if d < 9 then 49 + d else if d < 17 then 65 + (d - 9) else if d < 22 then 74 + (d - 17) else if d < 33 then 80 + (d - 22) else if d < 44 then 97 + (d - 33) else 109 + (d - 44)

theorem alpha_range {d : Int} (h0 : 0 ≤ d) (h1 : d < 58) : 49 ≤ alpha d ∧ alpha d ≤ 122 := by
  unfold alpha; repeat' split
  all_goals omega
theorem alpha_lt {d e : Int} (h : d < e) (h1 : e < 58) : alpha d < alpha e := by
  unfold alpha; repeat' split
  all_goals omega

/-! ### The text -/
/-- k ones, then room: n cells in all. -/
def ones (n k : Nat) : List Int := List.replicate k 49 ++ List.replicate (n - k) 0
theorem set_mid (A B : List Int) (x v : Int) (k : Nat) (hk : k = A.length) : (A ++ x :: B).set k v = A ++ v :: B := by
  subst hk
  rw [List.set_append_right _ _ (Nat.le_refl _)]
  simp
theorem ones_len (n k : Nat) (h : k ≤ n) : (ones n k).length = n := by simp [ones]; omega
theorem ones_step (n k : Nat) (h : k < n) : (ones n k).set k 49 = ones n (k + 1) := by
  unfold ones
  rw [show n - k = (n - (k + 1)) + 1 by omega, List.replicate_succ, set_mid _ _ _ _ _ (by simp), List.replicate_succ']
  simp

/-- z ones, then room, then j digits from behind. -/
def filled (z : Nat) (D : List Int) (j : Nat) : List Int := List.replicate z 49 ++ (List.replicate (D.length - j) 0 ++ ((D.take j).map alpha).reverse)
theorem filled_zero (z : Nat) (D : List Int) : filled z D 0 = ones (z + D.length) z := by simp [filled, ones]
theorem filled_len (z : Nat) (D : List Int) (j : Nat) (h : j ≤ D.length) : (filled z D j).length = z + D.length := by simp [filled]; omega
theorem filled_step (z : Nat) (D : List Int) (j : Nat) (h : j < D.length) : (filled z D j).set (z + D.length - 1 - j) (alpha (D.getD j 0)) = filled z D (j + 1) := by
  unfold filled
  rw [show D.length - j = (D.length - (j + 1)) + 1 by omega, List.replicate_succ', take_snoc h]
  simp only [List.append_assoc, List.cons_append, List.nil_append]
  rw [← List.append_assoc, set_mid _ _ _ _ _ (by simp; omega)]
  simp
theorem filled_end (z : Nat) (D : List Int) : filled z D D.length = List.replicate z 49 ++ (D.map alpha).reverse := by simp [filled]

/-- 'out' is the base58 text of the bytes zs. -/
def Enc (zs out : List Int) : Prop := ∃ (z : Nat) (D : List Int), z ≤ zs.length ∧ zs.take z = List.replicate z 0 ∧ (z < zs.length → zs.getD z 0 ≠ 0) ∧ Dig 58 D ∧ Canon D ∧ V 58 D 0 = V 256 (zs.drop z).reverse 0 ∧ out = List.replicate z 49 ++ (D.map alpha).reverse

end Go.Proofs.Qxb6603022a.M58
