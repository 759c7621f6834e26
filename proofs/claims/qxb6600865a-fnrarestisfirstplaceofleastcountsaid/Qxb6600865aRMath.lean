/- THE PLAIN MATHEMATICS OF 'rarest': no Go in sight. -/
namespace Go.Proofs.Qxb6600865a.RM

/-- How often b stands in xs. -/
def occ (xs : List Int) (b : Int) : Int := ((xs.filter (fun x => x == b)).length : Nat)
theorem occ_nonneg (xs : List Int) (b : Int) : 0 ≤ occ xs b := by unfold occ; omega
theorem occ_le (xs : List Int) (b : Int) : occ xs b ≤ xs.length := by
  unfold occ; have := List.length_filter_le (fun x => x == b) xs; omega
theorem occ_snoc (xs : List Int) (x b : Int) : occ (xs ++ [x]) b = occ xs b + if x = b then 1 else 0 := by
  unfold occ
  rw [List.filter_append]
  by_cases h : x = b <;> simp [h]

/-- The table of counts of all bytes. -/
def Tab (cs xs : List Int) : Prop := cs.length = 256 ∧ ∀ b : Int, 0 ≤ b → b < 256 → cs.getD b.toNat 0 = occ xs b
theorem getD_rep (n k : Nat) : (List.replicate n (0 : Int)).getD k 0 = 0 := by
  by_cases h : k < n <;> simp [List.getD, h]
theorem tab_zero : Tab (List.replicate 256 0) [] :=
  ⟨List.length_replicate, fun b _ _ => by rw [getD_rep]; rfl⟩
theorem tab_step {cs xs : List Int} {x : Int} (h : Tab cs xs) (h0 : 0 ≤ x) (h1 : x < 256) : Tab (cs.set x.toNat (cs.getD x.toNat 0 + 1)) (xs ++ [x]) := by
  refine ⟨by simpa using h.1, fun b b0 b1 => ?_⟩
  rw [occ_snoc, ← h.2 b b0 b1]
  by_cases e : x = b
  · subst e
    have hl : x.toNat < cs.length := by rw [h.1]; omega
    simp [List.getD, List.getElem?_set_self hl]
  · have hne : x.toNat ≠ b.toNat := by omega
    simp [List.getD, List.getElem?_set_ne hne, e]

/-- The first i places of needle k. -/
def items (Y : Nat → List Int) (k i : Nat) : List (Nat × Nat × Int) := (List.range i).map (fun j => (k, j, (Y k).getD j 0))
/-- All places of the first k needles, and the first i of needle k. -/
def F (Y : Nat → List Int) (k i : Nat) : List (Nat × Nat × Int) := (List.range k).flatMap (fun r => items Y r (Y r).length) ++ items Y k i
theorem F_zero (Y : Nat → List Int) : F Y 0 0 = [] := by simp [F, items]
theorem F_step (Y : Nat → List Int) (k i : Nat) : F Y k (i + 1) = F Y k i ++ [(k, i, (Y k).getD i 0)] := by
  simp [F, items, List.range_succ]
theorem F_next (Y : Nat → List Int) (k : Nat) : F Y (k + 1) 0 = F Y k (Y k).length := by
  simp [F, items, List.range_succ]
theorem items_pre (Y : Nat → List Int) (k i : Nat) : ∀ n, i < n → ∃ r, items Y k n = items Y k i ++ (k, i, (Y k).getD i 0) :: r := by
  intro n
  induction n with
  | zero => intro h; omega
  | succ n ih =>
    intro h
    rcases Nat.lt_or_ge i n with h1 | h1
    · obtain ⟨r, hr⟩ := ih h1
      refine ⟨r ++ [(k, n, (Y k).getD n 0)], ?_⟩
      have e : items Y k (n + 1) = items Y k n ++ [(k, n, (Y k).getD n 0)] := by simp [items, List.range_succ]
      rw [e, hr]; simp
    · have e : n = i := by omega
      subst e
      exact ⟨[], by simp [items, List.range_succ]⟩
theorem F_pre (Y : Nat → List Int) (k : Nat) : ∀ K, k ≤ K → ∃ r, F Y K 0 = F Y k 0 ++ r := by
  intro K
  induction K with
  | zero => intro h; have e : k = 0 := by omega
            subst e; exact ⟨[], by simp⟩
  | succ K ih =>
    intro h
    rcases Nat.lt_or_ge k (K + 1) with h1 | h1
    · obtain ⟨r, hr⟩ := ih (by omega)
      refine ⟨r ++ items Y K (Y K).length, ?_⟩
      have e : F Y (K + 1) 0 = F Y K 0 ++ items Y K (Y K).length := by simp [F, items, List.range_succ]
      rw [e, hr]; simp
    · have e : k = K + 1 := by omega
      subst e
      exact ⟨[], by simp⟩
theorem F_split (Y : Nat → List Int) {k i K : Nat} (hk : k < K) (hi : i < (Y k).length) : ∃ r, F Y K 0 = F Y k i ++ (k, i, (Y k).getD i 0) :: r := by
  obtain ⟨r1, h1⟩ := F_pre Y (k + 1) K (by omega)
  obtain ⟨r2, h2⟩ := items_pre Y k i (Y k).length hi
  refine ⟨r2 ++ r1, ?_⟩
  rw [h1, F_next]
  unfold F
  rw [h2]
  simp

/-- The choice, place by place. -/
def upd (f : Int → Int) (p : Option (Nat × Nat × Int)) (x : Nat × Nat × Int) : Option (Nat × Nat × Int) :=
  match p with
  | none => some x
  | some b => if f x.2.2 < f b.2.2 then some x else some b
def best (f : Int → Int) (l : List (Nat × Nat × Int)) : Option (Nat × Nat × Int) := l.foldl (upd f) none
theorem best_snoc (f : Int → Int) (l : List (Nat × Nat × Int)) (x : Nat × Nat × Int) : best f (l ++ [x]) = upd f (best f l) x := by
  simp [best, List.foldl_append]
def atOf : Option (Nat × Nat × Int) → Int
  | none => 0
  | some b => (b.2.1 : Int)
def leastOf (f : Int → Int) : Option (Nat × Nat × Int) → Int
  | none => -1
  | some b => f b.2.2

theorem upd_lt {f : Int → Int} {p : Option (Nat × Nat × Int)} {x : Nat × Nat × Int} (h : leastOf f p < 0 ∨ f x.2.2 < leastOf f p) (h0 : ∀ b, 0 ≤ f b) : upd f p x = some x := by
  cases p with
  | none => rfl
  | some b =>
    unfold upd
    have hb := h0 b.2.2
    simp only [leastOf] at h
    simp only []
    rw [if_pos (by omega)]
theorem upd_ge {f : Int → Int} {p : Option (Nat × Nat × Int)} {x : Nat × Nat × Int} (h : ¬ leastOf f p < 0) (h2 : ¬ f x.2.2 < leastOf f p) : upd f p x = p := by
  cases p with
  | none => simp [leastOf] at h
  | some b =>
    unfold upd
    simp only [leastOf] at h2
    simp only [if_neg h2]

/-- The least value, from m0 down. -/
def low (f : Int → Int) (m0 : Int) (l : List (Nat × Nat × Int)) : Int := l.foldl (fun m x => if f x.2.2 < m then f x.2.2 else m) m0
theorem low_snoc (f : Int → Int) (m0 : Int) (l : List (Nat × Nat × Int)) (x : Nat × Nat × Int) : low f m0 (l ++ [x]) = if f x.2.2 < low f m0 l then f x.2.2 else low f m0 l := by
  unfold low; rw [List.foldl_append]; rfl
theorem low_cons (f : Int → Int) (m0 : Int) (l : List (Nat × Nat × Int)) (x : Nat × Nat × Int) : low f m0 (x :: l) = low f (if f x.2.2 < m0 then f x.2.2 else m0) l := rfl
theorem low_le (f : Int → Int) : ∀ (l : List (Nat × Nat × Int)) (m0 : Int), low f m0 l ≤ m0 ∧ ∀ x ∈ l, low f m0 l ≤ f x.2.2
  | [], m0 => ⟨Int.le_refl _, fun x hx => by simp at hx⟩
  | y :: l, m0 => by
    rw [low_cons]
    obtain ⟨h1, h2⟩ := low_le f l (if f y.2.2 < m0 then f y.2.2 else m0)
    have h3 : (if f y.2.2 < m0 then f y.2.2 else m0) ≤ m0 ∧ (if f y.2.2 < m0 then f y.2.2 else m0) ≤ f y.2.2 := by split <;> omega
    refine ⟨by omega, fun x hx => ?_⟩
    rcases List.mem_cons.1 hx with rfl | hx
    · omega
    · exact h2 x hx
theorem low_att (f : Int → Int) : ∀ (l : List (Nat × Nat × Int)) (m0 : Int), low f m0 l = m0 ∨ ∃ x ∈ l, f x.2.2 = low f m0 l
  | [], m0 => .inl rfl
  | y :: l, m0 => by
    rw [low_cons]
    rcases low_att f l (if f y.2.2 < m0 then f y.2.2 else m0) with h | ⟨x, hx, h⟩
    · by_cases hy : f y.2.2 < m0
      · rw [if_pos hy] at h ⊢
        exact .inr ⟨y, by simp, h.symm⟩
      · rw [if_neg hy] at h ⊢
        exact .inl h
    · exact .inr ⟨x, by simp [hx], h⟩

theorem best_mem (f : Int → Int) : ∀ (l : List (Nat × Nat × Int)) (p : Option (Nat × Nat × Int)), l.foldl (upd f) p = p ∨ ∃ x ∈ l, l.foldl (upd f) p = some x
  | [], p => .inl rfl
  | y :: l, p => by
    rw [List.foldl_cons]
    rcases best_mem f l (upd f p y) with h | ⟨x, hx, h⟩
    · rw [h]
      cases p with
      | none => exact .inr ⟨y, by simp, rfl⟩
      | some b =>
        unfold upd
        by_cases hb : f y.2.2 < f b.2.2
        · exact .inr ⟨y, by simp, by simp [hb]⟩
        · exact .inl (by simp [hb])
    · exact .inr ⟨x, by simp [hx], h⟩
theorem best_stay (f : Int → Int) (x : Nat × Nat × Int) : ∀ l : List (Nat × Nat × Int), (∀ y ∈ l, f x.2.2 ≤ f y.2.2) → l.foldl (upd f) (some x) = some x
  | [], _ => rfl
  | y :: l, h => by
    rw [List.foldl_cons]
    have hy := h y (by simp)
    have e : upd f (some x) y = some x := by unfold upd; simp only []; rw [if_neg (by omega)]
    rw [e]
    exact best_stay f x l (fun z hz => h z (by simp [hz]))
theorem best_first (f : Int → Int) {l1 l2 : List (Nat × Nat × Int)} {x : Nat × Nat × Int} (h1 : ∀ y ∈ l1, f x.2.2 < f y.2.2) (h2 : ∀ y ∈ l2, f x.2.2 ≤ f y.2.2) : best f (l1 ++ x :: l2) = some x := by
  unfold best
  rw [List.foldl_append, List.foldl_cons]
  have e : upd f (l1.foldl (upd f) none) x = some x := by
    rcases best_mem f l1 none with h | ⟨b, hb, h⟩
    · rw [h]; rfl
    · rw [h]; unfold upd; simp only []; rw [if_pos (h1 b hb)]
  rw [e]
  exact best_stay f x l2 h2

/-! ### The law -/
theorem law_none {f : Int → Int} {S : Int} (hS : ∀ b, f b ≤ S) {l : List (Nat × Nat × Int)} (h : S < low f (S + 1) l) : best f l = none := by
  cases l with
  | nil => rfl
  | cons y l =>
    have := (low_le f (y :: l) (S + 1)).2 y (by simp)
    have := hS y.2.2
    omega
theorem law_must {f : Int → Int} {S : Int} {l : List (Nat × Nat × Int)} (h : low f (S + 1) l ≤ S) : ∃ x ∈ l, f x.2.2 = low f (S + 1) l := by
  rcases low_att f l (S + 1) with h1 | h1
  · omega
  · exact h1
theorem law_found {f : Int → Int} {S : Int} {l l1 l2 : List (Nat × Nat × Int)} {x : Nat × Nat × Int} (hl : l = l1 ++ x :: l2) (h1 : ∀ y ∈ l1, f y.2.2 ≠ low f (S + 1) l) (hx : f x.2.2 = low f (S + 1) l) : best f l = some x := by
  have hle := (low_le f l (S + 1)).2
  rw [hl]
  refine best_first f (fun y hy => ?_) (fun y hy => ?_)
  · have a := hle y (by rw [hl]; simp [hy])
    have b := h1 y hy
    omega
  · have a := hle y (by rw [hl]; simp [hy])
    omega
end Go.Proofs.Qxb6600865a.RM
