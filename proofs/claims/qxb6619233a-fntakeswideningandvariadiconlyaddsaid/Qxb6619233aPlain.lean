/-
  THE PLAIN LAWS OF 'takes': no Go in sight. A signature P, a list of arguments A, as lists of numbers.
-/
namespace Go.Proofs.Qxb6619233a.Plain

/-- The argument a fits the parameter p. -/
def fitB (wd : Bool) (a p : Int) : Bool := a == p || (wd && a == 1 && p == 2)
/-- The parameter that takes argument i. -/
def parAt (P : List Int) (i : Nat) : Int := P.getD (min i (P.length - 1)) 0
/-- Are the two lengths let? -/
def lenB (n : Nat) (v : Bool) (m : Nat) : Bool := m == n || (v && decide (n ≤ m))
/-- Do the first k arguments fit? -/
def upTo (P A : List Int) (wd : Bool) : Nat → Bool
  | 0 => true
  | k + 1 => upTo P A wd k && fitB wd (A.getD k 0) (parAt P k)
/-- What 'takes' answers. -/
def takesB (P : List Int) (v : Bool) (A : List Int) (wd : Bool) : Bool := lenB P.length v A.length && upTo P A wd A.length

theorem upTo_iff (P A : List Int) (wd : Bool) (k : Nat) : upTo P A wd k = true ↔ ∀ i, i < k → fitB wd (A.getD i 0) (parAt P i) = true := by
  induction k with
  | zero => simp [upTo]
  | succ k ih =>
    simp only [upTo, Bool.and_eq_true, ih]
    constructor
    · rintro ⟨h, h'⟩ i hi
      by_cases e : i = k
      · subst e; exact h'
      · exact h i (by omega)
    · intro h
      exact ⟨fun i hi => h i (by omega), h k (by omega)⟩

theorem upTo_stop (P A : List Int) (wd : Bool) (k n : Nat) (hk : k < n) (h : fitB wd (A.getD k 0) (parAt P k) = false) : upTo P A wd n = false := by
  cases e : upTo P A wd n with
  | false => rfl
  | true => have := (upTo_iff P A wd n).1 e k hk; rw [h] at this; cases this

theorem lenB_iff (n : Nat) (v : Bool) (m : Nat) : lenB n v m = true ↔ m = n ∨ (v = true ∧ n ≤ m) := by simp [lenB]

theorem takesB_iff (P : List Int) (v : Bool) (A : List Int) (wd : Bool) :
    takesB P v A wd = true ↔ (A.length = P.length ∨ (v = true ∧ P.length ≤ A.length)) ∧ ∀ i, i < A.length → fitB wd (A.getD i 0) (parAt P i) = true := by
  simp [takesB, lenB_iff, upTo_iff]

theorem fitB_refl (wd : Bool) (a : Int) : fitB wd a a = true := by simp [fitB]
theorem fitB_widen (a p : Int) (h : fitB false a p = true) (wd : Bool) : fitB wd a p = true := by
  simp [fitB] at h; subst h; exact fitB_refl _ _

theorem getD_take (L : List Int) (k i : Nat) (h : i < k) : (L.take k).getD i 0 = L.getD i 0 := by simp [List.getD, h]
theorem getD_drop (L : List Int) (k i : Nat) : (L.drop k).getD i 0 = L.getD (k + i) 0 := by simp [List.getD]

theorem parAt_lt (P : List Int) (i : Nat) (h : i < P.length) : parAt P i = P.getD i 0 := by
  unfold parAt; rw [Nat.min_eq_left (by omega)]
theorem parAt_take (P : List Int) (k i : Nat) (h : i < k) (hk : k ≤ P.length) : parAt (P.take k) i = parAt P i := by
  rw [parAt_lt _ _ (by simp; omega), parAt_lt _ _ (by omega), getD_take _ _ _ h]
theorem parAt_drop (P : List Int) (k i : Nat) (hk : k < P.length) : parAt (P.drop k) i = parAt P (k + i) := by
  unfold parAt; rw [getD_drop]; congr 1; simp only [List.length_drop]; omega

/-! ### The cut -/
theorem cut_iff (P A : List Int) (k : Nat) (v wd : Bool) (hP : k ≤ P.length) (hA : k ≤ A.length) (hv : v = true → k < P.length) :
    takesB P v A wd = (takesB (P.take k) false (A.take k) wd && takesB (P.drop k) v (A.drop k) wd) := by
  rw [Bool.eq_iff_iff, Bool.and_eq_true, takesB_iff, takesB_iff, takesB_iff]
  simp only [List.length_take, List.length_drop, Nat.min_eq_left hP, Nat.min_eq_left hA]
  have e1 : ∀ i, i < k → (fitB wd ((A.take k).getD i 0) (parAt (P.take k) i) = fitB wd (A.getD i 0) (parAt P i)) := fun i hi => by
    rw [getD_take _ _ _ hi, parAt_take _ _ _ hi hP]
  constructor
  · rintro ⟨hl, h⟩
    refine ⟨⟨.inl (by simp), fun i hi => ?_⟩, ⟨?_, fun i hi => ?_⟩⟩
    · rw [e1 i hi]; exact h i (by omega)
    · rcases hl with hl | ⟨hv', hl⟩
      · exact .inl (by omega)
      · exact .inr ⟨hv', by omega⟩
    · have hk : k < P.length := by
        rcases hl with hl | ⟨hv', hl⟩
        · omega
        · exact hv hv'
      rw [getD_drop, parAt_drop _ _ _ hk]; exact h (k + i) (by omega)
  · rintro ⟨⟨_, h1⟩, ⟨hl, h2⟩⟩
    refine ⟨?_, fun i hi => ?_⟩
    · rcases hl with hl | ⟨hv', hl⟩
      · exact .inl (by omega)
      · exact .inr ⟨hv', by omega⟩
    · by_cases hik : i < k
      · rw [← e1 i hik]; exact h1 i hik
      · have hk : k < P.length := by
          rcases hl with hl | ⟨hv', hl⟩
          · omega
          · exact hv hv'
        have := h2 (i - k) (by omega)
        rw [getD_drop, parAt_drop _ _ _ hk, show k + (i - k) = i by omega] at this
        exact this

/-- Every signature takes its own types. -/
theorem own_true (P : List Int) (v wd : Bool) : takesB P v P wd = true := by
  rw [takesB_iff]
  exact ⟨.inl rfl, fun i hi => by rw [parAt_lt _ _ hi]; exact fitB_refl _ _⟩

/-! ### Widening and variadic only add -/
theorem widen (P A : List Int) (v wd : Bool) (h : takesB P v A false = true) : takesB P v A wd = true := by
  rw [takesB_iff] at h ⊢
  exact ⟨h.1, fun i hi => fitB_widen _ _ (h.2 i hi) wd⟩
theorem vary (P A : List Int) (wd : Bool) (h : takesB P false A wd = true) : takesB P true A wd = true := by
  rw [takesB_iff] at h ⊢
  refine ⟨.inl ?_, h.2⟩
  rcases h.1 with h1 | ⟨h1, _⟩
  · exact h1
  · cases h1
theorem vary_short (P A : List Int) (wd : Bool) (hl : A.length ≤ P.length) : takesB P true A wd = takesB P false A wd := by
  rw [Bool.eq_iff_iff, takesB_iff, takesB_iff]
  constructor
  · rintro ⟨h1, h2⟩
    refine ⟨.inl ?_, h2⟩
    rcases h1 with h1 | ⟨_, h1⟩
    · exact h1
    · omega
  · rintro ⟨h1, h2⟩
    refine ⟨.inl ?_, h2⟩
    rcases h1 with h1 | ⟨h1, _⟩
    · exact h1
    · cases h1
theorem none_takes (A : List Int) (wd : Bool) : takesB [] false A wd = decide (A.length = 0) := by
  rw [Bool.eq_iff_iff, takesB_iff]
  simp only [List.length_nil, decide_eq_true_eq]
  constructor
  · rintro ⟨h | ⟨h, _⟩, _⟩
    · exact h
    · cases h
  · intro h
    exact ⟨.inl h, fun i hi => by omega⟩
theorem getD_snoc_lt (A : List Int) (x : Int) (i : Nat) (h : i < A.length) : (A ++ [x]).getD i 0 = A.getD i 0 := by
  simp [List.getD, List.getElem?_append, h]
theorem getD_snoc_eq (A : List Int) (x : Int) : (A ++ [x]).getD A.length 0 = x := by
  simp [List.getD]
theorem parAt_last (P : List Int) (i : Nat) (h : P.length - 1 ≤ i) : parAt P i = P.getD (P.length - 1) 0 := by
  unfold parAt; rw [Nat.min_eq_right h]
theorem grown (P A : List Int) (x : Int) (wd : Bool) (hP : 0 < P.length) (hl : P.length ≤ A.length) :
    takesB P true (A ++ [x]) wd = (takesB P true A wd && fitB wd x (P.getD (P.length - 1) 0)) := by
  rw [Bool.eq_iff_iff, Bool.and_eq_true, takesB_iff, takesB_iff]
  simp only [List.length_append, List.length_cons, List.length_nil]
  constructor
  · rintro ⟨_, h⟩
    refine ⟨⟨.inr ⟨by simp, hl⟩, fun i hi => ?_⟩, ?_⟩
    · have := h i (by omega); rw [getD_snoc_lt _ _ _ hi] at this; exact this
    · have := h A.length (by omega); rw [getD_snoc_eq, parAt_last _ _ (by omega)] at this; exact this
  · rintro ⟨⟨_, h⟩, hx⟩
    refine ⟨.inr ⟨by simp, by omega⟩, fun i hi => ?_⟩
    by_cases e : i < A.length
    · rw [getD_snoc_lt _ _ _ e]; exact h i e
    · obtain rfl : i = A.length := by omega
      rw [getD_snoc_eq, parAt_last _ _ (by omega)]; exact hx
theorem repeated (P : List Int) (wd : Bool) (hP : 0 < P.length) : takesB P true (P ++ [P.getD (P.length - 1) 0]) wd = true := by
  rw [grown P P _ wd hP (Nat.le_refl _), own_true, fitB_refl]; rfl
theorem repeated_not (P : List Int) (x : Int) (wd : Bool) : takesB P false (P ++ [x]) wd = false := by
  cases e : takesB P false (P ++ [x]) wd with
  | false => rfl
  | true =>
    rw [takesB_iff] at e
    rcases e.1 with h | ⟨h, _⟩
    · simp at h
    · cases h

/-! ### The expansion model -/
/-- The first argument behind those that parameter j takes. -/
def hiOf (n m j : Nat) : Nat := if j + 1 = n then m else j + 1
/-- The model's walk: do all arguments that the first j parameters take fit? -/
def rowFit (P A : List Int) (wd : Bool) (j : Nat) : Nat → Nat → Bool
  | _, 0 => true
  | i, k + 1 => fitB wd (A.getD i 0) (P.getD j 0) && rowFit P A wd j (i + 1) k

theorem model_len (n m : Nat) (v : Bool) (hv : ¬ (v = true ∧ n = 0 ∧ 0 < m)) : lenB n v m = (m == n || (v && decide (0 < n) && decide (n < m))) := by
  rw [Bool.eq_iff_iff]
  simp [lenB]
  constructor
  · rintro (h | ⟨h1, h2⟩)
    · exact .inl h
    · by_cases e : m = n
      · exact .inl e
      · refine .inr ⟨⟨h1, ?_⟩, by omega⟩
        by_cases e0 : n = 0
        · exact absurd ⟨h1, e0, by omega⟩ hv
        · omega
  · rintro (h | ⟨⟨h1, _⟩, h2⟩)
    · exact .inl h
    · exact .inr ⟨h1, by omega⟩

/-- The parameter that takes argument i, said by the walk over the parameters: j's own. -/
theorem parAt_row (P : List Int) (m i j : Nat) (hj : j < P.length) (hi : j ≤ i) (hhi : i < hiOf P.length m j) : parAt P i = P.getD j 0 := by
  unfold hiOf at hhi
  split at hhi
  · rw [parAt_last _ _ (by omega)]; congr 1; omega
  · obtain rfl : i = j := by omega
    exact parAt_lt _ _ hj

end Go.Proofs.Qxb6619233a.Plain
