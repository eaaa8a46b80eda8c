/-
  THE PLAIN LAWS OF 'number': no Go in sight. A text is a list of bytes.
-/
namespace Go.Proofs.Qxb6619233a.Num

/-- The first byte as a number; 0 where there is none. -/
def hd : List UInt8 → Int
  | [] => 0
  | c :: _ => (c.toNat : Int)
def dg (c : Int) : Bool := decide (48 ≤ c) && decide (c ≤ 57)
/-- How many digits stand ahead. -/
def dl : List UInt8 → Nat
  | [] => 0
  | c :: r => if dg (c.toNat : Int) then dl r + 1 else 0

/-- Behind the digits and the point's digits: the kind so far (2: an integer, 3: a fraction) and how many bytes. -/
def frac (L : List UInt8) : Nat × Nat :=
  if hd (L.drop (dl L)) = 46 then (3, dl L + 1 + dl (L.drop (dl L + 1))) else (2, dl L)
/-- Behind the exponent's letter and sign. -/
def sgn (L : List UInt8) (n : Nat) : Nat := if hd (L.drop n) = 43 ∨ hd (L.drop n) = 45 then n + 1 else n
/-- What 'number' reads: the token's kind (1: invalid) and how many bytes. -/
def numL (L : List UInt8) : Nat × Nat :=
  let f := frac L
  if hd (L.drop f.2) = 101 ∨ hd (L.drop f.2) = 69 then
    let m := sgn L (f.2 + 1)
    if dg (hd (L.drop m)) = true then (3, m + dl (L.drop m)) else (1, m)
  else f

/-- One step of the automaton; -1: no move. -/
def stepI (st : Nat) (c : Int) : Int :=
  if st = 0 then (if dg c then 0 else if c = 46 then 1 else if c = 101 ∨ c = 69 then 2 else -1)
  else if st = 1 then (if dg c then 1 else if c = 101 ∨ c = 69 then 2 else -1)
  else if st = 2 then (if c = 43 ∨ c = 45 then 3 else if dg c then 4 else -1)
  else if st = 3 ∨ st = 4 then (if dg c then 4 else -1)
  else -1
/-- The automaton's run: its last state, and how many bytes. -/
def aut : Nat → List UInt8 → Nat × Nat
  | st, [] => (st, 0)
  | st, c :: r => if stepI st (c.toNat : Int) < 0 then (st, 0) else ((aut (stepI st (c.toNat : Int)).toNat r).1, (aut (stepI st (c.toNat : Int)).toNat r).2 + 1)

/-! ### Digits -/
theorem dl_le (L : List UInt8) : dl L ≤ L.length := by
  induction L with
  | nil => exact Nat.le_refl _
  | cons c r ih => unfold dl; split <;> simp <;> omega
theorem dl_step (L : List UInt8) (h : dg (hd L) = true) : 0 < L.length ∧ dl L = dl (L.drop 1) + 1 := by
  cases L with
  | nil => simp [hd, dg] at h
  | cons c r => simp only [hd] at h; simp [dl, h]
theorem dl_stop (L : List UInt8) (h : dg (hd L) = false) : dl L = 0 := by
  cases L with
  | nil => rfl
  | cons c r => simp only [hd] at h; simp [dl, h]
theorem dl_end (L : List UInt8) : dg (hd (L.drop (dl L))) = false := by
  induction L with
  | nil => rfl
  | cons c r ih =>
    cases h : dg (c.toNat : Int) with
    | true => simpa [dl, h] using ih
    | false => simp [dl, h, hd]
/-- A state in which digits lead from st to st' and from st' to st' : the run goes on behind them. -/
theorem aut_digits (st : Nat) (hst : ∀ c, dg c = true → stepI st c = (st : Int)) (L : List UInt8) : aut st L = ((aut st (L.drop (dl L))).1, (aut st (L.drop (dl L))).2 + dl L) := by
  induction L with
  | nil => rfl
  | cons c r ih =>
    cases h : dg (c.toNat : Int) with
    | false => simp [dl, h]
    | true =>
      have e := hst _ h
      have ed : dl (c :: r) = dl r + 1 := by simp [dl, h]
      have ea : aut st (c :: r) = ((aut st r).1, (aut st r).2 + 1) := by
        conv => lhs; unfold aut
        rw [e, if_neg (by omega)]; simp
      rw [ea, ed, ih]
      simp [Nat.add_assoc]
theorem hd_cons {L : List UInt8} {c : Int} (h : hd L = c) (h0 : c ≠ 0) : ∃ x r, L = x :: r ∧ (x.toNat : Int) = c := by
  cases L with
  | nil => exact absurd h.symm h0
  | cons x r => exact ⟨x, r, rfl, h⟩
/-- One move. -/
theorem aut_move (st st' : Nat) (L : List UInt8) (hL : 0 < L.length) (h : stepI st (hd L) = (st' : Int)) : aut st L = ((aut st' (L.drop 1)).1, (aut st' (L.drop 1)).2 + 1) := by
  cases L with
  | nil => simp at hL
  | cons c r =>
    simp only [hd] at h
    conv => lhs; unfold aut
    rw [h, if_neg (by omega)]; simp
/-- No move. -/
theorem aut_stay (st : Nat) (L : List UInt8) (h : 0 < L.length → stepI st (hd L) < 0) : aut st L = (st, 0) := by
  cases L with
  | nil => rfl
  | cons c r =>
    have := h (by simp)
    simp only [hd] at this
    unfold aut; rw [if_pos this]

theorem step0_digit (c : Int) (h : dg c = true) : stepI 0 c = ((0 : Nat) : Int) := by simp [stepI, h]
theorem step1_digit (c : Int) (h : dg c = true) : stepI 1 c = ((1 : Nat) : Int) := by simp [stepI, h]
theorem step4_digit (c : Int) (h : dg c = true) : stepI 4 c = ((4 : Nat) : Int) := by simp [stepI, h]

theorem step0_stop (c : Int) (h : dg c = false) (h1 : c ≠ 46) (h2 : ¬ (c = 101 ∨ c = 69)) : stepI 0 c < 0 := by simp [stepI, h, h1, h2]
theorem step1_stop (c : Int) (h : dg c = false) (h2 : ¬ (c = 101 ∨ c = 69)) : stepI 1 c < 0 := by simp [stepI, h, h2]
theorem step2_stop (c : Int) (h : ¬ dg c = true) (h2 : ¬ (c = 43 ∨ c = 45)) : stepI 2 c < 0 := by simp [stepI, h, h2]
theorem step3_stop (c : Int) (h : ¬ dg c = true) : stepI 3 c < 0 := by simp [stepI, h]
theorem step4_stop (c : Int) (h : dg c = false) : stepI 4 c < 0 := by simp [stepI, h]

theorem pos_of_hd {L : List UInt8} {c : Int} (h : hd L = c) (h0 : c ≠ 0) : 0 < L.length := by
  obtain ⟨x, r, rfl, _⟩ := hd_cons h h0; simp

/-- The exponent, out of state 2. -/
theorem aut_exp (L : List UInt8) (n : Nat) : (if dg (hd (L.drop (sgn L n))) = true then aut 2 (L.drop n) = (4, sgn L n - n + dl (L.drop (sgn L n))) else (aut 2 (L.drop n)).2 = sgn L n - n ∧ ((aut 2 (L.drop n)).1 = 2 ∨ (aut 2 (L.drop n)).1 = 3)) ∧ n ≤ sgn L n := by
  by_cases hs : hd (L.drop n) = 43 ∨ hd (L.drop n) = 45
  · have e : sgn L n = n + 1 := by unfold sgn; rw [if_pos hs]
    have hpos : 0 < (L.drop n).length := by
      rcases hs with h | h
      · exact pos_of_hd h (by decide)
      · exact pos_of_hd h (by decide)
    have em := aut_move 2 3 (L.drop n) hpos (by simp [stepI, hs])
    rw [List.drop_drop] at em
    rw [e]
    refine ⟨?_, by omega⟩
    split
    · rename_i hd'
      have hp := (dl_step _ hd').1
      have e3 := aut_move 3 4 (L.drop (n + 1)) hp (by simp [stepI, hd'])
      have e4 := aut_digits 4 step4_digit (L.drop (n + 1) |>.drop 1)
      have e5 := aut_stay 4 (((L.drop (n + 1)).drop 1).drop (dl ((L.drop (n + 1)).drop 1))) (fun _ => step4_stop _ (dl_end _))
      rw [e5] at e4
      have ed := (dl_step _ hd').2
      rw [em, e3, e4]
      simp only [Prod.mk.injEq, true_and]
      rw [ed]
      omega
    · rename_i hd'
      have e3 := aut_stay 3 (L.drop (n + 1)) (fun _ => step3_stop _ hd')
      rw [em, e3]
      refine ⟨by simp, .inr rfl⟩
  · have e : sgn L n = n := by unfold sgn; rw [if_neg hs]
    rw [e]
    refine ⟨?_, by omega⟩
    split
    · rename_i hd'
      have hp := (dl_step _ hd').1
      have e3 := aut_move 2 4 (L.drop n) hp (by simp [stepI, hs, hd'])
      have e4 := aut_digits 4 step4_digit ((L.drop n).drop 1)
      have e5 := aut_stay 4 (((L.drop n).drop 1).drop (dl ((L.drop n).drop 1))) (fun _ => step4_stop _ (dl_end _))
      rw [e5] at e4
      have ed := (dl_step _ hd').2
      rw [e3, e4]
      simp only [Prod.mk.injEq, true_and]
      rw [ed]
      omega
    · rename_i hd'
      have e3 := aut_stay 2 (L.drop n) (fun _ => step2_stop _ hd' hs)
      rw [e3]
      exact ⟨by simp, .inl rfl⟩

/-- What kind goes with which state. -/
def kindOf (k st : Nat) : Prop := (k = 1 ∧ (st = 2 ∨ st = 3)) ∨ (k = 2 ∧ st = 0) ∨ (k = 3 ∧ (st = 1 ∨ st = 4))

/-- Behind the fraction, out of state 0 or 1. -/
theorem aut_tail (L : List UInt8) (st k n : Nat) (hst : (st = 0 ∧ k = 2 ∧ hd (L.drop n) ≠ 46) ∨ (st = 1 ∧ k = 3)) (hdg : dg (hd (L.drop n)) = false) :
    ∃ k' m, (if hd (L.drop n) = 101 ∨ hd (L.drop n) = 69 then (if dg (hd (L.drop (sgn L (n + 1)))) = true then (3, sgn L (n + 1) + dl (L.drop (sgn L (n + 1)))) else (1, sgn L (n + 1))) else (k, n)) = (k', m) ∧ n ≤ m ∧
      (aut st (L.drop n)).2 = m - n ∧ kindOf k' (aut st (L.drop n)).1 := by
  by_cases he : hd (L.drop n) = 101 ∨ hd (L.drop n) = 69
  · have hpos : 0 < (L.drop n).length := by
      rcases he with h | h
      · exact pos_of_hd h (by decide)
      · exact pos_of_hd h (by decide)
    have hmv : stepI st (hd (L.drop n)) = ((2 : Nat) : Int) := by
      rcases hst with ⟨rfl, _, h⟩ | ⟨rfl, _⟩
      · simp [stepI, hdg, h, he]
      · simp [stepI, hdg, he]
    have em := aut_move st 2 (L.drop n) hpos hmv
    rw [List.drop_drop] at em
    obtain ⟨ex, hle⟩ := aut_exp L (n + 1)
    rw [if_pos he]
    by_cases hd' : dg (hd (L.drop (sgn L (n + 1)))) = true
    · rw [if_pos hd'] at ex ⊢
      rw [em, ex]
      exact ⟨_, _, rfl, by omega, by simp only []; omega, .inr (.inr ⟨rfl, .inr rfl⟩)⟩
    · rw [if_neg hd'] at ex ⊢
      rw [em]
      exact ⟨_, _, rfl, by omega, by simp only [ex.1]; omega, .inl ⟨rfl, ex.2⟩⟩
  · rw [if_neg he]
    have hs : aut st (L.drop n) = (st, 0) := by
      rcases hst with ⟨rfl, _, h⟩ | ⟨rfl, _⟩
      · exact aut_stay 0 _ (fun _ => step0_stop _ hdg h he)
      · exact aut_stay 1 _ (fun _ => step1_stop _ hdg he)
    rw [hs]
    refine ⟨_, _, rfl, Nat.le_refl _, by simp, ?_⟩
    rcases hst with ⟨rfl, rfl, _⟩ | ⟨rfl, rfl⟩
    · exact .inr (.inl ⟨rfl, rfl⟩)
    · exact .inr (.inr ⟨rfl, .inl rfl⟩)

/-- THE AUTOMATON READS WHAT 'number' READS. -/
theorem aut_num (L : List UInt8) : (aut 0 L).2 = (numL L).2 ∧ kindOf (numL L).1 (aut 0 L).1 := by
  have e0 := aut_digits 0 step0_digit L
  by_cases h46 : hd (L.drop (dl L)) = 46
  · have ef : frac L = (3, dl L + 1 + dl (L.drop (dl L + 1))) := by unfold frac; rw [if_pos h46]
    have hpos := pos_of_hd h46 (by decide)
    have em := aut_move 0 1 (L.drop (dl L)) hpos (by rw [h46]; rfl)
    rw [List.drop_drop] at em
    have e1 := aut_digits 1 step1_digit (L.drop (dl L + 1))
    rw [List.drop_drop] at e1
    obtain ⟨k', m, hk, hle, hm, hko⟩ := aut_tail L 1 3 (dl L + 1 + dl (L.drop (dl L + 1))) (.inr ⟨rfl, rfl⟩) (by have := dl_end (L.drop (dl L + 1)); rwa [List.drop_drop] at this)
    have en : numL L = (k', m) := by rw [← hk]; unfold numL; rw [ef]
    rw [e0, em, e1, en]
    simp only []
    exact ⟨by omega, hko⟩
  · have ef : frac L = (2, dl L) := by unfold frac; rw [if_neg h46]
    obtain ⟨k', m, hk, hle, hm, hko⟩ := aut_tail L 0 2 (dl L) (.inl ⟨rfl, rfl, h46⟩) (dl_end L)
    have en : numL L = (k', m) := by rw [← hk]; unfold numL; rw [ef]
    rw [e0, en]
    simp only []
    exact ⟨by omega, hko⟩

theorem aut_le (st : Nat) (L : List UInt8) : (aut st L).2 ≤ L.length := by
  induction L generalizing st with
  | nil => exact Nat.le_refl _
  | cons c r ih =>
    unfold aut
    split
    · exact Nat.zero_le _
    · have := ih (stepI st (c.toNat : Int)).toNat
      simp; omega
theorem num_le (L : List UInt8) : (numL L).2 ≤ L.length := by rw [← (aut_num L).1]; exact aut_le 0 L

/-- The automaton over what it has read: it reads all of it. -/
theorem aut_take (st : Nat) (L : List UInt8) : aut st (L.take (aut st L).2) = aut st L := by
  induction L generalizing st with
  | nil => rfl
  | cons c r ih =>
    by_cases h : stepI st (c.toNat : Int) < 0
    · have e : aut st (c :: r) = (st, 0) := by unfold aut; rw [if_pos h]
      rw [e]; rfl
    · have e : aut st (c :: r) = ((aut (stepI st (c.toNat : Int)).toNat r).1, (aut (stepI st (c.toNat : Int)).toNat r).2 + 1) := by
        conv => lhs; unfold aut
        rw [if_neg h]
      rw [e]
      simp only [List.take_succ_cons]
      conv => lhs; unfold aut
      rw [if_neg h, ih]
/-- A valid token's text, read alone, gives the same back. -/
theorem num_take (L : List UInt8) : numL (L.take (numL L).2) = numL L := by
  have h1 := aut_num L
  have h2 := aut_num (L.take (numL L).2)
  rw [← h1.1, aut_take, h1.1] at h2
  have e2 : (numL (L.take (numL L).2)).2 = (numL L).2 := by rw [← h2.1]
  have ek : (numL (L.take (numL L).2)).1 = (numL L).1 := by
    have a := h1.2
    have b := h2.2
    unfold kindOf at a b
    omega
  exact Prod.ext ek e2

/-- Where the text opens with a digit. -/
theorem num_digit (L : List UInt8) (h : dg (hd L) = true) : 0 < (numL L).2 ∧ ((numL L).1 = 1 → 2 ≤ (numL L).2) := by
  have hs := (dl_step L h).2
  have hf : 1 ≤ (frac L).2 := by unfold frac; split <;> simp <;> omega
  unfold numL
  simp only []
  split
  · have := (aut_exp L ((frac L).2 + 1)).2
    split
    · exact ⟨by simp; omega, fun h => by simp at h⟩
    · exact ⟨by simp; omega, fun _ => by simp; omega⟩
  · refine ⟨by omega, fun hk => ?_⟩
    unfold frac at hk
    split at hk <;> simp at hk

theorem num_kind (L : List UInt8) : (numL L).1 = 1 ∨ (numL L).1 = 2 ∨ (numL L).1 = 3 := by
  have := (aut_num L).2
  unfold kindOf at this
  omega

end Go.Proofs.Qxb6619233a.Num
