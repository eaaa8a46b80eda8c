/-
  THE PLAIN LAWS OF KEY TEXTS: no Go in sight.
-/
namespace Go.Proofs.Qxb6617183a.Key

/-- Is the byte a letter, a digit, a hyphen or an underscore? -/
def kc (c : Int) : Bool := (decide (97 ≤ c) && decide (c ≤ 122)) || (decide (65 ≤ c) && decide (c ≤ 90)) || (decide (48 ≤ c) && decide (c ≤ 57)) || decide (c = 45) || decide (c = 95)
/-- Is the text one of such bytes alone? -/
def key : List UInt8 → Bool
  | [] => true
  | c :: r => kc (c.toNat : Int) && key r

theorem key_append (a b : List UInt8) : key (a ++ b) = (key a && key b) := by
  induction a with
  | nil => simp [key]
  | cons c r ih => simp [key, ih, Bool.and_assoc]
/-- One byte put in anywhere. -/
theorem key_insert (a b : List UInt8) (c : UInt8) : key (a ++ [c] ++ b) = (key a && key b && kc (c.toNat : Int)) := by
  rw [key_append, key_append]
  simp only [key, Bool.and_true]
  cases key a <;> cases key b <;> cases kc (c.toNat : Int) <;> rfl
theorem key_one (c : UInt8) : key [c] = kc (c.toNat : Int) := by simp [key]
theorem key_snoc (l : List UInt8) (c : UInt8) : key (l ++ [c]) = (key l && kc (c.toNat : Int)) := by rw [key_append, key_one]
theorem key_stop (l : List UInt8) (k : Nat) (hk : k < l.length) (h : kc (l[k].toNat : Int) = false) : key l = false := by
  induction l generalizing k with
  | nil => simp at hk
  | cons c r ih =>
    cases k with
    | zero => simp at h; simp [key, h]
    | succ k => simp at h hk; simp [key, ih k hk h]

/-- RFC 4648's alphabet. -/
def alpha : List UInt8 := [65, 66, 67, 68, 69, 70, 71, 72, 73, 74, 75, 76, 77, 78, 79, 80, 81, 82, 83, 84, 85, 86, 87, 88, 89, 90, 97, 98, 99, 100, 101, 102, 103, 104, 105, 106, 107, 108, 109, 110, 111, 112, 113, 114, 115, 116, 117, 118, 119, 120, 121, 122, 48, 49, 50, 51, 52, 53, 54, 55, 56, 57, 45, 95]
/-- Every byte of the alphabet is such a byte. -/
theorem alpha_key (k : Nat) (hk : k < 64) : kc ((alpha.getD k 0).toNat : Int) = true := by
  have h : ∀ k, k < 64 → kc ((alpha.getD k 0).toNat : Int) = true := by decide
  exact h k hk
/-- Such a byte stands in the alphabet. -/
theorem key_alpha (c : Nat) (hc : c < 256) (h : kc (c : Int) = true) : ∃ k, k < 64 ∧ (alpha.getD k 0).toNat = c := by
  have hd : ∀ c : Nat, c < 256 → kc (c : Int) = true → alpha.any (fun x => x.toNat == c) = true := by decide +kernel
  have := hd c hc h
  rw [List.any_eq_true] at this
  obtain ⟨x, hx, he⟩ := this
  obtain ⟨k, hk, rfl⟩ := List.getElem_of_mem hx
  exact ⟨k, hk, by simpa [List.getD, hk] using he⟩

end Go.Proofs.Qxb6617183a.Key
