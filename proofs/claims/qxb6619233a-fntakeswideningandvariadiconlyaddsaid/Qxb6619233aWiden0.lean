/-
  FOR 'FnTakesWideningAndVariadicOnlyAdd': the bound on the total length; a row that is filled cell by cell; what holds among the four answers.
-/
import Derived.Test.Qxb6619233aTakes2
namespace Go.Proofs.Qxb6619233a
open Go.RowKit Plain

set_option maxHeartbeats 400000 in
theorem bytes17_yes (a0 : Option Addr) (n c0 : Nat) (a1 : Option Addr) (m c1 : Nat) (k : Int) (wd : Bool) (w : World) (h : n + m ≤ 1048576) :
    Calls Try.prog 17 #[.slice a0 n c0, .slice a1 m c1, .int .u8 k, .bool wd] w fun e w' => e = .returned (.bool true) ∧ w = w' := by
  go_enter Try.func17, Try.ntmps17
  go_wp2
  go_ret
  exact ⟨rfl, rfl⟩

set_option maxHeartbeats 400000 in
theorem bytes17_no (a0 : Option Addr) (n c0 : Nat) (a1 : Option Addr) (m c1 : Nat) (k : Int) (wd : Bool) (w : World) (h : 1048576 < n + m) :
    Calls Try.prog 17 #[.slice a0 n c0, .slice a1 m c1, .int .u8 k, .bool wd] w fun e w' => e = .returned (.bool false) ∧ w = w' := by
  by_cases h1 : 1048576 < n
  · go_enter Try.func17, Try.ntmps17
    go_wp2
    go_ret
    exact ⟨rfl, rfl⟩
  · by_cases h2 : 1048576 < m
    all_goals
      go_enter Try.func17, Try.ntmps17
      go_wp2
      go_ret
      exact ⟨rfl, rfl⟩

/-- A row of N cells of the call's own at block g, made in the world W: its first k cells hold L's numbers. -/
def Filled (W wr : World) (g N : Nat) (L : List Int) (k : Nat) : Prop :=
  ∃ xs, wr.ownsRow W.heap.size 30 1 (.slice (some ⟨g, 0, none⟩) N N) N xs ∧ (∀ t, t < k → xs[t]? = some (.int .u8 (L.getD t 0))) ∧ Below W.heap.size W wr

theorem Filled.start {W w1 : World} {g N : Nat} {xs : List Value} (L : List Int) (hown : w1.ownsRow W.heap.size 30 1 (.slice (some ⟨g, 0, none⟩) N N) N xs) (hgrow : W.grownBy w1 none) : Filled W w1 g N L 0 :=
  ⟨xs, hown, fun t ht => absurd ht (by omega), (Below.refl _ _).grown hgrow (Nat.le_refl _) (fun k h => by cases h)⟩

theorem Filled.cell {W wr : World} {g N k : Nat} {L : List Int} (h : Filled W wr g N L k) (j : Nat) (hj : j < N) : ∃ v, wr.cell? ⟨g, j, none⟩ = some v := by
  obtain ⟨xs, hown, _, _⟩ := h
  have hl := hown.1
  refine ⟨xs[j]'(by omega), ?_⟩
  rw [hown.cellAt j (by omega), List.getElem?_eq_getElem]

theorem Filled.free {W wr : World} {g N k : Nat} {L : List Int} (h : Filled W wr g N L k) (j : Nat) : wr.frozen? ⟨g, j, none⟩ = false := by
  obtain ⟨xs, hown, _, _⟩ := h
  exact hown.frozenAt j

theorem Filled.base {W wr : World} {g N k : Nat} {L : List Int} (h : Filled W wr g N L k) : W.heap.size ≤ g := by
  obtain ⟨xs, hown, _, _⟩ := h
  exact (hown.lt g rfl).1

theorem Filled.step {W wr : World} {g N k : Nat} {L : List Int} (h : Filled W wr g N L k) (hk : k < N) : Filled W (wr.setCell ⟨g, k, none⟩ (.int .u8 (L.getD k 0))) g N L (k + 1) := by
  have hb := h.base
  obtain ⟨xs, hown, hx, hB⟩ := h
  have hl := hown.1
  refine ⟨_, (hown.stored k _).1, fun t ht => ?_, hB.setCell hb _⟩
  by_cases e : t = k
  · subst e
    rw [List.getElem?_set_self (by omega)]
  · rw [List.getElem?_set_ne (by omega)]
    exact hx t (by omega)

theorem Filled.below {W wr : World} {g N k : Nat} {L : List Int} (h : Filled W wr g N L k) : Below W.heap.size W wr := by
  obtain ⟨xs, _, _, hB⟩ := h
  exact hB

theorem Filled.at {W wr : World} {g N : Nat} {L : List Int} (h : Filled W wr g N L N) : At wr (some ⟨g, 0, none⟩) N L := by
  intro _
  obtain ⟨xs, hown, hx, _⟩ := h
  refine ⟨g, 0, rfl, fun t ht => ?_⟩
  rw [Nat.zero_add, hown.cellAt t (by omega)]
  exact hx t ht

/-- The same row, said of a list that agrees so far. -/
theorem Filled.of {W wr : World} {g N k : Nat} {L L' : List Int} (h : Filled W wr g N L k) (he : ∀ t, t < k → L.getD t 0 = L'.getD t 0) : Filled W wr g N L' k := by
  obtain ⟨xs, hown, hx, hB⟩ := h
  exact ⟨xs, hown, fun t ht => by rw [hx t ht, he t ht], hB⟩

/-- WHAT HOLDS AMONG THE FOUR ANSWERS. -/
theorem four (P A : List Int) : (takesB P false A false = true → takesB P false A true = true) ∧ (takesB P false A false = true → takesB P true A false = true) ∧ (takesB P false A true = true → takesB P true A true = true) ∧
    (takesB P true A false = true → takesB P true A true = true) ∧ (A.length ≤ P.length → takesB P true A false = takesB P false A false ∧ takesB P true A true = takesB P false A true) :=
  ⟨widen P A false true, vary P A false, vary P A true, widen P A true true, fun h => ⟨vary_short P A false h, vary_short P A true h⟩⟩

end Go.Proofs.Qxb6619233a
