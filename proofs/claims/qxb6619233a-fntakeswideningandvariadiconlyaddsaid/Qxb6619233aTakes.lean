/-
  THE WALKS OF 'takes' AND OF WHAT IT CALLS, each as a contract.
-/
import Derived.Test.Qxb6619233aProg
import Derived.Test.Qxb6619233aPlain
import Derived.WalkKit
import Derived.WalkSpells
import Derived.WalkLawsBesides
namespace Go.Proofs.Qxb6619233a
open Go.RowKit Plain

theorem hid {p : Prop} (h : p) : Hid p := h
theorem ret_int {k : IntKind} {a b : Int} (h : a = b) : Ending.returned (.int k a) = .returned (.int k b) := by rw [h]
theorem ret_bool {a b : Bool} (h : a = b) : Ending.returned (.bool a) = .returned (.bool b) := by rw [h]

set_option maxHeartbeats 400000 in
theorem par_any (b o n c i : Nat) (P : List Int) (w : World) (hn : P.length = n) (h0 : 0 < n) (hm : n ≤ 1000000) (_hi : i ≤ 1000000)
    (hc : ∀ t, t < n → w.cell? ⟨b, o + t, none⟩ = some (.int .u8 (P.getD t 0))) :
    Calls Try.prog 25 #[.slice (some ⟨b, o, none⟩) n c, .int .i64 i] w fun e w' => e = .returned (.int .u8 (parAt P i)) ∧ w' = w := by
  by_cases h : i < n
  · have hce := hc i h
    have HP : Hid (parAt P i = P.getD i 0) := parAt_lt P i (by omega)
    clear hc
    go_enter Try.func25, Try.ntmps25
    go_wp2
    go_ret
    exact ⟨ret_int (by rw [HP.out]; simp [hn, h]), rfl⟩
  · have hce := hc (n - 1) (by omega)
    have HP : Hid (parAt P i = P.getD (n - 1) 0) := by rw [← hn]; exact parAt_last P i (by omega)
    clear hc
    go_enter Try.func25, Try.ntmps25
    go_wp2
    go_ret
    exact ⟨ret_int (by rw [HP.out]; simp), rfl⟩

/-- The test of the loop in 'takes', as the walk parts on it. -/
theorem fit_ways (wd : Bool) (a p : Int) :
    (fitB wd a p = true ∧ (a = p ∨ (¬ a = p ∧ wd = true ∧ a = 1 ∧ p = 2))) ∨
    (fitB wd a p = false ∧ ¬ a = p ∧ (wd = false ∨ (wd = true ∧ ¬ a = 1) ∨ (wd = true ∧ a = 1 ∧ ¬ p = 2))) := by
  have e : fitB wd a p = (decide (a = p) || (wd && decide (a = 1) && decide (p = 2))) := rfl
  rw [e]
  cases wd <;> by_cases h1 : a = p <;> by_cases h2 : a = 1 <;> by_cases h3 : p = 2 <;> simp [h1, h2, h3] <;> omega

set_option maxHeartbeats 1000000 in
theorem takes_any (a0 : Option Addr) (n c0 : Nat) (P : List Int) (v : Bool) (a1 : Option Addr) (m c1 : Nat) (A : List Int) (wd : Bool) (w : World) (hn : P.length = n) (hm : A.length = m) (bn : n ≤ 1000000) (bm : m ≤ 1000000)
    (hP : 0 < n → ∃ b o, a0 = some ⟨b, o, none⟩ ∧ ∀ t, t < n → w.cell? ⟨b, o + t, none⟩ = some (.int .u8 (P.getD t 0)))
    (hA : 0 < m → ∃ b o, a1 = some ⟨b, o, none⟩ ∧ ∀ t, t < m → w.cell? ⟨b, o + t, none⟩ = some (.int .u8 (A.getD t 0)))
    (hne : v = true → 0 < m → 0 < n) :
    Calls Try.prog 20 #[.slice a0 n c0, .bool v, .slice a1 m c1, .bool wd] w fun e w' => e = .returned (.bool (takesB P v A wd)) ∧ w' = w := by
  have HT : Hid (takesB P v A wd = (lenB n v m && upTo P A wd m)) := by rw [← hn, ← hm]; rfl
  by_cases hl : lenB n v m = true
  · -- the lengths are let
    have HT' : Hid (takesB P v A wd = upTo P A wd m) := by have := HT.out; rw [hl, Bool.true_and] at this; exact this
    clear HT
    by_cases hm0 : 0 < m
    · have hl' := (lenB_iff n v m).1 hl
      have hn0 : 0 < n := by
        rcases hl' with h | ⟨h, _⟩
        · omega
        · exact hne h hm0
      obtain ⟨b, o, rfl, hcP⟩ := hP hn0
      obtain ⟨b1, o1, rfl, hcA⟩ := hA hm0
      clear hP hA hne
      have hcase : (n ≤ m ∧ m ≤ n) ∨ (n < m ∧ v = true) := by
        rcases hl' with h | ⟨h1, h2⟩
        · exact .inl ⟨by omega, by omega⟩
        · by_cases e : m ≤ n
          · exact .inl ⟨h2, e⟩
          · exact .inr ⟨by omega, h1⟩
      clear hl hl'
      rcases hcase with ⟨h1, h2⟩ | ⟨h1, rfl⟩
      all_goals
        go_enter Try.func20, Try.ntmps20
        go_wp2
        go_loop [30] (fun i => ∃ k : Nat, k ≤ m ∧ i = .int .i64 k ∧ upTo P A wd k = true) (fun i => m - (intOf i).toNat)
        case atStart => exact ⟨0, Nat.zero_le _, rfl, rfl⟩
        case round =>
          obtain ⟨k, hk, rfl, hup⟩ := hrel
          have HU : Hid (upTo P A wd k = true) := hup
          clear hup
          by_cases hlt : k < m
          · obtain ⟨x, HX⟩ : ∃ x, Hid (x = A.getD k 0) := ⟨_, rfl⟩
            have hce : w.cell? ⟨b1, o1 + k, none⟩ = some (.int .u8 x) := by rw [HX.out]; exact hcA k hlt
            have HE : Hid (upTo P A wd (k + 1) = fitB wd x (parAt P k)) := by
              have : upTo P A wd (k + 1) = (upTo P A wd k && fitB wd (A.getD k 0) (parAt P k)) := rfl
              rw [HU.out, ← HX.out, Bool.true_and] at this; exact this
            have HZ : Hid (fitB wd x (parAt P k) = false → upTo P A wd m = false) := fun h => upTo_stop P A wd k m hlt (by rw [← HX.out]; exact h)
            clear hcA HX
            rcases fit_ways wd x (parAt P k) with ⟨hf, rfl | ⟨h1, rfl, rfl, h3⟩⟩ | ⟨hf, h1, rfl | ⟨rfl, h2⟩ | ⟨rfl, rfl, h3⟩⟩
            all_goals
              have HF : Hid (fitB _ _ (parAt P k) = _) := hf
              clear hf
              go_wp2_with (go_at_call 25; refine (par_any b o n c0 k P _ hn hn0 bn (by omega) hcP).mono ?_; rintro e w' ⟨rfl, rfl⟩)
              all_goals first
                | (exfalso; have hh : (1 != parAt P k) = false ∨ (!parAt P k == 2) = false := by assumption
                   rcases hh with hh | hh <;> simp at hh <;> omega)
                | (go_ret; exact ⟨ret_bool (by rw [HT'.out, HZ.out HF.out]), rfl⟩)
                | (go_round
                   case rel => exact ⟨k + 1, by omega, by go_num, by rw [HE.out]; exact HF.out⟩
                   case measure => simp [intOf]; omega)
          · go_wp2
            go_ret
            obtain rfl : k = m := by omega
            exact ⟨ret_bool (by rw [HT'.out, HU.out]), rfl⟩
    · obtain rfl : m = 0 := by omega
      have hcase : n = 0 ∨ (v = true ∧ n = 0) := by
        rcases (lenB_iff n v 0).1 hl with h | ⟨h1, h2⟩
        · exact .inl h.symm
        · exact .inl (by omega)
      obtain rfl : n = 0 := by omega
      clear hP hA hne hl hcase
      go_enter Try.func20, Try.ntmps20
      go_wp2
      refine wp_loop_rounds 1 ?_
      rw [rounds_succ]
      go_wp2
      go_ret
      exact ⟨ret_bool (by rw [HT'.out]; rfl), rfl⟩
  · have hl0 : lenB n v m = false := by simpa using hl
    have HT' : Hid (takesB P v A wd = false) := by have := HT.out; rw [hl0, Bool.false_and] at this; exact this
    have hcase : (m < n ∨ n < m) ∧ (v = false ∨ (v = true ∧ m < n)) := by
      have h' : ¬ (m = n ∨ (v = true ∧ n ≤ m)) := fun h => hl ((lenB_iff n v m).2 h)
      have hne : ¬ m = n := fun h => h' (.inl h)
      cases v
      · exact ⟨by omega, .inl rfl⟩
      · have hle : ¬ n ≤ m := fun h => h' (.inr ⟨rfl, h⟩)
        exact ⟨by omega, .inr ⟨rfl, by omega⟩⟩
    clear hP hA hne hl HT hl0
    rcases hcase with ⟨h1, rfl | ⟨rfl, h2⟩⟩
    all_goals
      go_enter Try.func20, Try.ntmps20
      go_wp2
      go_ret
      exact ⟨ret_bool HT'.out.symm, rfl⟩

end Go.Proofs.Qxb6619233a
