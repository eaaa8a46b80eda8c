/-
  'takesModel': THE WALK: it answers as 'takes' does.
-/
import Derived.Test.Qxb6619233aTakes2
import Derived.BigQuiet
namespace Go.Proofs.Qxb6619233a
open Go.RowKit Plain

/-- How many arguments the first j parameters take. -/
def cov (n m j : Nat) : Nat := if j = n then m else j

theorem cell_drawn {w wr : World} {p : Addr} {v : Option Value} (h : ∃ q, w.drewN q = wr) (hc : w.cell? p = v) : wr.cell? p = v := by
  obtain ⟨q, rfl⟩ := h
  exact hc
theorem drawn_more {w wr : World} (h : ∃ q, w.drewN q = wr) (k : Nat) : ∃ q, w.drewN q = wr.drewN k := by
  obtain ⟨q, rfl⟩ := h
  exact ⟨q + k, by simp⟩

set_option maxRecDepth 100000 in
set_option maxHeartbeats 2000000 in
theorem model_loop (b o b1 o1 n c0 : Nat) (P : List Int) (v : Bool) (m c1 : Nat) (A : List Int) (wd : Bool) (w : World) (hn : P.length = n) (hm : A.length = m) (bn : n ≤ 1000000) (bm : m ≤ 1000000) (hn0 : 0 < n)
    (hcP : ∀ t, t < n → w.cell? ⟨b, o + t, none⟩ = some (.int .u8 (P.getD t 0)))
    (hcA : ∀ t, t < m → w.cell? ⟨b1, o1 + t, none⟩ = some (.int .u8 (A.getD t 0)))
    (hlen : (n ≤ m ∧ m ≤ n) ∨ (n < m ∧ v = true)) :
    Calls Try.prog 15 #[.slice (some ⟨b, o, none⟩) n c0, .bool v, .slice (some ⟨b1, o1, none⟩) m c1, .bool wd] w fun e w' => e = .returned (.bool (upTo P A wd m)) ∧ ∃ q, w.drewN q = w' := by
  have HN := hid hn
  have HM := hid hm
  have JP := hid hcP
  have JA := hid hcA
  clear hn hm hcP hcA
  rcases hlen with ⟨h1, h2⟩ | ⟨h1, rfl⟩
  all_goals
    go_enter Try.func15, Try.ntmps15
    go_wp2
    go_loopw [11] (fun s wr => ∃ j : Nat, j ≤ n ∧ s = .int .i64 j ∧ upTo P A wd (cov n m j) = true ∧ ∃ q, w.drewN q = wr) (fun s _ => n - (intOf s).toNat)
    case atStart => exact ⟨0, Nat.zero_le _, rfl, by unfold cov; rw [if_neg (by omega)]; rfl, 0, rfl⟩
    case round =>
      obtain ⟨j, hj, rfl, hup, hq⟩ := hrel
      have HU := hid hup
      have HQ := hid hq
      clear hup hq
      by_cases hlt : j < n
      · have HU' : Hid (upTo P A wd j = true) := by have := HU.out; unfold cov at this; rw [if_neg (by omega)] at this; exact this
        clear HU
        obtain ⟨p, HPp⟩ : ∃ p, Hid (p = P.getD j 0) := ⟨_, rfl⟩
        obtain ⟨hi, HH⟩ : ∃ hi, Hid (hi = cov n m (j + 1)) := ⟨_, rfl⟩
        have hjh : j + 1 ≤ hi := by rw [HH.out]; unfold cov; split <;> omega
        have hhm : hi ≤ m := by rw [HH.out]; unfold cov; split <;> omega
        have HHh : Hid (hi = hiOf n m j) := by rw [HH.out]; rfl
        have hX : (j + 1 = n ∧ hi ≤ m ∧ m ≤ hi) ∨ (j + 1 < n ∧ hi ≤ j + 1 ∧ j + 1 ≤ hi) := by
          have := HH.out
          unfold cov at this
          by_cases e : j + 1 = n
          · rw [if_pos e] at this; exact .inl ⟨e, by omega, by omega⟩
          · rw [if_neg e] at this; exact .inr ⟨by omega, by omega, by omega⟩
        rcases hX with ⟨hX, hX1, hX2⟩ | ⟨hX, hX1, hX2⟩
        all_goals
          have hX' : n ≤ j + 1 ∨ j + 1 < n := by omega
          go_wp2
          go_loopw [13] (fun s wr => ∃ i : Nat, j ≤ i ∧ i ≤ hi ∧ s = .int .i64 i ∧ upTo P A wd i = true ∧ ∃ q, w.drewN q = wr) (fun s _ => hi - (intOf s).toNat)
          case atStart => exact ⟨j, Nat.le_refl _, by omega, rfl, HU'.out, HQ.out⟩
          case round =>
            obtain ⟨i, hji, hih, rfl, hup, hq⟩ := hrel
            have HV := hid hup
            have HQ' := hid hq
            clear hup HU' hq HQ
            by_cases hlt' : i < hi
            · obtain ⟨a, HAa⟩ : ∃ a, Hid (a = A.getD i 0) := ⟨_, rfl⟩
              have hca : wr.cell? ⟨b1, o1 + i, none⟩ = some (.int .u8 a) := by rw [HAa.out]; exact cell_drawn HQ'.out (JA.out i (by omega))
              have hcp : wr.cell? ⟨b, o + j, none⟩ = some (.int .u8 p) := by rw [HPp.out]; exact cell_drawn HQ'.out (JP.out j hlt)
              have hpar : parAt P i = p := by rw [HPp.out]; exact parAt_row P m i j (by rw [HN.out]; exact hlt) hji (by rw [HN.out, ← HHh.out]; exact hlt')
              have HE : Hid (upTo P A wd (i + 1) = fitB wd a p) := by
                have : upTo P A wd (i + 1) = (upTo P A wd i && fitB wd (A.getD i 0) (parAt P i)) := rfl
                rw [HV.out, ← HAa.out, Bool.true_and, hpar] at this; exact this
              have HZ : Hid (fitB wd a p = false → upTo P A wd m = false) := fun h => upTo_stop P A wd i m (by omega) (by rw [← HAa.out, hpar]; exact h)
              clear hpar
              have Cf := fun wx => fits_any a p wd wx
              obtain ⟨f, HF⟩ : ∃ f, Hid (fitB wd a p = f) := ⟨_, rfl⟩
              simp only [HF.out] at Cf
              have JC := hid Cf
              clear Cf JA JP
              cases f
              · go_wp2
                go_quiet ((go_at_call 18; exact Calls.quiet_of_same (JC.out _)))
                go_wp2
                go_ret
                exact ⟨ret_bool (by rw [HZ.out HF.out]), drawn_more HQ'.out _⟩
              · go_wp2
                go_quiet ((go_at_call 18; exact Calls.quiet_of_same (JC.out _)))
                go_wp2
                go_roundw
                case rel => exact ⟨i + 1, by omega, by omega, by go_num, by rw [HE.out]; exact HF.out, drawn_more HQ'.out _⟩
                case measure => simp [intOf]; omega
            · have hih' : hi ≤ i := by omega
              go_wp2
              go_roundw
              case rel => exact ⟨j + 1, by omega, by go_num, by rw [← HH.out, show hi = i from by omega]; exact HV.out, HQ'.out⟩
              case measure => simp [intOf]; omega
      · go_wp2
        go_ret
        obtain rfl : j = n := by omega
        exact ⟨ret_bool (by have := HU.out; unfold cov at this; rw [if_pos rfl] at this; exact this.symm), HQ.out⟩

set_option maxRecDepth 100000 in
set_option maxHeartbeats 1000000 in
theorem model_any (a0 : Option Addr) (n c0 : Nat) (P : List Int) (v : Bool) (a1 : Option Addr) (m c1 : Nat) (A : List Int) (wd : Bool) (w : World) (hn : P.length = n) (hm : A.length = m) (bn : n ≤ 1000000) (bm : m ≤ 1000000)
    (hP : At w a0 n P) (hA : At w a1 m A) (hne : v = true → 0 < m → 0 < n) :
    Calls Try.prog 15 #[.slice a0 n c0, .bool v, .slice a1 m c1, .bool wd] w fun e w' => e = .returned (.bool (takesB P v A wd)) ∧ ∃ q, w.drewN q = w' := by
  have HT : takesB P v A wd = (lenB n v m && upTo P A wd m) := by rw [← hn, ← hm]; rfl
  by_cases hl : lenB n v m = true
  · rw [hl, Bool.true_and] at HT
    rw [HT]
    have hl' := (lenB_iff n v m).1 hl
    by_cases hn0 : 0 < n
    · have hm0 : 0 < m := by
        rcases hl' with h | ⟨_, h⟩ <;> omega
      obtain ⟨b, o, rfl, hcP⟩ := hP hn0
      obtain ⟨b1, o1, rfl, hcA⟩ := hA hm0
      refine model_loop b o b1 o1 n c0 P v m c1 A wd w hn hm bn bm hn0 hcP hcA ?_
      rcases hl' with h | ⟨h1, h2⟩
      · exact .inl ⟨by omega, by omega⟩
      · by_cases e : m ≤ n
        · exact .inl ⟨h2, e⟩
        · exact .inr ⟨by omega, h1⟩
    · obtain rfl : n = 0 := by omega
      obtain rfl : m = 0 := by
        rcases hl' with h | ⟨h1, _⟩
        · exact h
        · by_cases e : 0 < m
          · exact absurd (hne h1 e) hn0
          · omega
      clear HT hl hl' hne hP hA
      go_enter Try.func15, Try.ntmps15
      go_wp2
      refine wp_loop_rounds 1 ?_
      rw [rounds_succ]
      go_wp2
      go_ret
      exact ⟨rfl, 0, rfl⟩
  · have hl0 : lenB n v m = false := by simpa using hl
    rw [hl0, Bool.false_and] at HT
    rw [HT]
    have hcase : (m < n ∨ n < m) ∧ (v = false ∨ (v = true ∧ m < n)) := by
      have h' : ¬ (m = n ∨ (v = true ∧ n ≤ m)) := fun h => hl ((lenB_iff n v m).2 h)
      have hne : ¬ m = n := fun h => h' (.inl h)
      cases v
      · exact ⟨by omega, .inl rfl⟩
      · have hle : ¬ n ≤ m := fun h => h' (.inr ⟨rfl, h⟩)
        exact ⟨by omega, .inr ⟨rfl, by omega⟩⟩
    clear hP hA hne hl HT hl0 hn hm
    rcases hcase with ⟨h1, rfl | ⟨rfl, h2⟩⟩
    · go_enter Try.func15, Try.ntmps15
      go_wp2
      go_ret
      exact ⟨rfl, 0, rfl⟩
    · go_enter Try.func15, Try.ntmps15
      go_wp2
      all_goals first
        | (exfalso; have hh : ((m : Int) != (n : Int)) = false ∨ (!decide (n < m)) = false := by assumption
           rcases hh with hh | hh <;> simp at hh <;> omega)
        | (go_ret; exact ⟨rfl, 0, rfl⟩)

set_option maxHeartbeats 400000 in
theorem bytes13_yes (a0 : Option Addr) (n c0 : Nat) (v : Bool) (a1 : Option Addr) (m c1 : Nat) (wd : Bool) (w : World) (h : n + m ≤ 1048576) :
    Calls Try.prog 13 #[.slice a0 n c0, .bool v, .slice a1 m c1, .bool wd] w fun e w' => e = .returned (.bool true) ∧ w = w' := by
  go_enter Try.func13, Try.ntmps13
  go_wp2
  go_ret
  exact ⟨rfl, rfl⟩

set_option maxHeartbeats 400000 in
theorem bytes13_no (a0 : Option Addr) (n c0 : Nat) (v : Bool) (a1 : Option Addr) (m c1 : Nat) (wd : Bool) (w : World) (h : 1048576 < n + m) :
    Calls Try.prog 13 #[.slice a0 n c0, .bool v, .slice a1 m c1, .bool wd] w fun e w' => e = .returned (.bool false) ∧ w = w' := by
  by_cases h1 : 1048576 < n
  · go_enter Try.func13, Try.ntmps13
    go_wp2
    go_ret
    exact ⟨rfl, rfl⟩
  · by_cases h2 : 1048576 < m
    all_goals
      go_enter Try.func13, Try.ntmps13
      go_wp2
      go_ret
      exact ⟨rfl, rfl⟩

end Go.Proofs.Qxb6619233a
