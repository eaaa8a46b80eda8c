/-
  THE WALKS OF 'isKeyText', 'zzInBase64URL' AND THE BOUND ON THE TOTAL LENGTH, each as a contract.
-/
import Derived.Test.Qxb6617183aProg
import Derived.Test.Qxb6617183aKeyPlain
import Derived.WalkKit
import Derived.WalkSpells
import Derived.WalkLawsBesides
namespace Go.Proofs.Qxb6617183a.Key
open Go.RowKit

theorem hid {p : Prop} (h : p) : Hid p := h
theorem ret_bool {a b : Bool} (h : a = b) : Ending.returned (.bool a) = .returned (.bool b) := by rw [h]
theorem len_size (s : ByteArray) : s.data.toList.length = s.size := rfl
theorem take_snoc (s : ByteArray) (k : Nat) (h : k < s.size) : s.data.toList.take (k + 1) = s.data.toList.take k ++ [s[k]] := by
  rw [List.take_succ_eq_append_getElem (by simpa using h)]; rfl

theorem beq_no {x y : Int} (h : ¬ x = y) : (x == y) = false := by simpa using h
/-- Where a byte can lie. -/
theorem ways (x : Int) : (kc x = true ∧ ((97 ≤ x ∧ x ≤ 122) ∨ (65 ≤ x ∧ x ≤ 90) ∨ (48 ≤ x ∧ x ≤ 57) ∨ x = 45 ∨ x = 95)) ∨
    (kc x = false ∧ (x < 45 ∨ (45 < x ∧ x < 48) ∨ (57 < x ∧ x < 65) ∨ (90 < x ∧ x < 95) ∨ (95 < x ∧ x < 97) ∨ 122 < x)) := by
  have e : kc x = true ↔ ((97 ≤ x ∧ x ≤ 122) ∨ (65 ≤ x ∧ x ≤ 90) ∨ (48 ≤ x ∧ x ≤ 57) ∨ x = 45 ∨ x = 95) := by
    unfold kc; simp; omega
  by_cases h : kc x = true
  · exact .inl ⟨h, e.1 h⟩
  · exact .inr ⟨by simpa using h, by have := mt e.2 h; omega⟩

set_option maxRecDepth 100000 in
set_option maxHeartbeats 2000000 in
theorem key_any (s : ByteArray) (w : World) (bs : s.size ≤ 4000000) :
    Calls Try.prog 17 #[.string s] w fun e w' => e = .returned (.bool (key s.data.toList)) ∧ w' = w := by
  obtain ⟨R, HR⟩ : ∃ R, Hid (R = s.data.toList) := ⟨_, rfl⟩
  rw [← HR.out]
  go_enter Try.func17, Try.ntmps17
  go_wp2
  go_loop [3] (fun i => ∃ k : Nat, k ≤ s.size ∧ i = .int .i64 k ∧ key (R.take k) = true) (fun i => s.size - (intOf i).toNat)
  case atStart => exact ⟨0, Nat.zero_le _, rfl, rfl⟩
  case round =>
    obtain ⟨k, hk, rfl, hkey⟩ := hrel
    have HK := hid hkey
    clear hkey
    by_cases hlt : k < s.size
    · obtain ⟨x, hx⟩ : ∃ x : Int, (s[k].toNat : Int) = x := ⟨_, rfl⟩
      have HS : Hid (key (R.take (k + 1)) = kc x) := by
        have h : key (R.take (k + 1)) = kc x := by rw [HR.out, take_snoc s k hlt, key_snoc, ← HR.out, HK.out, hx, Bool.true_and]
        exact h
      have HZ : Hid (kc x = false → key R = false) := fun h => by
        have hl : k < R.length := by rw [HR.out]; exact hlt
        refine key_stop R k hl ?_
        have : R[k] = s[k] := by simp only [HR.out]; rfl
        rw [this, hx]; exact h
      rcases ways x with ⟨hc, h | h | h | h | h⟩ | ⟨hc, h | h | h | h | h | h⟩
      all_goals
        have HC := hid hc
        clear hc
        try have e1 : (x == 45) = false := beq_no (by omega)
        try have e2 : (x == 95) = false := beq_no (by omega)
        try have e3 : decide (x ≤ 57) = false := decide_eq_false (by omega)
        try have e4 : decide (x ≤ 90) = false := decide_eq_false (by omega)
        try have e5 : decide (x ≤ 122) = false := decide_eq_false (by omega)
        go_wp2
        all_goals first
          | (go_ret; exact ⟨ret_bool (by rw [HZ.out HC.out]), rfl⟩)
          | (go_round
             case rel => exact ⟨k + 1, by omega, by go_num, by rw [HS.out]; exact HC.out⟩
             case measure => simp [intOf]; omega)
    · go_wp2
      go_ret
      have e : R.take k = R := List.take_of_length_le (by rw [HR.out, len_size]; omega)
      have := HK.out
      rw [e] at this
      exact ⟨ret_bool this.symm, rfl⟩

set_option maxHeartbeats 400000 in
theorem zzkey_any (s : ByteArray) (w : World) (bs : s.size ≤ 4000000) :
    Calls Try.prog 14 #[.string s] w fun e w' => e = .returned (.bool (key s.data.toList)) ∧ w = w' := by
  have J := hid (key_any s w bs)
  go_enter Try.func14, Try.ntmps14
  go_wp2_with (go_at_call 17; refine J.out.mono ?_; rintro e w' ⟨rfl, rfl⟩)
  go_ret
  exact ⟨rfl, rfl⟩

set_option maxHeartbeats 400000 in
theorem bytes12_yes (s t : ByteArray) (c : Int) (w : World) (h : s.size + t.size ≤ 1048576) :
    Calls Try.prog 12 #[.string s, .string t, .int .u8 c] w fun e w' => e = .returned (.bool true) ∧ w = w' := by
  go_enter Try.func12, Try.ntmps12
  go_wp2
  go_ret
  exact ⟨rfl, rfl⟩

set_option maxHeartbeats 400000 in
theorem bytes12_no (s t : ByteArray) (c : Int) (w : World) (h : 1048576 < s.size + t.size) :
    Calls Try.prog 12 #[.string s, .string t, .int .u8 c] w fun e w' => e = .returned (.bool false) ∧ w = w' := by
  by_cases h1 : 1048576 < s.size
  · go_enter Try.func12, Try.ntmps12
    go_wp2
    go_ret
    exact ⟨rfl, rfl⟩
  · by_cases h2 : 1048576 < t.size
    all_goals
      go_enter Try.func12, Try.ntmps12
      go_wp2
      go_ret
      exact ⟨rfl, rfl⟩

theorem alpha_at (k : Nat) (hk : k < 64) : (({ data := alpha.toArray } : ByteArray)[k]'hk) = alpha.getD k 0 := by
  have hl : k < alpha.length := hk
  show alpha.toArray[k] = _
  simp [List.getD, hl]

set_option maxRecDepth 100000 in
set_option maxHeartbeats 1000000 in
theorem b64_any (u : UInt8) (w : World) :
    Calls Try.prog 13 #[.int .u8 (u.toNat : Int)] w fun e w' => e = .returned (.bool (kc (u.toNat : Int))) ∧ w = w' := by
  obtain ⟨c, Hc⟩ : ∃ c : Int, Hid (c = (u.toNat : Int)) := ⟨_, rfl⟩
  rw [← Hc.out]
  have hu : u.toNat < 256 := u.toNat_lt
  have JU := hid hu
  clear hu
  go_enter Try.func13, Try.ntmps13
  go_wp2
  go_loop [3] (fun i => ∃ k : Nat, k ≤ 64 ∧ i = .int .i64 k ∧ ∀ t, t < k → ¬ ((alpha.getD t 0).toNat : Int) = c) (fun i => 64 - (intOf i).toNat)
  case atStart => exact ⟨0, Nat.zero_le _, rfl, fun t ht => absurd ht (by omega)⟩
  case round =>
    obtain ⟨k, hk, rfl, hno⟩ := hrel
    have HN := hid hno
    clear hno
    by_cases hlt : k < 64
    · go_wp2
      all_goals first
        | (have ht := ‹(_ == c) = true›
           have he : ((alpha.getD k 0).toNat : Int) = c := by rw [← alpha_at k hlt]; exact eq_of_beq ht
           go_ret
           exact ⟨ret_bool (by rw [← he, alpha_key k hlt]), rfl⟩)
        | (have ht := ‹(_ == c) = false›
           have he : ¬ ((alpha.getD k 0).toNat : Int) = c := by rw [← alpha_at k hlt]; exact ne_of_beq_false ht
           go_round
           case rel =>
             refine ⟨k + 1, by omega, by go_num, fun t ht => ?_⟩
             by_cases e : t = k
             · subst e; exact he
             · exact HN.out t (by omega)
           case measure => simp [intOf]; omega)
    · go_wp2
      go_ret
      refine ⟨ret_bool ?_, rfl⟩
      cases h : kc c with
      | false => rfl
      | true =>
        obtain ⟨t, ht, he⟩ := key_alpha u.toNat JU.out (by rw [← Hc.out]; exact h)
        exact absurd (by rw [Hc.out, he]) (HN.out t (by omega))

end Go.Proofs.Qxb6617183a.Key
