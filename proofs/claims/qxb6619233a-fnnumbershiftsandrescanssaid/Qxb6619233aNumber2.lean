/-
  'ZZNumber', 'numberStep' AND THE BOUNDS ON THE TOTAL LENGTH, each as a contract.
-/
import Derived.Test.Qxb6619233aNumber
namespace Go.Proofs.Qxb6619233a.Num
open Go.RowKit

set_option maxHeartbeats 400000 in
theorem bytes8_yes (s : ByteArray) (o c : Int) (w : World) (h : s.size ≤ 1048576) :
    Calls Try.prog 8 #[.string s, .int .i64 o, .int .i64 c] w fun e w' => e = .returned (.bool true) ∧ w = w' := by
  go_enter Try.func8, Try.ntmps8
  go_wp2
  go_ret
  exact ⟨rfl, rfl⟩

set_option maxHeartbeats 400000 in
theorem bytes8_no (s : ByteArray) (o c : Int) (w : World) (h : 1048576 < s.size) :
    Calls Try.prog 8 #[.string s, .int .i64 o, .int .i64 c] w fun e w' => e = .returned (.bool false) ∧ w = w' := by
  go_enter Try.func8, Try.ntmps8
  go_wp2
  go_ret
  exact ⟨rfl, rfl⟩

set_option maxHeartbeats 400000 in
theorem bytes11_yes (s : ByteArray) (o c : Int) (w : World) (h : s.size ≤ 1048576) :
    Calls Try.prog 11 #[.string s, .int .i64 o, .int .i64 c] w fun e w' => e = .returned (.bool true) ∧ w = w' := by
  go_enter Try.func11, Try.ntmps11
  go_wp2
  go_ret
  exact ⟨rfl, rfl⟩

set_option maxHeartbeats 400000 in
theorem bytes11_no (s : ByteArray) (o c : Int) (w : World) (h : 1048576 < s.size) :
    Calls Try.prog 11 #[.string s, .int .i64 o, .int .i64 c] w fun e w' => e = .returned (.bool false) ∧ w = w' := by
  go_enter Try.func11, Try.ntmps11
  go_wp2
  go_ret
  exact ⟨rfl, rfl⟩

set_option maxHeartbeats 400000 in
theorem digitByte_any (c : Int) (w : World) : Calls Try.prog 12 #[.int .u8 c] w fun e w' => e = .returned (.bool (dg c)) ∧ w = w' := by
  by_cases h1 : 48 ≤ c <;> by_cases h2 : c ≤ 57
  all_goals
    go_enter Try.func12, Try.ntmps12
    go_wp2
    go_ret
    exact ⟨ret_bool (by unfold dg; simp [h1, h2]), rfl⟩

set_option maxRecDepth 100000 in
set_option maxHeartbeats 1000000 in
theorem step_any (st : Nat) (hst : st ≤ 4) (c : Int) (w : World) : Calls Try.prog 10 #[.int .i64 st, .int .u8 c] w fun e w' => e = .returned (.int .i64 (stepI st c)) ∧ w = w' := by
  have hc : (48 ≤ c ∧ c ≤ 57) ∨ c = 46 ∨ c = 101 ∨ c = 69 ∨ c = 43 ∨ c = 45 ∨ ((c < 48 ∨ 57 < c) ∧ ¬ c = 46 ∧ ¬ c = 101 ∧ ¬ c = 69 ∧ ¬ c = 43 ∧ ¬ c = 45) := by omega
  obtain ⟨z, HZ⟩ : ∃ z, Hid (stepI st c = z) := ⟨_, rfl⟩
  rw [HZ.out]
  obtain rfl | rfl | rfl | rfl | rfl : st = 0 ∨ st = 1 ∨ st = 2 ∨ st = 3 ∨ st = 4 := by omega
  all_goals
    rcases hc with ⟨h1, h2⟩ | rfl | rfl | rfl | rfl | rfl | ⟨h1, h3, h4, h5, h6, h7⟩
    all_goals
      go_enter Try.func10, Try.ntmps10
      go_wp2
      all_goals first
        | (exfalso; have hh : (c == 101) = true ∨ (c == 69) = true := by assumption
           simp at hh; omega)
        | (exfalso; have hh : (c == 43) = true ∨ (c == 45) = true := by assumption
           simp at hh; omega)
        | (go_ret
           refine ⟨ret_int ?_, rfl⟩
           rw [← HZ.out]
           simp [stepI, dg]
           done)
        | (go_ret
           refine ⟨ret_int ?_, rfl⟩
           rw [← HZ.out]
           simp [stepI, dg]
           omega)

set_option maxRecDepth 100000 in
set_option maxHeartbeats 1000000 in
theorem zznumber_any (w : World) (s : ByteArray) (o : Nat) (c : Int) (hc : c = wrap64 c) (bs : s.size ≤ 1048576) (bo : o ≤ s.size) :
    Calls Try.prog 9 #[.string s, .int .i64 o, .int .i64 c] w fun e w' => ∃ k n, numL (s.data.toList.drop o) = (k, n) ∧
      e = .returned (.tuple #[.int .u8 k, .string (txt k s o n), .int .i64 (tcol k c n), .int .i64 ((o + n : Nat) : Int), .int .i64 (wrap64 (c + (n : Nat)))]) ∧ Below w.heap.size w w' := by
  have HC := hid hc
  clear hc
  have N := number_any (w.alloc (Obj.cells #[Value.string s, Value.int IntKind.i64 ↑o, Value.int IntKind.i64 c] 35)) w.heap.size s o c (by rw [← HC.out]; exact heap_alloc_new w _) bs bo
  have JN := hid N
  clear N
  go_enter Try.func9, Try.ntmps9
  go_wp2_with fail
  refine JN.out.mono ?_
  rintro e w1 ⟨k, n, hnum, rfl, r2, r3⟩
  have B0 : Below w.heap.size w w1 := ((Below.refl _ _).alloc (Nat.le_refl _) _).trans r3
  have hlt : w.heap.size < w1.heap.size := (Array.getElem?_eq_some_iff.1 r2).1
  obtain ⟨tx, HT⟩ : ∃ t, Hid (t = txt k s o n) := ⟨_, rfl⟩
  obtain ⟨tc, HTC⟩ : ∃ t, Hid (t = tcol k c n) := ⟨_, rfl⟩
  obtain ⟨p, Hp⟩ : ∃ p : Int, Hid (p = ((o + n : Nat) : Int)) := ⟨_, rfl⟩
  obtain ⟨q, Hq⟩ : ∃ q, Hid (q = wrap64 (c + (n : Nat))) := ⟨_, rfl⟩
  rw [← HT.out, ← HTC.out]
  rw [← Hp.out, ← Hq.out] at r2
  have c1 : w1.cell? ⟨w.heap.size, 1, none⟩ = some (.int .i64 p) := by rw [cell_of_row w1 _ 1 _ _ _ r2]; rfl
  have c2 : w1.cell? ⟨w.heap.size, 2, none⟩ = some (.int .i64 q) := by rw [cell_of_row w1 _ 2 _ _ _ r2]; rfl
  have JB := hid B0; have Jn := hid hnum
  clear r2 r3 B0 hnum JN
  go_wp2
  go_quiet (fail)
  go_wp2
  refine bodyPost_ret (v := .tuple #[.int .u8 k, .string tx, .int .i64 tc, .int .i64 p, .int .i64 q]) (by simp [results, Try.results9]) rfl ⟨k, n, Jn.out, by rw [← HT.out, ← HTC.out, ← Hp.out, ← Hq.out], ?_⟩
  have hB := JB.out.alloc (by have := JB.out.size; exact this) (Obj.cells #[Value.int IntKind.u8 k, Value.string tx, Value.int IntKind.i64 tc] 38)
  exact ⟨hB.os, hB.tape, hB.output, hB.size, hB.block⟩

end Go.Proofs.Qxb6619233a.Num
