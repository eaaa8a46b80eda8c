/-
  THE WALKS OF THE SCANNER's SMALL METHODS, each as a contract.
-/
import Derived.Test.Qxb6619233aProg
import Derived.Test.Qxb6619233aNumPlain
import Derived.WalkKit
import Derived.WalkSpells
import Derived.WalkLawsBesides
import Derived.BigQuiet
import Derived.Deep.LoopGhost
namespace Go.Proofs.Qxb6619233a.Num
open Go.RowKit

theorem hid {p : Prop} (h : p) : Hid p := h
theorem ret_int {k : IntKind} {a b : Int} (h : a = b) : Ending.returned (.int k a) = .returned (.int k b) := by rw [h]
theorem ret_bool {a b : Bool} (h : a = b) : Ending.returned (.bool a) = .returned (.bool b) := by rw [h]

/-- The scanner lies in block b: its text, its offset, its column; all else is as in w0. -/
structure Scan (w0 w : World) (b : Nat) (s : ByteArray) (o : Nat) (c : Int) : Prop where
  row : w.heap[b]? = some (.cells #[.string s, .int .i64 o, .int .i64 c] 35 (0, 0))
  size : w.heap.size = w0.heap.size
  other : ∀ k, k ≠ b → w.heap[k]? = w0.heap[k]?
  os : w.os = w0.os
  tape : w.tape = w0.tape
  output : w.output = w0.output

section
variable {w0 w : World} {b : Nat} {s : ByteArray} {o : Nat} {c : Int}
theorem Scan.c0 (h : Scan w0 w b s o c) : w.cell? ⟨b, 0, none⟩ = some (.string s) := by rw [cell_of_row w b 0 _ _ _ h.row]; rfl
theorem Scan.c1 (h : Scan w0 w b s o c) : w.cell? ⟨b, 1, none⟩ = some (.int .i64 o) := by rw [cell_of_row w b 1 _ _ _ h.row]; rfl
theorem Scan.c2 (h : Scan w0 w b s o c) : w.cell? ⟨b, 2, none⟩ = some (.int .i64 c) := by rw [cell_of_row w b 2 _ _ _ h.row]; rfl
theorem Scan.free (h : Scan w0 w b s o c) (j : Nat) : w.frozen? ⟨b, j, none⟩ = false := frozen_of_row w b j _ _ h.row
theorem Scan.drewN (h : Scan w0 w b s o c) (q : Nat) : Scan w0 (w.drewN q) b s o c := ⟨h.row, h.size, h.other, h.os, h.tape, h.output⟩
theorem Scan.set (h : Scan w0 w b s o c) (o' : Nat) (c' : Int) : Scan w0 ((w.setCell ⟨b, 1, none⟩ (.int .i64 o')).setCell ⟨b, 2, none⟩ (.int .i64 c')) b s o' c' := by
  have h1 := heap_setCell_same w b 1 _ _ (.int .i64 o') h.row
  have h2 := heap_setCell_same (w.setCell ⟨b, 1, none⟩ (.int .i64 o')) b 2 _ _ (.int .i64 c') h1
  refine ⟨by rw [h2]; rfl, by simp [World.setCell, h.size], fun k hk => ?_, h.os, h.tape, h.output⟩
  rw [Below.heap_setCell _ _ _ _ hk, Below.heap_setCell _ _ _ _ hk]
  exact h.other k hk
end

set_option maxHeartbeats 400000 in
theorem dig_any (c : Int) (w : World) : Calls Try.prog 24 #[.int .u8 c] w fun e w' => e = .returned (.bool (dg c)) ∧ w = w' := by
  by_cases h1 : 48 ≤ c <;> by_cases h2 : c ≤ 57
  all_goals
    go_enter Try.func24, Try.ntmps24
    go_wp2
    go_ret
    exact ⟨ret_bool (by unfold dg; simp [h1, h2]), rfl⟩

theorem hd_at (s : ByteArray) (o : Nat) (h : o < s.size) : (s[o].toNat : Int) = hd (s.data.toList.drop o) := by
  have hl : o < s.data.toList.length := by simpa using h
  rw [List.drop_eq_getElem_cons hl]
  rfl
theorem hd_out (s : ByteArray) (o : Nat) (h : ¬ o < s.size) : hd (s.data.toList.drop o) = 0 := by
  rw [List.drop_eq_nil_of_le (by simpa using h)]; rfl

set_option maxHeartbeats 400000 in
theorem peek_any (w0 w : World) (b : Nat) (s : ByteArray) (o : Nat) (c : Int) (h : Scan w0 w b s o c) :
    Calls Try.prog 22 #[.pointer (some ⟨b, 0, none⟩)] w fun e w' => e = .returned (.int .u8 (hd (s.data.toList.drop o))) ∧ Scan w0 w' b s o c := by
  have h0 := h.c0
  have h1 := h.c1
  have H := hid h
  clear h
  by_cases hlt : o < s.size
  · go_enter Try.func22, Try.ntmps22
    go_wp2
    go_quiet (fail)
    go_wp2
    go_quiet (fail)
    go_wp2
    go_ret
    exact ⟨ret_int (hd_at s o hlt), by simpa using H.out.drewN _⟩
  · go_enter Try.func22, Try.ntmps22
    go_wp2
    go_quiet (fail)
    go_wp2
    go_ret
    exact ⟨ret_int (hd_out s o hlt).symm, H.out.drewN _⟩

set_option maxHeartbeats 400000 in
theorem skip_any (w0 w : World) (b : Nat) (s : ByteArray) (o : Nat) (c : Int) (h : Scan w0 w b s o c) (bo : o ≤ 1048576) :
    Calls Try.prog 23 #[.pointer (some ⟨b, 0, none⟩), .int .i64 1] w fun e w' => e = .returned (.tuple #[]) ∧ Scan w0 w' b s (o + 1) (wrap64 (c + 1)) := by
  have h1 := h.c1
  have h2 := h.c2
  have f1 := h.free 1
  have f2 := h.free 2
  have R := hid (h.set (o + 1) (wrap64 (c + 1)))
  clear h
  go_enter Try.func23, Try.ntmps23
  go_wp2
  go_end0
  refine ⟨rfl, ?_⟩
  have := R.out
  simpa using this

theorem wrap_more (c : Int) (k : Nat) : wrap64 (wrap64 (c + k) + 1) = wrap64 (c + (k + 1 : Nat)) := by unfold wrap64; omega

set_option maxRecDepth 100000 in
set_option maxHeartbeats 400000 in
theorem skipDigits_any (w0 w : World) (b : Nat) (s : ByteArray) (o : Nat) (c : Int) (h : Scan w0 w b s o (wrap64 c)) (bs : s.size ≤ 1048576) (bo : o ≤ s.size) :
    Calls Try.prog 21 #[.pointer (some ⟨b, 0, none⟩)] w fun e w' => e = .returned (.tuple #[]) ∧ Scan w0 w' b s (o + dl (s.data.toList.drop o)) (wrap64 (c + dl (s.data.toList.drop o))) := by
  have HD : Hid (o + dl (s.data.toList.drop o) ≤ s.size) := by
    have h1 := dl_le (s.data.toList.drop o)
    rw [List.length_drop] at h1
    have h2 : s.data.toList.length = s.size := rfl
    have h3 : o + dl (s.data.toList.drop o) ≤ s.size := by omega
    exact h3
  have H := hid h
  clear h
  go_enter Try.func21, Try.ntmps21
  go_wp2
  go_loopg [] (dl (s.data.toList.drop o)) (fun g wr => ∃ k : Nat, k + g = dl (s.data.toList.drop o) ∧ dl (s.data.toList.drop (o + k)) = g ∧ Scan w0 wr b s (o + k) (wrap64 (c + k)))
  case atStart => exact ⟨0, by omega, rfl, by simpa using H.out⟩
  case round =>
    obtain ⟨k, hkg, hg, hS⟩ := hrel
    have JS := hid hS; have Jk := hid hkg; have Jg := hid hg
    clear hS hkg hg H
    have hk : o + k ≤ 1048576 := by have := Jk.out; have := HD.out; omega
    obtain ⟨x, HX⟩ : ∃ x, Hid (hd (s.data.toList.drop (o + k)) = x) := ⟨_, rfl⟩
    have C1 := peek_any w0 wr b s (o + k) _ JS.out
    rw [HX.out] at C1
    have J1 := hid C1
    clear C1
    cases hdx : dg x with
    | true =>
      have C2 : ∀ wx, Calls Try.prog 24 #[.int .u8 x] wx fun e w' => e = .returned (.bool true) ∧ wx = w' := fun wx => by have := dig_any x wx; rw [hdx] at this; exact this
      have HDX := hid hdx
      have J2 := hid C2
      clear hdx C2
      go_wp2_with (first | (go_at_call 22; refine J1.out.mono ?_; rintro e w1 ⟨rfl, hw1⟩; have J3 := hid hw1; clear hw1) | (go_at_call 24; refine (J2.out _).mono ?_; rintro e w' ⟨rfl, rfl⟩) | (go_at_call 23; refine (skip_any w0 _ b s (o + k) _ J3.out hk).mono ?_; rintro e w2 ⟨rfl, hw2⟩))
      have hs := dl_step (s.data.toList.drop (o + k)) (by rw [HX.out]; exact HDX.out)
      rw [Jg.out, List.drop_drop] at hs
      go_roundg (gk - 1)
      case measure => omega
      case rel => exact ⟨k + 1, by have := Jk.out; omega, by rw [← Nat.add_assoc]; omega, by rw [← wrap_more]; exact hw2⟩
    | false =>
      have C2 : ∀ wx, Calls Try.prog 24 #[.int .u8 x] wx fun e w' => e = .returned (.bool false) ∧ wx = w' := fun wx => by have := dig_any x wx; rw [hdx] at this; exact this
      have HDX := hid hdx
      have J2 := hid C2
      clear hdx C2
      go_wp2_with (first | (go_at_call 22; refine J1.out.mono ?_; rintro e w1 ⟨rfl, hw1⟩; have J3 := hid hw1; clear hw1) | (go_at_call 24; refine (J2.out _).mono ?_; rintro e w' ⟨rfl, rfl⟩))
      go_end0
      have h0 := dl_stop (s.data.toList.drop (o + k)) (by rw [HX.out]; exact HDX.out)
      have e : k = dl (s.data.toList.drop o) := by have := Jk.out; have := Jg.out; omega
      rw [← e]
      exact ⟨rfl, J3.out⟩

end Go.Proofs.Qxb6619233a.Num
