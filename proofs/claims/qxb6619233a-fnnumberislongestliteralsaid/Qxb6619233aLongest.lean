/-
  'FnNumberIsLongestLiteral': THE WALK, for texts that are not too long and an offset inside.
-/
import Derived.Test.Qxb6619233aNumber2
namespace Go.Proofs.Qxb6619233a.Num
open Go.RowKit

/-- How the automaton's run goes on at place i in state st. -/
def OnWay (R : List UInt8) (o : Nat) (A : Nat × Nat) (st i : Nat) : Prop := A = ((aut st (R.drop i)).1, i - o + (aut st (R.drop i)).2)

theorem stepI_le (st : Nat) (c : Int) : stepI st c ≤ 4 := by
  unfold stepI
  split
  · split <;> (try split) <;> (try split) <;> omega
  · split
    · split <;> (try split) <;> omega
    · split
      · split <;> (try split) <;> omega
      · split
        · split <;> omega
        · omega

theorem onWay_stop {R : List UInt8} {o i st st' i' : Nat} (h : OnWay R o (st, i - o) st' i') (ho : o ≤ i) (ho' : o ≤ i') (hs : 0 < (R.drop i').length → stepI st' (hd (R.drop i')) < 0) : st' = st ∧ i' = i := by
  unfold OnWay at h
  rw [aut_stay st' _ hs] at h
  simp only [Prod.mk.injEq, Nat.add_zero] at h
  omega

theorem onWay_move {R : List UInt8} {o st' i' : Nat} {A : Nat × Nat} (h : OnWay R o A st' i') (ho' : o ≤ i') (hl : i' < R.length) (hs : 0 ≤ stepI st' (hd (R.drop i'))) : OnWay R o A (stepI st' (hd (R.drop i'))).toNat (i' + 1) := by
  unfold OnWay at h ⊢
  rw [h, aut_move st' (stepI st' (hd (R.drop i'))).toNat (R.drop i') (by rw [List.length_drop]; omega) (by omega), List.drop_drop]
  simp only [Prod.mk.injEq, true_and]
  omega

set_option maxRecDepth 100000 in
set_option maxHeartbeats 1000000 in
theorem law3 (s : ByteArray) (o : Nat) (c : Int) (w : World) (hc : c = wrap64 c) (bs : s.size ≤ 1048576) (bo : o ≤ s.size) :
    Calls Try.prog 3 #[.string s, .int .i64 o, .int .i64 c] w fun e w' => e = .returned (.bool true) ∧ Below w.heap.size w w' := by
  obtain ⟨R, HR⟩ : ∃ R, Hid (R = s.data.toList) := ⟨_, rfl⟩
  have JC := hid hc
  clear hc
  have N := zznumber_any w s o c JC.out bs bo
  rw [← HR.out] at N
  have JN := hid N
  clear N
  go_enter Try.func3, Try.ntmps3
  go_wp2_with (first | (go_at_call 8; refine (bytes8_yes _ _ _ _ bs).mono ?_; rintro e w' ⟨rfl, rfl⟩))
  refine JN.out.mono ?_
  rintro e w1 ⟨k, n, hnum, rfl, hB⟩
  have hA := aut_num (R.drop o)
  rw [hnum] at hA
  have hle := num_le (R.drop o)
  rw [hnum] at hle
  have hlen : o + n ≤ s.size := by rw [List.length_drop, HR.out] at hle; have h2 : s.data.toList.length = s.size := rfl; simp only [] at hle; omega
  obtain ⟨i, Hi⟩ : ∃ i, Hid (i = o + n) := ⟨_, rfl⟩
  have hoi : o ≤ i := by rw [Hi.out]; omega
  have his : i ≤ s.size := by rw [Hi.out]; exact hlen
  obtain ⟨st, Hst⟩ : ∃ st, Hid (st = (aut 0 (R.drop o)).1) := ⟨_, rfl⟩
  have HA : Hid (aut 0 (R.drop o) = (st, i - o)) := by
    have h : aut 0 (R.drop o) = (st, i - o) := by
      refine Prod.ext Hst.out.symm ?_
      rw [hA.1, Hi.out]; simp
    exact h
  have hK := hA.2
  rw [← Hst.out] at hK
  have HK := hid hK
  rw [← Hi.out]
  have hq : wrap64 (c + (n : Nat)) = wrap64 (c + ((i : Int) - (o : Int))) := by rw [Hi.out]; congr 1; omega
  rw [hq]
  obtain ⟨tx, HT⟩ : ∃ t, Hid (t = txt k s o n) := ⟨_, rfl⟩
  obtain ⟨tc, HTC⟩ : ∃ t, Hid (t = tcol k c n) := ⟨_, rfl⟩
  rw [← HT.out, ← HTC.out]
  have H1 : Hid (k = 1 → tx = ({ data := #[101, 120, 112, 111, 110, 101, 110, 116, 32, 119, 105, 116, 104, 111, 117, 116, 32, 100, 105, 103, 105, 116, 115] } : ByteArray) ∧ tc = wrap64 (c + ((i : Int) - (o : Int)))) := by
    intro h
    rw [HT.out, HTC.out, ← hq]; unfold txt tcol; rw [if_pos h, if_pos h]; exact ⟨rfl, rfl⟩
  have H2 : Hid (¬ k = 1 → tx = s.extract o i ∧ tc = c) := by
    intro h
    rw [HT.out, HTC.out]; unfold txt tcol; rw [if_neg h, if_neg h, ← Hi.out]; exact ⟨rfl, JC.out.symm⟩
  have JB := hid hB
  clear hnum hle hlen hA hK hB hq JN
  go_wp2
  go_loop [12, 13] (fun s12 s13 => ∃ st' i' : Nat, st' ≤ 4 ∧ o ≤ i' ∧ i' ≤ s.size ∧ s12 = .int .i64 st' ∧ s13 = .int .i64 i' ∧ OnWay R o (st, i - o) st' i') (fun _ s13 => s.size - (intOf s13).toNat)
  case atStart => exact ⟨0, o, by omega, Nat.le_refl _, bo, rfl, rfl, by unfold OnWay; rw [HA.out]; simp⟩
  case round =>
    obtain ⟨st', i', hst', hoi', his', rfl, rfl, hW⟩ := hrel
    have JW := hid hW
    clear hW
    have hRl : Hid (R.length = s.size) := by
      have h : R.length = s.size := by rw [HR.out]; rfl
      exact h
    have fin : ∀ (hs : 0 < (R.drop i').length → stepI st' (hd (R.drop i')) < 0), st' = st ∧ i' = i := fun hs => onWay_stop JW.out hoi hoi' hs
    have JF := hid fin
    clear fin
    by_cases hlt : i' < s.size
    · obtain ⟨z, HZ⟩ : ∃ z, Hid (z = stepI st' (hd (R.drop i'))) := ⟨_, rfl⟩
      have C : ∀ wx, Calls Try.prog 10 #[.int .i64 st', .int .u8 (s[i'].toNat : Int)] wx fun e w' => e = .returned (.int .i64 z) ∧ wx = w' := fun wx => by
        have := step_any st' hst' (s[i'].toNat : Int) wx
        rw [hd_at s i' hlt, ← HR.out, ← HZ.out] at this
        rw [hd_at s i' hlt, ← HR.out]; exact this
      have JS := hid C
      clear C
      by_cases hz : z < 0
      · obtain ⟨e1, e2⟩ := JF.out (fun _ => by rw [← HZ.out]; exact hz)
        subst e1 e2
        clear JF JW HZ
        rcases HK.out with ⟨rfl, rfl | rfl⟩ | ⟨rfl, rfl⟩ | ⟨rfl, rfl | rfl⟩
        all_goals
          first
            | (obtain ⟨et, ec⟩ := H1.out rfl
               clear H1 H2 HT HTC HK HA Hst)
            | (obtain ⟨et, ec⟩ := H2.out (by decide)
               clear H1 H2 HT HTC HK HA Hst)
          subst et
          subst ec
          go_wp2_with (go_at_call 10; refine (JS.out _).mono ?_; rintro e w' ⟨rfl, rfl⟩)
          go_ret
          exact ⟨ret_bool (by simp), JB.out⟩
      · have hz0 : 0 ≤ z := by omega
        have hz4 : z ≤ 4 := by rw [HZ.out]; exact stepI_le _ _
        have JM : Hid (OnWay R o (st, i - o) z.toNat (i' + 1)) := by rw [HZ.out]; exact onWay_move JW.out hoi' (by rw [hRl.out]; exact hlt) (by rw [← HZ.out]; exact hz0)
        clear JF JW HZ
        go_wp2_with (go_at_call 10; refine (JS.out _).mono ?_; rintro e w' ⟨rfl, rfl⟩)
        go_round
        case rel => exact ⟨z.toNat, i' + 1, by omega, by omega, by omega, by rw [Int.toNat_of_nonneg hz0], by go_num, JM.out⟩
        case measure => simp [intOf]; omega
    · obtain ⟨e1, e2⟩ := JF.out (fun h => by rw [List.length_drop, hRl.out] at h; omega)
      subst e1 e2
      clear JF JW
      rcases HK.out with ⟨rfl, rfl | rfl⟩ | ⟨rfl, rfl⟩ | ⟨rfl, rfl | rfl⟩
      all_goals
        first
          | (obtain ⟨et, ec⟩ := H1.out rfl
             clear H1 H2 HT HTC HK HA Hst)
          | (obtain ⟨et, ec⟩ := H2.out (by decide)
             clear H1 H2 HT HTC HK HA Hst)
        subst et
        subst ec
        go_wp2
        go_ret
        exact ⟨ret_bool (by simp), JB.out⟩

end Go.Proofs.Qxb6619233a.Num
