/-
  'FnTakesMatchesExpansionModel': THE WALK, for lists that are not too long.
-/
import Derived.Test.Qxb6619233aModel
import Derived.Deep.DeepCutAuto
namespace Go.Proofs.Qxb6619233a
open Go.RowKit Plain

set_option maxRecDepth 100000 in
set_option maxHeartbeats 1000000 in
theorem law5 (a0 : Option Addr) (n c0 : Nat) (P : List Int) (v : Bool) (a1 : Option Addr) (m c1 : Nat) (A : List Int) (wd : Bool) (w : World) (hn : P.length = n) (hm : A.length = m) (bn : n ≤ 65536) (bm : m ≤ 65536) (hc0 : n ≤ c0) (hc1 : m ≤ c1)
    (hP : At w a0 n P) (hA : At w a1 m A) (hvn : v = false ∨ (v = true ∧ 0 < n)) :
    Calls Try.prog 5 #[.slice a0 n c0, .bool v, .slice a1 m c1, .bool wd] w fun e w' => e = .returned (.bool true) ∧ Below w.heap.size w w' := by
  have hne := fun w => @run_neq_slice_nil_any Try.prog w 27 30 a0 n c0 0 0 Try.underlying27
  have hne1 := fun w => @run_neq_slice_nil_any Try.prog w 27 30 a1 m c1 0 0 Try.underlying27
  have HN : Hid (P.length = n) := hn
  have HM : Hid (A.length = m) := hm
  obtain ⟨bv, HB⟩ : ∃ bv, Hid (bv = v) := ⟨_, rfl⟩
  have HV : Hid (bv = true → 0 < m → 0 < n) := fun h1 h2 => by
    rw [HB.out] at h1
    rcases hvn with h | ⟨_, h⟩
    · rw [h1] at h; cases h
    · exact h
  clear hn hm
  obtain ⟨i0, hi, hz0, hz1, hz2⟩ := info_parts info30
  rcases hvn with rfl | ⟨rfl, hv0⟩
  all_goals
    go_enter Try.func5, Try.ntmps5
    go_upto_if 37 with (first | (go_at_call 13; refine (bytes13_yes _ _ _ _ _ _ _ _ _ (by omega)).mono ?_; rintro e w' ⟨rfl, rfl⟩))
    go_cut [0] (fun s0 w1 => Reads w1 s0 n P ∧ Below w.heap.size w w1)
    case first => as_aux_lemma =>
      clear hA hne hne1
      rcases a0 with _ | x
      · have h0 : ¬ 0 < n := fun h => by obtain ⟨b, o, h, _⟩ := hP h; cases h
        clear hP
        first
          | exact absurd hv0 h0
          | (go_wp2
             go_meet
             case rel => exact ⟨⟨none, c0, rfl, hc0, fun h => absurd h h0⟩, Below.refl _ _⟩)
      · go_wp2_with (at_make; refine wpList_make_full _ rfl _ _ 27 rfl w.heap.size 30 i0 (.int .u8 0) 1 Try.underlying27 hi hz0 hz1 _ _ _ _ _ rfl rfl rfl rfl ?b2 ?b3 (Nat.le_refl _) ?_)
        case b2 => rw [hz2]; omega
        case b3 => unfold maxLen; omega
        intro w1 hown hgrow
        obtain ⟨w2, hcp, hR, hB⟩ := copy_made w w1 _ c0 P x _ HN.out hown hgrow hP
        clear hown hgrow hP
        go_wp2
        go_meet
        case rel => exact ⟨hR, hB⟩
    case rest =>
      obtain ⟨⟨b0, d0, rfl, hd0, hR0⟩, hB1⟩ := hcut
      have hA1 := hA.below hB1
      clear hA hP hne
      go_upto_if 46 with fail
      go_cut [2] (fun s1 w2 => Reads w2 s1 m A ∧ Below wc.heap.size wc w2)
      case first => as_aux_lemma =>
        clear hne1
        rcases a1 with _ | x
        · have h0 : ¬ 0 < m := fun h => by obtain ⟨b, o, h, _⟩ := hA1 h; cases h
          clear hA1
          go_wp2
          go_meet
          case rel => exact ⟨⟨none, c1, rfl, hc1, fun h => absurd h h0⟩, Below.refl _ _⟩
        · go_wp2_with (at_make; refine wpList_make_full _ rfl _ _ 27 rfl wc.heap.size 30 i0 (.int .u8 0) 1 Try.underlying27 hi hz0 hz1 _ _ _ _ _ rfl rfl rfl rfl ?b2 ?b3 (Nat.le_refl _) ?_)
          case b2 => rw [hz2]; omega
          case b3 => unfold maxLen; omega
          intro w1 hown hgrow
          obtain ⟨w2, hcp, hR, hB⟩ := copy_made wc w1 _ c1 A x _ HM.out hown hgrow hA1
          clear hown hgrow hA1
          go_wp2
          go_meet
          case rel => exact ⟨hR, hB⟩
      case rest =>
        obtain ⟨⟨b1, d1, rfl, hd1, hR1⟩, hB2⟩ := hcut
        have hBw : Below w.heap.size w wc := hB1.trans (hB2.mono hB1.size)
        have hR0' := hR0.below hB2
        have C1 := zz_any b0 n d0 P bv b1 m d1 A wd wc HN.out HM.out (by omega) (by omega) hR0' hR1 HV.out
        have C2 := model_any b0 n d0 P bv b1 m d1 A wd wc HN.out HM.out (by omega) (by omega) hR0' hR1 HV.out
        rw [HB.out] at C1 C2
        have J1 := hid C1; have J2 := hid C2
        clear C1 C2 HB hR0 hA1 hne1 hB2 hB1 hR0' hR1 HV HN HM
        go_wp2_with (first | (go_at_call 14; refine J1.out.mono ?_; rintro e w' ⟨rfl, hw⟩; obtain rfl := hw.symm) | (go_at_call 15; refine J2.out.mono ?_; rintro e w' ⟨rfl, q, rfl⟩))
        go_ret
        exact ⟨by simp, hBw.os, hBw.tape, hBw.output, hBw.size, hBw.block⟩

set_option maxRecDepth 100000 in
set_option maxHeartbeats 1000000 in
/-- Both lists empty. -/
theorem law5z (a0 : Option Addr) (c0 : Nat) (a1 : Option Addr) (c1 : Nat) (wd : Bool) (w : World) :
    Calls Try.prog 5 #[.slice a0 0 c0, .bool true, .slice a1 0 c1, .bool wd] w fun e w' => e = .returned (.bool true) ∧ Below w.heap.size w w' := by
  have hne := fun w => @run_neq_slice_nil_any Try.prog w 27 30 a0 0 c0 0 0 Try.underlying27
  have hne1 := fun w => @run_neq_slice_nil_any Try.prog w 27 30 a1 0 c1 0 0 Try.underlying27
  obtain ⟨i0, hi, hz0, hz1, hz2⟩ := info_parts info30
  go_enter Try.func5, Try.ntmps5
  go_upto_if 37 with (first | (go_at_call 13; refine (bytes13_yes _ _ _ _ _ _ _ _ _ (by omega)).mono ?_; rintro e w' ⟨rfl, rfl⟩))
  go_cut [0] (fun s0 w1 => (∃ a c, s0 = .slice a 0 c) ∧ Below w.heap.size w w1)
  case first => as_aux_lemma =>
    clear hne hne1
    rcases a0 with _ | x
    · go_wp2
      go_meet
      case rel => exact ⟨⟨none, c0, rfl⟩, Below.refl _ _⟩
    · go_wp2_with (at_make; refine wpList_make_full _ rfl _ _ 27 rfl w.heap.size 30 i0 (.int .u8 0) 1 Try.underlying27 hi hz0 hz1 _ _ _ _ 0 rfl rfl rfl rfl ?b2 ?b3 (Nat.le_refl _) ?_)
      case b2 => rw [hz2]; omega
      case b3 => unfold maxLen; omega
      intro w1 hown hgrow
      obtain ⟨w2, hcp, hR, hB⟩ := copy_made w w1 0 c0 [] x _ rfl hown hgrow (fun h => absurd h (by omega))
      clear hown hgrow
      go_wp2
      go_meet
      case rel => exact ⟨⟨_, _, rfl⟩, hB⟩
  case rest =>
    obtain ⟨⟨b0, d0, rfl⟩, hB1⟩ := hcut
    clear hne
    go_upto_if 46 with fail
    go_cut [2] (fun s1 w2 => (∃ a c, s1 = .slice a 0 c) ∧ Below wc.heap.size wc w2)
    case first => as_aux_lemma =>
      clear hne1
      rcases a1 with _ | x
      · go_wp2
        go_meet
        case rel => exact ⟨⟨none, c1, rfl⟩, Below.refl _ _⟩
      · go_wp2_with (at_make; refine wpList_make_full _ rfl _ _ 27 rfl wc.heap.size 30 i0 (.int .u8 0) 1 Try.underlying27 hi hz0 hz1 _ _ _ _ 0 rfl rfl rfl rfl ?b2 ?b3 (Nat.le_refl _) ?_)
        case b2 => rw [hz2]; omega
        case b3 => unfold maxLen; omega
        intro w1 hown hgrow
        obtain ⟨w2, hcp, hR, hB⟩ := copy_made wc w1 0 c1 [] x _ rfl hown hgrow (fun h => absurd h (by omega))
        clear hown hgrow
        go_wp2
        go_meet
        case rel => exact ⟨⟨_, _, rfl⟩, hB⟩
    case rest =>
      obtain ⟨⟨b1, d1, rfl⟩, hB2⟩ := hcut
      have hBw : Below w.heap.size w wc := hB1.trans (hB2.mono hB1.size)
      have C1 := zz_any b0 0 d0 [] true b1 0 d1 [] wd wc rfl rfl (by omega) (by omega) (fun h => absurd h (by omega)) (fun h => absurd h (by omega)) (fun _ h => h)
      have C2 := model_any b0 0 d0 [] true b1 0 d1 [] wd wc rfl rfl (by omega) (by omega) (fun h => absurd h (by omega)) (fun h => absurd h (by omega)) (fun _ h => h)
      have J1 := hid C1; have J2 := hid C2
      clear C1 C2 hne1 hB2 hB1
      go_wp2_with (first | (go_at_call 14; refine J1.out.mono ?_; rintro e w' ⟨rfl, hw⟩; obtain rfl := hw.symm) | (go_at_call 15; refine J2.out.mono ?_; rintro e w' ⟨rfl, q, rfl⟩))
      go_ret
      exact ⟨by simp, hBw.os, hBw.tape, hBw.output, hBw.size, hBw.block⟩

end Go.Proofs.Qxb6619233a
