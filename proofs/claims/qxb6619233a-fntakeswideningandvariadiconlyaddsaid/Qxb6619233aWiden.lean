/-
  'FnTakesWideningAndVariadicOnlyAdd': THE WALK, for lists that are not too long.
-/
import Derived.Test.Qxb6619233aWiden0
import Derived.Deep.DeepCutAuto
namespace Go.Proofs.Qxb6619233a
open Go.RowKit Plain

set_option maxRecDepth 100000 in
set_option maxHeartbeats 2000000 in
theorem law7 (a0 : Option Addr) (n c0 : Nat) (P : List Int) (a1 : Option Addr) (m c1 : Nat) (A : List Int) (x : Int) (wd : Bool) (w : World) (hn : P.length = n) (hm : A.length = m) (bn : n ≤ 65536) (bm : m ≤ 65536) (hc0 : n ≤ c0) (hc1 : m ≤ c1)
    (hP : At w a0 n P) (hA : At w a1 m A) :
    Calls Try.prog 7 #[.slice a0 n c0, .slice a1 m c1, .int .u8 x, .bool wd] w fun e w' => e = .returned (.bool true) ∧ Below w.heap.size w w' := by
  have hne := fun w => @run_neq_slice_nil_any Try.prog w 27 30 a0 n c0 0 0 Try.underlying27
  have hne1 := fun w => @run_neq_slice_nil_any Try.prog w 27 30 a1 m c1 0 0 Try.underlying27
  have HN : Hid (P.length = n) := hn
  have HM : Hid (A.length = m) := hm
  clear hn hm
  obtain ⟨i0, hi, hz0, hz1, hz2⟩ := info_parts info30
  go_enter Try.func7, Try.ntmps7
  go_upto_if 37 with (first | (go_at_call 17; refine (bytes17_yes _ _ _ _ _ _ _ _ _ (by omega)).mono ?_; rintro e w' ⟨rfl, rfl⟩))
  go_cut [0] (fun s0 w1 => Reads w1 s0 n P ∧ Below w.heap.size w w1)
  case first => as_aux_lemma =>
    clear hA hne hne1
    rcases a0 with _ | x
    · have h0 : ¬ 0 < n := fun h => by obtain ⟨b, o, h, _⟩ := hP h; cases h
      clear hP
      go_wp2
      go_meet
      case rel => exact ⟨⟨none, c0, rfl, hc0, fun h => absurd h h0⟩, Below.refl _ _⟩
    · go_wp2_with (at_make; refine wpList_make_full _ rfl _ _ 27 rfl w.heap.size 30 i0 (.int .u8 0) 1 Try.underlying27 hi hz0 hz1 _ _ _ _ n rfl rfl rfl rfl ?b2 ?b3 (Nat.le_refl _) ?_)
      case b2 => rw [hz2]; omega
      case b3 => unfold maxLen; omega
      intro w1 hown hgrow
      obtain ⟨w2, hcp, hR, hB⟩ := copy_made w w1 n c0 P x _ HN.out hown hgrow hP
      clear hown hgrow hP
      go_wp2
      go_meet
      case rel => exact ⟨hR, hB⟩
  case rest =>
    obtain ⟨⟨b0, d0, rfl, hd0, hR0⟩, hB1⟩ := hcut
    have hA1 := hA.below hB1
    clear hA hP hne
    go_upto_if 46 with fail
    go_cut [1] (fun s1 w2 => Reads w2 s1 m A ∧ Below wc.heap.size wc w2)
    case first => as_aux_lemma =>
      clear hne1
      rcases a1 with _ | x
      · have h0 : ¬ 0 < m := fun h => by obtain ⟨b, o, h, _⟩ := hA1 h; cases h
        clear hA1
        go_wp2
        go_meet
        case rel => exact ⟨⟨none, c1, rfl, hc1, fun h => absurd h h0⟩, Below.refl _ _⟩
      · go_wp2_with (at_make; refine wpList_make_full _ rfl _ _ 27 rfl wc.heap.size 30 i0 (.int .u8 0) 1 Try.underlying27 hi hz0 hz1 _ _ _ _ m rfl rfl rfl rfl ?b2 ?b3 (Nat.le_refl _) ?_)
        case b2 => rw [hz2]; omega
        case b3 => unfold maxLen; omega
        intro w1 hown hgrow
        obtain ⟨w2, hcp, hR, hB⟩ := copy_made wc w1 m c1 A x _ HM.out hown hgrow hA1
        clear hown hgrow hA1
        go_wp2
        go_meet
        case rel => exact ⟨hR, hB⟩
    case rest =>
      obtain ⟨⟨b1, d1, rfl, hd1, hR1⟩, hB2⟩ := hcut
      have hBw : Below w.heap.size w wc := hB1.trans (hB2.mono hB1.size)
      have hR0' : At wc b0 n P := hR0.below hB2
      clear hR0 hA1 hne1 hB2 hB1
      have F := four P A
      rw [HN.out, HM.out] at F
      obtain ⟨s0, H0⟩ : ∃ r, Hid (takesB P false A false = r) := ⟨_, rfl⟩
      obtain ⟨s1, H1⟩ : ∃ r, Hid (takesB P false A true = r) := ⟨_, rfl⟩
      obtain ⟨v0, H2⟩ : ∃ r, Hid (takesB P true A false = r) := ⟨_, rfl⟩
      obtain ⟨v1, H3⟩ : ∃ r, Hid (takesB P true A true = r) := ⟨_, rfl⟩
      rw [H0.out, H1.out, H2.out, H3.out] at F
      have JF := hid F
      clear F
      have C0 : ∀ wx, At wx b0 n P → At wx b1 m A → Calls Try.prog 14 #[.slice b0 n d0, .bool false, .slice b1 m d1, .bool false] wx fun e w' => e = .returned (.bool s0) ∧ wx = w' := fun wx h h' => by
        have := zz_any b0 n d0 P false b1 m d1 A false wx HN.out HM.out (by omega) (by omega) h h' (fun h => by cases h)
        rw [H0.out] at this
        exact this.mono fun _ _ h => ⟨h.1, h.2.symm⟩
      have C1 : ∀ wx, At wx b0 n P → At wx b1 m A → Calls Try.prog 14 #[.slice b0 n d0, .bool false, .slice b1 m d1, .bool true] wx fun e w' => e = .returned (.bool s1) ∧ wx = w' := fun wx h h' => by
        have := zz_any b0 n d0 P false b1 m d1 A true wx HN.out HM.out (by omega) (by omega) h h' (fun h => by cases h)
        rw [H1.out] at this
        exact this.mono fun _ _ h => ⟨h.1, h.2.symm⟩
      have C2 : 0 < n → ∀ wx, At wx b0 n P → At wx b1 m A → Calls Try.prog 14 #[.slice b0 n d0, .bool true, .slice b1 m d1, .bool false] wx fun e w' => e = .returned (.bool v0) ∧ wx = w' := fun h0 wx h h' => by
        have := zz_any b0 n d0 P true b1 m d1 A false wx HN.out HM.out (by omega) (by omega) h h' (fun _ _ => h0)
        rw [H2.out] at this
        exact this.mono fun _ _ h => ⟨h.1, h.2.symm⟩
      have C3 : 0 < n → ∀ wx, At wx b0 n P → At wx b1 m A → Calls Try.prog 14 #[.slice b0 n d0, .bool true, .slice b1 m d1, .bool true] wx fun e w' => e = .returned (.bool v1) ∧ wx = w' := fun h0 wx h h' => by
        have := zz_any b0 n d0 P true b1 m d1 A true wx HN.out HM.out (by omega) (by omega) h h' (fun _ _ => h0)
        rw [H3.out] at this
        exact this.mono fun _ _ h => ⟨h.1, h.2.symm⟩
      have JC0 := hid C0; have JC1 := hid C1; have JC2 := hid C2; have JC3 := hid C3; have JP := hid hR0'; have JA := hid hR1
      clear C0 C1 C2 C3 hR0' hR1
      go_upto_region 15 with (go_at_call 14; first | (go_at_call_of 14 (Value.bool true); refine (JC1.out _ JP.out JA.out).mono ?_; rintro e w' ⟨rfl, rfl⟩) | (refine (JC0.out _ JP.out JA.out).mono ?_; rintro e w' ⟨rfl, rfl⟩))
      go_cut [64] (fun s w3 => s = .bool false ∧ wc = w3)
      case first => as_aux_lemma =>
        have F1 := JF.out.1
        clear JF JP JA JC0 JC1 JC2 JC3 H0 H1 H2 H3
        cases s0
        · go_wp2
          go_meet
          case rel => exact ⟨rfl, rfl⟩
        · obtain rfl := F1 rfl
          clear F1
          go_wp2
          go_meet
          case rel => exact ⟨rfl, rfl⟩
      case rest =>
        obtain ⟨rfl, rfl⟩ := hcut
        by_cases hn0 : 0 < n
        · go_upto_region 21 with (go_at_call 14; first | (go_at_call_of 14 (Value.bool false); refine (JC2.out hn0 _ JP.out JA.out).mono ?_; rintro e w' ⟨rfl, rfl⟩) | (refine (JC3.out hn0 _ JP.out JA.out).mono ?_; rintro e w' ⟨rfl, rfl⟩))
          go_cut [102] (fun s w3 => s = .bool false ∧ wc = w3)
          case first => as_aux_lemma =>
            obtain ⟨F1, F2, F3, F4, _⟩ := JF.out
            clear JF JP JA JC0 JC1 JC2 JC3 H0 H1 H2 H3
            revert F1 F2 F3 F4
            cases s0 <;> cases s1 <;> cases v0 <;> cases v1 <;> intro F1 F2 F3 F4
            all_goals first
              | (exfalso; first | (cases F1 rfl; done) | (cases F2 rfl; done) | (cases F3 rfl; done) | (cases F4 rfl; done))
              | (clear F1 F2 F3 F4
                 go_wp2
                 go_meet
                 case rel => exact ⟨rfl, rfl⟩)
          case rest =>
            obtain ⟨rfl, rfl⟩ := hcut
            go_upto_region 23 with fail
            go_cut [117] (fun s w3 => s = .bool false ∧ wc = w3)
            case first => as_aux_lemma =>
              obtain ⟨_, _, _, _, F5⟩ := JF.out
              clear JF JP JA JC0 JC1 JC2 JC3 H0 H1 H2 H3
              by_cases hmn : m ≤ n
              · obtain ⟨rfl, rfl⟩ := F5 hmn
                clear F5
                go_wp2
                go_meet
                case rel => exact ⟨rfl, rfl⟩
              · clear F5
                go_wp2
                go_meet
                case rel => exact ⟨rfl, rfl⟩
            case rest =>
              obtain ⟨rfl, rfl⟩ := hcut
              clear JF JC0 JC1 JC2 JC3 H0 H1 H2 H3
              obtain ⟨b, o, rfl, hcP⟩ := JP.out hn0
              obtain ⟨last, HL⟩ : ∃ l, Hid (l = P.getD (n - 1) 0) := ⟨_, rfl⟩
              have hcl : wc.cell? ⟨b, o + (n - 1), none⟩ = some (.int .u8 last) := by rw [HL.out]; exact hcP (n - 1) (by omega)
              clear hcP
              obtain ⟨E, HE⟩ : ∃ E, Hid (E = A ++ [x]) := ⟨_, rfl⟩
              go_wp2_with (at_make; refine wpList_make_full _ rfl _ _ 27 rfl wc.heap.size 30 i0 (.int .u8 0) 1 Try.underlying27 hi hz0 hz1 _ _ _ _ (m + 1) rfl rfl (by omega) (by omega) ?b2 ?b3 (Nat.le_refl _) ?_)
              case b2 => rw [hz2]; omega
              case b3 => unfold maxLen; omega
              intro w1 hown hgrow
              have HF0 := hid (Filled.start E hown hgrow)
              clear hown hgrow hcl
              go_wp2
              have HEm : Hid (E.getD m 0 = x) := by have := getD_snoc_eq A x; rw [HM.out, ← HE.out] at this; exact this
              have HEk : Hid (∀ t, t < m → E.getD t 0 = A.getD t 0) := fun t ht => by rw [HE.out]; exact getD_snoc_lt A x t (by rw [HM.out]; exact ht)
              have hB := hid hBw
              clear hBw
              go_loopw [17] (fun i wr => ∃ k : Nat, k ≤ m ∧ i = .int .i64 k ∧ Filled wc wr wc.heap.size (m + 1) E k) (fun i _ => m - (intOf i).toNat)
              case atStart => exact ⟨0, Nat.zero_le _, rfl, HF0.out⟩
              case round =>
                obtain ⟨k, hk, rfl, hF⟩ := hrel
                have JFk := hid hF
                clear hF HF0
                by_cases hlt : k < m
                · obtain ⟨b', o', rfl, hcA⟩ := JA.out (by omega)
                  obtain ⟨u, HU⟩ : ∃ u, Hid (u = A.getD k 0) := ⟨_, rfl⟩
                  have hcu : wr.cell? ⟨b', o' + k, none⟩ = some (.int .u8 u) := by rw [HU.out, ← hcA k hlt]; exact JFk.out.below.cell (World.block_lt_of_cell? wc _ (hcA k hlt))
                  obtain ⟨v, hcv⟩ := JFk.out.cell k (by omega)
                  have hfv := JFk.out.free k
                  have R : Hid (Filled wc (wr.setCell ⟨wc.heap.size, k, none⟩ (.int .u8 u)) wc.heap.size (m + 1) E (k + 1)) := by
                    have := JFk.out.step (by omega)
                    rw [HEk.out k hlt, ← HU.out] at this; exact this
                  clear hcA
                  go_wp2
                  go_roundw
                  case rel => exact ⟨k + 1, by omega, by go_num, R.out⟩
                  case measure => simp [intOf]; omega
                · obtain rfl : k = m := by omega
                  obtain ⟨v, hcv⟩ := JFk.out.cell k (by omega)
                  have hfv := JFk.out.free k
                  have R : Hid (Filled wc (wr.setCell ⟨wc.heap.size, k, none⟩ (.int .u8 x)) wc.heap.size (k + 1) E (k + 1)) := by
                    have := JFk.out.step (by omega)
                    rw [HEm.out] at this; exact this
                  go_upto_if 150 with fail
                  clear hcv hfv JFk
                  generalize wr.setCell ⟨wc.heap.size, k, none⟩ (.int .u8 x) = wx at R ⊢
                  go_cut [] (fun w3 => At w3 (some ⟨b, o, none⟩) n P ∧ Below w.heap.size w w3)
                  case first => as_aux_lemma =>
                    have hPx := JP.out.below R.out.below
                    have hAx := JA.out.below R.out.below
                    have hEx := R.out.at
                    have hBx : Below w.heap.size w wx := hB.out.trans (R.out.below.mono hB.out.size)
                    have hEl : E.length = k + 1 := by rw [HE.out, List.length_append, HM.out]; rfl
                    obtain ⟨kk, HK⟩ : ∃ r, Hid (takesB P true A wd = r) := ⟨_, rfl⟩
                    obtain ⟨ff, HFF⟩ : ∃ r, Hid (fitB wd x last = r) := ⟨_, rfl⟩
                    have Cf := fits_any x last wd wx
                    rw [HFF.out] at Cf
                    by_cases hmn : n ≤ k
                    · have Cg := zz_any (some ⟨b, o, none⟩) n d0 P true (some ⟨wc.heap.size, 0, none⟩) (k + 1) (k + 1) E wd wx HN.out hEl (by omega) (by omega) hPx hEx (fun _ _ => hn0)
                      have Ck := zz_any (some ⟨b, o, none⟩) n d0 P true b1 k d1 A wd wx HN.out HM.out (by omega) (by omega) hPx hAx (fun _ _ => hn0)
                      have hg := grown P A x wd (by rw [HN.out]; exact hn0) (by rw [HN.out, HM.out]; exact hmn)
                      rw [← HE.out, HN.out, ← HL.out, HK.out, HFF.out] at hg
                      rw [hg] at Cg
                      rw [HK.out] at Ck
                      have JCg := hid Cg; have JCk := hid Ck; have JCf := hid Cf; have JBx := hid hBx; have JPx := hid hPx
                      clear Cg Ck Cf hBx hPx hAx hEx hEl hg HK HFF HE HEm HEk R JA JP HL
                      cases kk
                      · go_wp2_with (first | (go_at_call_of 14 (Value.slice b1 k d1); refine JCk.out.mono ?_; rintro e w' ⟨rfl, hw⟩; obtain rfl := hw.symm) | (go_at_call 14; refine JCg.out.mono ?_; rintro e w' ⟨rfl, hw⟩; obtain rfl := hw.symm))
                        go_meet
                        case rel => exact ⟨JPx.out, JBx.out⟩
                      · go_wp2_with (first | (go_at_call_of 14 (Value.slice b1 k d1); refine JCk.out.mono ?_; rintro e w' ⟨rfl, hw⟩; obtain rfl := hw.symm) | (go_at_call 14; refine JCg.out.mono ?_; rintro e w' ⟨rfl, hw⟩; obtain rfl := hw.symm) | (go_at_call 18; refine JCf.out.mono ?_; rintro e w' ⟨rfl, hw⟩; obtain rfl := hw.symm))
                        go_meet
                        case rel => exact ⟨JPx.out, JBx.out⟩
                    · have JBx := hid hBx; have JPx := hid hPx
                      clear Cf hBx hPx hAx hEx hEl HK HFF HE HEm HEk R JA JP HL
                      go_wp2
                      go_meet
                      case rel => exact ⟨JPx.out, JBx.out⟩
                  case rest =>
                    obtain ⟨hP3, hB3⟩ := hcut
                    have JP3 := hid hP3; have JB3 := hid hB3
                    clear hP3 hB3 hB JP JA R HE HEm HEk
                    obtain ⟨E2, HE2⟩ : ∃ E, Hid (E = P ++ [last]) := ⟨_, rfl⟩
                    go_wp2_with (at_make; refine wpList_make_full _ rfl _ _ 27 rfl wc.heap.size 30 i0 (.int .u8 0) 1 Try.underlying27 hi hz0 hz1 _ _ _ _ (n + 1) rfl rfl (by omega) (by omega) ?b2 ?b3 (Nat.le_refl _) ?_)
                    case b2 => rw [hz2]; omega
                    case b3 => unfold maxLen; omega
                    intro w1 hown hgrow
                    have HF0 := hid (Filled.start E2 hown hgrow)
                    clear hown hgrow
                    go_wp2
                    have HEm : Hid (E2.getD n 0 = last) := by have := getD_snoc_eq P last; rw [HN.out, ← HE2.out] at this; exact this
                    have HEk : Hid (∀ t, t < n → E2.getD t 0 = P.getD t 0) := fun t ht => by rw [HE2.out]; exact getD_snoc_lt P last t (by rw [HN.out]; exact ht)
                    have hEl : Hid (E2.length = n + 1) := by have : E2.length = n + 1 := by rw [HE2.out, List.length_append, HN.out]; rfl
                                                             exact this
                    go_loopw [21] (fun i wr => ∃ k : Nat, k ≤ n ∧ i = .int .i64 k ∧ Filled wc wr wc.heap.size (n + 1) E2 k) (fun i _ => n - (intOf i).toNat)
                    case atStart => exact ⟨0, Nat.zero_le _, rfl, HF0.out⟩
                    case round =>
                      obtain ⟨j, hj, rfl, hF⟩ := hrel
                      have JFk := hid hF
                      clear hF HF0
                      by_cases hlt : j < n
                      · obtain ⟨b', o', hbo, hcA⟩ := JP3.out hn0
                        cases hbo
                        obtain ⟨u, HU⟩ : ∃ u, Hid (u = P.getD j 0) := ⟨_, rfl⟩
                        have hcu : wr.cell? ⟨b, o + j, none⟩ = some (.int .u8 u) := by rw [HU.out, ← hcA j hlt]; exact JFk.out.below.cell (World.block_lt_of_cell? wc _ (hcA j hlt))
                        obtain ⟨v, hcv⟩ := JFk.out.cell j (by omega)
                        have hfv := JFk.out.free j
                        have R : Hid (Filled wc (wr.setCell ⟨wc.heap.size, j, none⟩ (.int .u8 u)) wc.heap.size (n + 1) E2 (j + 1)) := by
                          have := JFk.out.step (by omega)
                          rw [HEk.out j hlt, ← HU.out] at this; exact this
                        clear hcA
                        go_wp2
                        go_roundw
                        case rel => exact ⟨j + 1, by omega, by go_num, R.out⟩
                        case measure => simp [intOf]; omega
                      · have hjn : j = n := by omega
                        rw [hjn] at JFk
                        have hjn' : n ≤ j := by omega
                        clear hjn
                        obtain ⟨v, hcv⟩ := JFk.out.cell n (by omega)
                        have hfv := JFk.out.free n
                        have R : Hid (Filled wc (wr.setCell ⟨wc.heap.size, n, none⟩ (.int .u8 last)) wc.heap.size (n + 1) E2 (n + 1)) := by
                          have := JFk.out.step (by omega)
                          rw [HEm.out] at this; exact this
                        go_upto_region 43 with fail
                        clear hcv hfv JFk
                        generalize wr.setCell ⟨wc.heap.size, n, none⟩ (.int .u8 last) = wx at R ⊢
                        have hPx := JP3.out.below R.out.below
                        have hEx := R.out.at
                        have hBx : Below w.heap.size w wx := JB3.out.trans (R.out.below.mono JB3.out.size)
                        have Ct := zz_any (some ⟨b, o, none⟩) n d0 P true (some ⟨wc.heap.size, 0, none⟩) (n + 1) (n + 1) E2 false wx HN.out hEl.out (by omega) (by omega) hPx hEx (fun _ _ => hn0)
                        have Cn := zz_any (some ⟨b, o, none⟩) n d0 P false (some ⟨wc.heap.size, 0, none⟩) (n + 1) (n + 1) E2 wd wx HN.out hEl.out (by omega) (by omega) hPx hEx (fun h => by cases h)
                        have ht := repeated P false (by rw [HN.out]; exact hn0)
                        rw [HN.out, ← HL.out, ← HE2.out] at ht
                        have hf := repeated_not P last wd
                        rw [← HE2.out] at hf
                        rw [ht] at Ct
                        rw [hf] at Cn
                        have JCt := hid Ct; have JCn := hid Cn; have JBx := hid hBx
                        clear Ct Cn hBx ht hf hPx hEx HEm HEk hEl HE2 HL R JP3 JB3
                        go_wp2_with (first | (go_at_call_of 14 (Value.bool true); refine JCt.out.mono ?_; rintro e w' ⟨rfl, hw⟩; obtain rfl := hw.symm) | (go_at_call 14; refine JCn.out.mono ?_; rintro e w' ⟨rfl, hw⟩; obtain rfl := hw.symm))
                        go_ret
                        exact ⟨rfl, JBx.out⟩
        · obtain rfl : n = 0 := by omega
          have hP0 : P = [] := List.eq_nil_of_length_eq_zero HN.out
          have e0 := none_takes A false
          have e1 := none_takes A true
          rw [← hP0, HM.out] at e0 e1
          rw [H0.out] at e0
          rw [H1.out] at e1
          clear JF JP JA JC0 JC1 JC2 JC3 H0 H1 H2 H3 HN hP0
          by_cases hm0 : m = 0
          · have e0' : s0 = true := by rw [e0]; exact decide_eq_true hm0
            have e1' : s1 = true := by rw [e1]; exact decide_eq_true hm0
            clear e0 e1
            subst e0' e1' hm0
            go_wp2
            go_ret
            exact ⟨rfl, hBw⟩
          · have e0' : s0 = false := by rw [e0]; exact decide_eq_false hm0
            have e1' : s1 = false := by rw [e1]; exact decide_eq_false hm0
            clear e0 e1
            subst e0' e1'
            have hm1 : ((m : Int) == 0) = false := by simpa using hm0
            go_wp2
            go_ret
            exact ⟨rfl, hBw⟩

end Go.Proofs.Qxb6619233a
