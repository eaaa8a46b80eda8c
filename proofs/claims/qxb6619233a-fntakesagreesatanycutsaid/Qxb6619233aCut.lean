import Derived.Test.Qxb6619233aTakes2
import Derived.Deep.DeepCutAuto
import Derived.BigQuiet
namespace Go.Proofs.Qxb6619233a
open Go.RowKit Plain

/-- Both lists lie where they lie. -/
def Two (w : World) (b0 : Option Addr) (n : Nat) (P : List Int) (b1 : Option Addr) (m : Nat) (A : List Int) : Prop := At w b0 n P ∧ At w b1 m A
theorem Two.drewN {w : World} {b0 : Option Addr} {n : Nat} {P : List Int} {b1 : Option Addr} {m : Nat} {A : List Int} (h : Two w b0 n P b1 m A) (q : Nat) : Two (w.drewN q) b0 n P b1 m A := ⟨h.1.drewN q, h.2.drewN q⟩
theorem quiet_sym {P : Program} {f : FuncId} {args : Array Value} {w : World} {n : Nat} {v : Value}
    (h : Calls P f args (w.drewN n) fun e w' => e = .returned v ∧ w.drewN n = w') : Calls P f args (w.drewN n) fun e w'' => e = .returned v ∧ ∃ m, w'' = w.drewN m :=
  h.mono fun _ _ ⟨he, hm⟩ => ⟨he, n, hm.symm⟩
theorem below_drewN' {B : Nat} {w w' : World} (h : Below B w w') (q : Nat) : Below B w (w'.drewN q) := ⟨h.os, h.tape, h.output, h.size, h.block⟩

set_option maxRecDepth 100000 in
set_option maxHeartbeats 2000000 in
theorem law6 (a0 : Option Addr) (n c0 : Nat) (P : List Int) (a1 : Option Addr) (m c1 : Nat) (A : List Int) (k : Nat) (wd : Bool) (w : World) (hn : P.length = n) (hm : A.length = m) (bn : n ≤ 65536) (bm : m ≤ 65536) (hc0 : n ≤ c0) (hc1 : m ≤ c1)
    (hP : At w a0 n P) (hA : At w a1 m A) (kn : k ≤ n) (km : k ≤ m) :
    Calls Try.prog 6 #[.slice a0 n c0, .slice a1 m c1, .int .i64 k, .bool wd] w fun e w' => e = .returned (.bool true) ∧ Below w.heap.size w w' := by
  have hne := fun w => @run_neq_slice_nil_any Try.prog w 27 30 a0 n c0 0 0 Try.underlying27
  have hne1 := fun w => @run_neq_slice_nil_any Try.prog w 27 30 a1 m c1 0 0 Try.underlying27
  have HN : Hid (P.length = n) := hn
  have HM : Hid (A.length = m) := hm
  clear hn hm
  obtain ⟨i0, hi, hz0, hz1, hz2⟩ := info_parts info30
  go_enter Try.func6, Try.ntmps6
  go_upto_if 44 with (first | (go_at_call 16; refine (bytes16_yes _ _ _ _ _ _ _ _ _ (by omega)).mono ?_; rintro e w' ⟨rfl, rfl⟩))
  go_cut [0] (fun s0 w1 => Reads w1 s0 n P ∧ Below w.heap.size w w1)
  case first =>
    clear hA hne hne1
    rcases a0 with _ | x
    · have h0 : ¬ 0 < n := fun h => by obtain ⟨b, o, h, _⟩ := hP h; cases h
      clear hP
      go_wp2
      go_meet
      case rel => exact ⟨⟨none, c0, rfl, hc0, fun h => absurd h h0⟩, Below.refl _ _⟩
    · go_wp2_with (at_make; refine wpList_make_full _ rfl _ _ 27 rfl w.heap.size 30 i0 (.int .u8 0) 1 Try.underlying27 hi hz0 hz1 _ _ _ _ n rfl rfl rfl rfl ?b2 ?b3 (Nat.le_refl _) ?_)
      case b2 => rw [hz2]; omega
      case b3 => unfold maxLen; omega
      intro w1 hown hgrow
      obtain ⟨w2, hcp, hR, hB⟩ := copy_made w w1 n c0 P x _ HN.out hown hgrow hP
      clear hown hgrow hP
      go_wp2
      go_meet
      case rel => exact ⟨hR, hB⟩
  case rest =>
    obtain ⟨⟨b0, d0, rfl, hd0, hR0⟩, hB1⟩ := hcut
    have hA1 := hA.below hB1
    clear hA hP hne
    go_upto_if 53 with fail
    go_cut [1] (fun s1 w2 => Reads w2 s1 m A ∧ Below wc.heap.size wc w2)
    case first =>
      clear hne1
      rcases a1 with _ | x
      · have h0 : ¬ 0 < m := fun h => by obtain ⟨b, o, h, _⟩ := hA1 h; cases h
        clear hA1
        go_wp2
        go_meet
        case rel => exact ⟨⟨none, c1, rfl, hc1, fun h => absurd h h0⟩, Below.refl _ _⟩
      · go_wp2_with (at_make; refine wpList_make_full _ rfl _ _ 27 rfl wc.heap.size 30 i0 (.int .u8 0) 1 Try.underlying27 hi hz0 hz1 _ _ _ _ m rfl rfl rfl rfl ?b2 ?b3 (Nat.le_refl _) ?_)
        case b2 => rw [hz2]; omega
        case b3 => unfold maxLen; omega
        intro w1 hown hgrow
        obtain ⟨w2, hcp, hR, hB⟩ := copy_made wc w1 m c1 A x _ HM.out hown hgrow hA1
        clear hown hgrow hA1
        go_wp2
        go_meet
        case rel => exact ⟨hR, hB⟩
    case rest =>
      obtain ⟨⟨b1, d1, rfl, hd1, hR1⟩, hB2⟩ := hcut
      have hBw : Below w.heap.size w wc := hB1.trans (hB2.mono hB1.size)
      have hR0' : At wc b0 n P := hR0.below hB2
      clear hR0 hA1 hne1 hB2 hB1
      obtain ⟨P1, HP1⟩ : ∃ P1, Hid (P1 = P.take k) := ⟨_, rfl⟩
      obtain ⟨P2, HP2⟩ : ∃ P2, Hid (P2 = P.drop k) := ⟨_, rfl⟩
      obtain ⟨A1, HA1⟩ : ∃ A1, Hid (A1 = A.take k) := ⟨_, rfl⟩
      obtain ⟨A2, HA2⟩ : ∃ A2, Hid (A2 = A.drop k) := ⟨_, rfl⟩
      have hl1 : P1.length = k := by rw [HP1.out, List.length_take, HN.out]; omega
      have hl2 : P2.length = n - k := by rw [HP2.out, List.length_drop, HN.out]
      have hl3 : A1.length = k := by rw [HA1.out, List.length_take, HM.out]; omega
      have hl4 : A2.length = m - k := by rw [HA2.out, List.length_drop, HM.out]
      obtain ⟨r1, H1⟩ : ∃ r, Hid (takesB P1 false A1 wd = r) := ⟨_, rfl⟩
      obtain ⟨r2, H2⟩ : ∃ r, Hid (takesB P2 false A2 wd = r) := ⟨_, rfl⟩
      obtain ⟨v2, H3⟩ : ∃ r, Hid (takesB P2 true A2 wd = r) := ⟨_, rfl⟩
      have HK : Two wc b0 n P b1 m A := ⟨hR0', hR1⟩
      have hk0 : k ≤ P.length := by rw [HN.out]; exact kn
      have hk1 : k ≤ A.length := by rw [HM.out]; exact km
      obtain ⟨q1, HQ1⟩ : ∃ q, Hid (q = (r1 && r2)) := ⟨_, rfl⟩
      obtain ⟨q2, HQ2⟩ : ∃ q, Hid (q = (r1 && v2)) := ⟨_, rfl⟩
      have Cw : ∀ wx, Two wx b0 n P b1 m A → Calls Try.prog 14 #[.slice b0 n d0, .bool false, .slice b1 m d1, .bool wd] wx fun e w' => e = .returned (.bool q1) ∧ wx = w' := fun wx h => by
        have := zz_any b0 n d0 P false b1 m d1 A wd wx HN.out HM.out (by omega) (by omega) h.1 h.2 (fun h => by cases h)
        rw [cut_iff P A k false wd hk0 hk1 (fun h => by cases h), ← HP1.out, ← HA1.out, ← HP2.out, ← HA2.out, H1.out, H2.out, ← HQ1.out] at this
        exact this.mono fun _ _ h => ⟨h.1, h.2.symm⟩
      have C1 : ∀ wx, Two wx b0 n P b1 m A → Calls Try.prog 14 #[.slice b0 k d0, .bool false, .slice b1 k d1, .bool wd] wx fun e w' => e = .returned (.bool r1) ∧ wx = w' := fun wx h => by
        have := zz_any b0 k d0 P1 false b1 k d1 A1 wd wx hl1 hl3 (by omega) (by omega) (by rw [HP1.out]; exact h.1.take k kn) (by rw [HA1.out]; exact h.2.take k km) (fun h => by cases h)
        rw [H1.out] at this
        exact this.mono fun _ _ h => ⟨h.1, h.2.symm⟩
      have C2 : ∀ wx x0 x1, Two wx b0 n P b1 m A → (¬ d0 = k → x0 = Option.map (fun x => x.add k) b0) → (¬ d1 = k → x1 = Option.map (fun x => x.add k) b1) → Calls Try.prog 14 #[.slice x0 (n - k) (d0 - k), .bool false, .slice x1 (m - k) (d1 - k), .bool wd] wx fun e w' => e = .returned (.bool r2) ∧ wx = w' := fun wx x0 x1 h e0 e1 => by
        have := zz_any x0 (n - k) (d0 - k) P2 false x1 (m - k) (d1 - k) A2 wd wx hl2 hl4 (by omega) (by omega)
          (by rw [HP2.out]; exact h.1.drop k _ kn hd0 rfl e0) (by rw [HA2.out]; exact h.2.drop k _ km hd1 rfl e1) (fun h => by cases h)
        rw [H2.out] at this
        exact this.mono fun _ _ h => ⟨h.1, h.2.symm⟩
      have C4 : ∀ wx, Two wx b0 n P b1 m A → Calls Try.prog 14 #[.slice b0 k d0, .bool false, .slice b0 k d0, .bool wd] wx fun e w' => e = .returned (.bool true) ∧ wx = w' := fun wx h => by
        have := zz_any b0 k d0 P1 false b0 k d0 P1 wd wx hl1 hl1 (by omega) (by omega) (by rw [HP1.out]; exact h.1.take k kn) (by rw [HP1.out]; exact h.1.take k kn) (fun h => by cases h)
        rw [own_true] at this
        exact this.mono fun _ _ h => ⟨h.1, h.2.symm⟩
      have C5 : ∀ wx x0, Two wx b0 n P b1 m A → (¬ d0 = k → x0 = Option.map (fun x => x.add k) b0) → Calls Try.prog 14 #[.slice x0 (n - k) (d0 - k), .bool false, .slice x0 (n - k) (d0 - k), .bool wd] wx fun e w' => e = .returned (.bool true) ∧ wx = w' := fun wx x0 h e0 => by
        have := zz_any x0 (n - k) (d0 - k) P2 false x0 (n - k) (d0 - k) P2 wd wx hl2 hl2 (by omega) (by omega)
          (by rw [HP2.out]; exact h.1.drop k _ kn hd0 rfl e0) (by rw [HP2.out]; exact h.1.drop k _ kn hd0 rfl e0) (fun h => by cases h)
        rw [own_true] at this
        exact this.mono fun _ _ h => ⟨h.1, h.2.symm⟩
      have C6 : ∀ wx v, Two wx b0 n P b1 m A → Calls Try.prog 14 #[.slice b0 n d0, .bool v, .slice b0 n d0, .bool wd] wx fun e w' => e = .returned (.bool true) ∧ wx = w' := fun wx v h => by
        have := zz_any b0 n d0 P v b0 n d0 P wd wx HN.out HN.out (by omega) (by omega) h.1 h.1 (fun _ h => h)
        rw [own_true] at this
        exact this.mono fun _ _ h => ⟨h.1, h.2.symm⟩
      have Cv : k < n → ∀ wx, Two wx b0 n P b1 m A → Calls Try.prog 14 #[.slice b0 n d0, .bool true, .slice b1 m d1, .bool wd] wx fun e w' => e = .returned (.bool q2) ∧ wx = w' := fun hkn wx h => by
        have := zz_any b0 n d0 P true b1 m d1 A wd wx HN.out HM.out (by omega) (by omega) h.1 h.2 (fun _ _ => by omega)
        rw [cut_iff P A k true wd hk0 hk1 (fun h => by rw [HN.out]; exact hkn), ← HP1.out, ← HA1.out, ← HP2.out, ← HA2.out, H1.out, H3.out, ← HQ2.out] at this
        exact this.mono fun _ _ h => ⟨h.1, h.2.symm⟩
      have C3 : k < n → ∀ wx x0 x1, Two wx b0 n P b1 m A → (¬ d0 = k → x0 = Option.map (fun x => x.add k) b0) → (¬ d1 = k → x1 = Option.map (fun x => x.add k) b1) → Calls Try.prog 14 #[.slice x0 (n - k) (d0 - k), .bool true, .slice x1 (m - k) (d1 - k), .bool wd] wx fun e w' => e = .returned (.bool v2) ∧ wx = w' := fun hkn wx x0 x1 h e0 e1 => by
        have := zz_any x0 (n - k) (d0 - k) P2 true x1 (m - k) (d1 - k) A2 wd wx hl2 hl4 (by omega) (by omega)
          (by rw [HP2.out]; exact h.1.drop k _ kn hd0 rfl e0) (by rw [HA2.out]; exact h.2.drop k _ km hd1 rfl e1) (fun _ _ => by omega)
        rw [H3.out] at this
        exact this.mono fun _ _ h => ⟨h.1, h.2.symm⟩
      have JCw := hid Cw; have JC1 := hid C1; have JC2 := hid C2; have JC3 := hid C3; have JC4 := hid C4; have JC5 := hid C5; have JC6 := hid C6; have JCv := hid Cv; have JK := hid HK
      clear Cw C1 C2 C3 C4 C5 C6 Cv HK hl1 hl2 hl3 hl4 hR1 hR0' hk0 hk1
      go_upto_region 16 with (go_at_call 14; refine (JCw.out _ JK.out).mono ?_; rintro e w' ⟨rfl, rfl⟩)
      go_cut [12] (fun s w3 => s = .bool q1 ∧ Two w3 b0 n P b1 m A ∧ Below w.heap.size w w3)
      case first =>
        rename_i J K' hJ hK'
        cases r1
        · go_quiet ((go_at_call_of 14 (Value.slice b0 k d0); exact quiet_sym (JC1.out _ (by exact JK.out.drewN _))))
          refine hK' _ _ ?_
          go_meet
          case rel => exact ⟨by rw [HQ1.out]; rfl, JK.out.drewN _, below_drewN' hBw _⟩
        · go_quiet (first | (go_at_call_of 14 (Value.slice b0 k d0); exact quiet_sym (JC1.out _ (by exact JK.out.drewN _))) | (go_at_call 14; exact quiet_sym (JC2.out _ _ _ (by exact JK.out.drewN _) (by intro h; first | rfl | rw [if_neg h]) (by intro h; first | rfl | rw [if_neg h]))))
          refine hK' _ _ ?_
          go_meet
          case rel => exact ⟨by rw [HQ1.out]; rfl, JK.out.drewN _, below_drewN' hBw _⟩
      case rest =>
        clear JK hBw
        obtain ⟨rfl, hK3, hBw⟩ := hcut
        have JK := hid hK3
        clear hK3
        by_cases hkn : k < n
        · go_upto_region 21 with (go_at_call 14; refine (JCv.out hkn _ JK.out).mono ?_; rintro e w' ⟨rfl, rfl⟩)
          go_cut [14] (fun s w3 => s = .bool q2 ∧ Two w3 b0 n P b1 m A ∧ Below w.heap.size w w3)
          case first =>
            rename_i J K' hJ hK'
            cases r1
            · go_quiet ((go_at_call_of 14 (Value.slice b0 k d0); exact quiet_sym (JC1.out _ (by exact JK.out.drewN _))))
              refine hK' _ _ ?_
              go_meet
              case rel => exact ⟨by rw [HQ2.out]; rfl, JK.out.drewN _, below_drewN' hBw _⟩
            · go_quiet (first | (go_at_call_of 14 (Value.slice b0 k d0); exact quiet_sym (JC1.out _ (by exact JK.out.drewN _))) | (go_at_call 14; exact quiet_sym (JC3.out hkn _ _ _ (by exact JK.out.drewN _) (by intro h; first | rfl | rw [if_neg h]) (by intro h; first | rfl | rw [if_neg h]))))
              refine hK' _ _ ?_
              go_meet
              case rel => exact ⟨by rw [HQ2.out]; rfl, JK.out.drewN _, below_drewN' hBw _⟩
          case rest =>
            clear JK hBw
            obtain ⟨rfl, hK3, hBw⟩ := hcut
            have JK := hid hK3
            clear hK3
            go_upto_region 24 with fail
            go_quiet (first | (go_at_call_of 14 (Value.slice b0 k d0); exact quiet_sym (JC4.out _ (by exact JK.out.drewN _))) | (go_at_call_of 14 (Value.slice b0 n d0); exact quiet_sym (JC6.out _ _ (by exact JK.out.drewN _))) | (go_at_call 14; exact quiet_sym (JC5.out _ _ (by exact JK.out.drewN _) (by intro h; first | rfl | rw [if_neg h]))))
            go_wp2
            all_goals
              go_ret
              exact ⟨rfl, below_drewN' hBw _⟩
        · go_upto_region 24 with fail
          go_quiet (first | (go_at_call_of 14 (Value.slice b0 k d0); exact quiet_sym (JC4.out _ (by exact JK.out.drewN _))) | (go_at_call_of 14 (Value.slice b0 n d0); exact quiet_sym (JC6.out _ _ (by exact JK.out.drewN _))) | (go_at_call 14; exact quiet_sym (JC5.out _ _ (by exact JK.out.drewN _) (by intro h; first | rfl | rw [if_neg h]))))
          go_wp2
          all_goals
            go_ret
            exact ⟨rfl, below_drewN' hBw _⟩

end Go.Proofs.Qxb6619233a
