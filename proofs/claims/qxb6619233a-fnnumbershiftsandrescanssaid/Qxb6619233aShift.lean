/-
  'FnNumberShiftsAndRescans': THE WALK, for texts that are not too long and an offset inside.
-/
import Derived.Test.Qxb6619233aNumber2
namespace Go.Proofs.Qxb6619233a.Num
open Go.RowKit

theorem ext_list (s : ByteArray) (a b : Nat) : (s.extract a b).data.toList = (s.data.toList.drop a).take (b - a) := by
  simp [ByteArray.data_extract, Array.toList_extract]
theorem ba_ext (s t : ByteArray) (h : s.data.toList = t.data.toList) : s = t := by
  cases s; cases t; simp at h; simp [h]
theorem len_size (s : ByteArray) : s.data.toList.length = s.size := rfl

/-- The text's tail, from its head on: the same token. -/
theorem tail_num (s : ByteArray) (o k n : Nat) (h : numL (s.data.toList.drop o) = (k, n)) : numL ((s.extract o s.size).data.toList.drop 0) = (k, n) ∧ txt k (s.extract o s.size) 0 n = txt k s o n := by
  have hl : (s.extract o s.size).data.toList = s.data.toList.drop o := by
    rw [ext_list, List.take_of_length_le]; rw [List.length_drop, len_size]; exact Nat.le_refl _
  refine ⟨by rw [List.drop_zero, hl, h], ?_⟩
  unfold txt
  split
  · rfl
  · refine ba_ext _ _ ?_
    rw [ext_list, hl, ext_list]
    simp
/-- A valid token's text, alone. -/
theorem alone_num (s : ByteArray) (o k n : Nat) (h : numL (s.data.toList.drop o) = (k, n)) (hk : ¬ k = 1) : numL ((s.extract o (o + n)).data.toList.drop 0) = (k, n) ∧ txt k (s.extract o (o + n)) 0 n = s.extract o (o + n) := by
  have hl : (s.extract o (o + n)).data.toList = (s.data.toList.drop o).take n := by
    rw [ext_list]; congr 1; omega
  have ht := num_take (s.data.toList.drop o)
  rw [h] at ht
  refine ⟨by rw [List.drop_zero, hl]; exact ht, ?_⟩
  unfold txt
  rw [if_neg hk]
  refine ba_ext _ _ ?_
  rw [ext_list, hl]
  simp [List.take_take]

theorem ext_size (s : ByteArray) (o n : Nat) (h : o + n ≤ s.size) : (s.extract o (o + n)).size = n := by simp; omega
theorem ext_head (s : ByteArray) (o n : Nat) (h : o < s.size) (h0 : 0 < (s.extract o (o + n)).size) : (s.extract o (o + n))[0] = s[o] := by
  rw [ByteArray.getElem_extract]; simp

theorem sub_wrap (c : Int) (n : Nat) (hn : n ≤ 1048576) : wrap64 (wrap64 (c + (n : Nat)) - c) = (n : Int) := by unfold wrap64; omega

/-- 'ZZNumber' at the text's head, said for every world. -/
theorem head_num (t : ByteArray) (c : Int) (hc : c = wrap64 c) (bs : t.size ≤ 1048576) (k n : Nat) (h : numL (t.data.toList.drop 0) = (k, n)) (wx : World) :
    Calls Try.prog 9 #[.string t, .int .i64 0, .int .i64 c] wx fun e w' => e = .returned (.tuple #[.int .u8 k, .string (txt k t 0 n), .int .i64 (tcol k c n), .int .i64 (n : Int), .int .i64 (wrap64 (c + (n : Nat)))]) ∧ Below wx.heap.size wx w' := by
  refine (zznumber_any wx t 0 c hc bs (Nat.zero_le _)).mono ?_
  rintro e w' ⟨k', n', h', rfl, hB⟩
  rw [h] at h'
  simp only [Prod.mk.injEq] at h'
  obtain ⟨rfl, rfl⟩ := h'
  rw [Nat.zero_add]
  exact ⟨rfl, hB⟩

set_option maxRecDepth 100000 in
set_option maxHeartbeats 1000000 in
theorem law4 (s : ByteArray) (o : Nat) (c : Int) (w : World) (hc : c = wrap64 c) (bs : s.size ≤ 1048576) (bo : o ≤ s.size) :
    Calls Try.prog 4 #[.string s, .int .i64 o, .int .i64 c] w fun e w' => e = .returned (.bool true) ∧ Below w.heap.size w w' := by
  have JC := hid hc
  clear hc
  obtain ⟨k, n, hkn⟩ : ∃ k n, numL (s.data.toList.drop o) = (k, n) := ⟨_, _, rfl⟩
  have hle := num_le (s.data.toList.drop o)
  have hk := num_kind (s.data.toList.drop o)
  have hdig := num_digit (s.data.toList.drop o)
  rw [hkn] at hle hk hdig
  simp only [List.length_drop, len_size] at hle hk hdig
  have hn : n ≤ s.size - o := hle
  have bn : n ≤ 1048576 := by omega
  obtain ⟨tx, HT⟩ : ∃ t, Hid (t = txt k s o n) := ⟨_, rfl⟩
  obtain ⟨tc, HTC⟩ : ∃ t, Hid (t = tcol k c n) := ⟨_, rfl⟩
  have hsub := sub_wrap c n bn
  have C1 : Calls Try.prog 9 #[.string s, .int .i64 o, .int .i64 c] w fun e w' => e = .returned (.tuple #[.int .u8 k, .string tx, .int .i64 tc, .int .i64 ((o : Int) + (n : Int)), .int .i64 (wrap64 (c + (n : Nat)))]) ∧ Below w.heap.size w w' := by
    refine (zznumber_any w s o c JC.out bs bo).mono ?_
    rintro e w' ⟨k', n', h', rfl, hB⟩
    rw [hkn] at h'
    simp only [Prod.mk.injEq] at h'
    obtain ⟨rfl, rfl⟩ := h'
    rw [HT.out, HTC.out, ← Int.natCast_add]
    exact ⟨rfl, hB⟩
  have C2 : ∀ wx, Calls Try.prog 9 #[.string (s.extract o s.size), .int .i64 0, .int .i64 c] wx fun e w' => e = .returned (.tuple #[.int .u8 k, .string tx, .int .i64 tc, .int .i64 (n : Int), .int .i64 (wrap64 (c + (n : Nat)))]) ∧ Below wx.heap.size wx w' := fun wx => by
    have h2 := tail_num s o k n hkn
    have := head_num (s.extract o s.size) c JC.out (by simp; omega) k n h2.1 wx
    rw [h2.2, ← HT.out, ← HTC.out] at this
    exact this
  have J1 := hid C1; have J2 := hid C2; have Jd := hid hdig; have Jn := hid hkn
  have Jsub := hid hsub
  clear C1 C2 hdig hle hkn hsub
  have Jk := hid hk
  clear hk
  go_enter Try.func4, Try.ntmps4
  go_wp2_with (go_at_call 11; refine (bytes11_yes _ _ _ _ bs).mono ?_; rintro e w' ⟨rfl, rfl⟩)
  refine J1.out.mono ?_
  rintro e w1 ⟨rfl, hB1⟩
  have JB1 := hid hB1
  clear hB1 J1
  go_wp2_with fail
  refine (J2.out _).mono ?_
  rintro e w2 ⟨rfl, hB2⟩
  have JB2 : Hid (Below w.heap.size w w2) := JB1.out.trans (hB2.mono JB1.out.size)
  clear hB2 J2 JB1
  go_upto_region 9 with fail
  go_cut [83] (fun q w3 => q = .bool false ∧ w2 = w3)
  case first => as_aux_lemma =>
    go_wp2
    go_meet
    case rel => exact ⟨rfl, rfl⟩
  case rest =>
    obtain ⟨rfl, rfl⟩ := hcut
    go_upto_region 11 with fail
    go_cut [90] (fun q w3 => q = .bool false ∧ w2 = w3)
    case first => as_aux_lemma =>
      have hsub := Jsub.out
      have he : ((n : Int) != (o : Int) + (n : Int) - (o : Int)) = false := by
        have h : (o : Int) + (n : Int) - (o : Int) = n := by omega
        rw [h]; simp
      have HE := hid he
      clear he
      go_wp2
      go_meet
      case rel => exact ⟨congrArg Value.bool HE.out, rfl⟩
    case rest =>
      obtain ⟨rfl, rfl⟩ := hcut
      go_upto_region 13 with fail
      obtain ⟨bd, HBD⟩ : ∃ q, Hid (q = dg (hd (s.data.toList.drop o))) := ⟨_, rfl⟩
      go_cut [100] (fun q w3 => q = .bool bd ∧ w2 = w3)
      case first => as_aux_lemma =>
        by_cases hlt : o < s.size
        · have C : ∀ wx, Calls Try.prog 12 #[.int .u8 (s[o].toNat : Int)] wx fun e w' => e = .returned (.bool bd) ∧ wx = w' := fun wx => by
            have := digitByte_any (s[o].toNat : Int) wx
            rw [hd_at s o hlt, ← HBD.out] at this
            rw [hd_at s o hlt]; exact this
          have JD := hid C
          clear C
          go_wp2_with (go_at_call 12; refine (JD.out _).mono ?_; rintro e w' ⟨rfl, rfl⟩)
          go_meet
          case rel => exact ⟨rfl, rfl⟩
        · obtain rfl : bd = false := by rw [HBD.out, hd_out s o hlt]; rfl
          go_wp2
          go_meet
          case rel => exact ⟨rfl, rfl⟩
      case rest =>
        obtain ⟨rfl, rfl⟩ := hcut
        go_upto_if 100 with fail
        go_cut [] (fun w3 => Below w.heap.size w w3)
        case first => as_aux_lemma =>
          cases bd
          · go_wp2
            go_meet
            case rel => exact JB2.out
          · have hdd := Jd.out HBD.out.symm
            have hlt : o < s.size := by
              by_cases h : o < s.size
              · exact h
              · have := HBD.out; rw [hd_out s o h] at this; cases this
            rcases Jk.out with rfl | rfl | rfl
            · have h2 : 2 ≤ n := hdd.2 rfl
              obtain rfl : tc = wrap64 (c + ((o : Int) + (n : Int) - (o : Int))) := by
                rw [HTC.out, show (o : Int) + (n : Int) - (o : Int) = n by omega]; rfl
              clear hdd HT HTC
              go_wp2
              go_meet
              case rel => exact JB2.out
            all_goals
              have etx : tx = s.extract o (o + n) := by rw [HT.out]; rfl
              have hts : tx.size = n := by rw [etx]; exact ext_size s o n (by omega)
              have hn0 : 0 < n := hdd.1
              have ht0 : 0 < tx.size := by rw [hts]; exact hn0
              have h0 : tx[0] = s[o] := by subst etx; exact ext_head s o n hlt ht0
              have H0 : Hid (((tx[0].toNat : Int) != (s[o].toNat : Int)) = false) := by
                have h : ((tx[0].toNat : Int) != (s[o].toNat : Int)) = false := by rw [h0]; simp
                exact h
              have hz : ((tx.size : Int) == 0) = false := by
                have h : ¬ (tx.size : Int) = 0 := by omega
                simpa using h
              clear hdd HT HTC etx h0 hts
              go_wp2
              go_quiet (fail)
              have h00 := H0.out
              go_wp2
              go_meet
              case rel => exact ⟨JB2.out.os, JB2.out.tape, JB2.out.output, JB2.out.size, JB2.out.block⟩
        case rest =>
          have JB3 := hid hcut
          clear hcut JB2 HBD Jd
          rcases Jk.out with rfl | rfl | rfl
          · clear HT HTC
            go_wp2
            go_ret
            exact ⟨rfl, JB3.out⟩
          all_goals
            have h3 := alone_num s o _ n Jn.out (by decide)
            have etx : tx = s.extract o (o + n) := by rw [HT.out]; rfl
            have C3 := fun wx => head_num (s.extract o (o + n)) c JC.out (by simp; omega) _ n h3.1 wx
            have ec : ∀ k, ¬ k = 1 → tcol k c n = c := fun k hk => by unfold tcol; rw [if_neg hk]; exact JC.out.symm
            rw [h3.2, ← etx, ec _ (by decide)] at C3
            have hts : tx.size = n := by rw [etx]; exact ext_size s o n (by omega)
            obtain rfl : tc = c := by rw [HTC.out]; exact JC.out.symm
            have J3 := hid C3
            have htx : s.extract o (o + n) = tx := etx.symm
            clear HT HTC C3 h3 etx Jn JC ec
            go_wp2_with (go_at_call 9; refine (J3.out _).mono ?_; rintro e w4 ⟨rfl, hB4⟩; have JB4 := hid hB4; clear hB4)
            go_ret
            exact ⟨rfl, JB3.out.trans (JB4.out.mono JB3.out.size)⟩

end Go.Proofs.Qxb6619233a.Num
