/-
  'FnKeyTextByteInsertedAnywhere': THE WALK, for texts that are not too long.
-/
import Derived.Test.Qxb6617183aKeyWalks
import Derived.Laws.IdiomStrings
import Derived.Deep.DeepCutAuto
import Derived.Deep.RegionWith
namespace Go.Proofs.Qxb6617183a.Key
open Go.RowKit

theorem info5 : (Try.prog.info? 5).map (fun i => (i.zero, i.size, i.bytes)) = some (some (.int .u8 0), 1, 1) := by kernel_rfl

/-- The buffer at block g holds the bytes l, with room for N. -/
def Own (w wr : World) (N : Nat) (l : List UInt8) : Prop :=
  wr.ownsRow w.heap.size 5 1 (.slice (some ⟨w.heap.size, 0, none⟩) l.length N) l.length (l.map fun x => Value.int .u8 (x.toNat : Int)) ∧ Below w.heap.size w wr

theorem Own.push {w wr w2 : World} {N : Nat} {l : List UInt8} {x : UInt8} (h : Own w wr N l) (o : Obj) {n : Nat} (hn : n = l.length)
    (hown : w2.ownsRow w.heap.size 5 1 (.slice (some ⟨w.heap.size, 0, none⟩) (n + 1) N) (n + 1) ((l.map fun x => Value.int .u8 (x.toNat : Int)) ++ [.int .u8 (x.toNat : Int)])) (hg : (wr.alloc o).grownBy w2 (some w.heap.size)) : Own w w2 N (l ++ [x]) := by
  subst hn
  refine ⟨?_, (h.2.alloc (by have := h.2.size; omega) o).grown hg (by have := h.2.size; simp; omega) (fun k hk => by cases hk; exact Nat.le_refl _)⟩
  have e : (l ++ [x]).length = l.length + 1 := by simp
  rw [e, List.map_append]
  exact hown

theorem Own.cells {w wr : World} {N : Nat} {l : List UInt8} (h : Own w wr N l) (j : Nat) (hj : j < l.length) : wr.cell? ((⟨w.heap.size, 0, none⟩ : Addr).add j) = some (.int .u8 (l[j].toNat : Int)) := by
  refine h.1.cells (g := w.heap.size) rfl j _ ?_
  simp [hj]

set_option maxRecDepth 100000 in
set_option maxHeartbeats 2000000 in
theorem law5 (s t : ByteArray) (u : UInt8) (w : World) (hst : s.size + t.size ≤ 1048576) :
    Calls Try.prog 5 #[.string s, .string t, .int .u8 (u.toNat : Int)] w fun e w' => e = .returned (.bool true) ∧ Below w.heap.size w w' := by
  obtain ⟨i0, hi, hz0, hz1, hz2⟩ := info_parts info5
  obtain ⟨S, HS⟩ : ∃ R, Hid (R = s.data.toList) := ⟨_, rfl⟩
  obtain ⟨T, HT⟩ : ∃ R, Hid (R = t.data.toList) := ⟨_, rfl⟩
  obtain ⟨c, Hc⟩ : ∃ c : Int, Hid (c = (u.toNat : Int)) := ⟨_, rfl⟩
  rw [← Hc.out]
  obtain ⟨N, HN⟩ : ∃ N, Hid (N = s.size + 1 + t.size) := ⟨_, rfl⟩
  have hN1 : s.size + 1 + t.size ≤ N := by have := HN.out; omega
  have hN2 : N ≤ s.size + 1 + t.size := by have := HN.out; omega
  go_enter Try.func5, Try.ntmps5
  go_wp2_with (first
    | (go_at_call 12; refine (bytes12_yes _ _ _ _ hst).mono ?_; rintro e w' ⟨rfl, rfl⟩)
    | (at_make; refine wpList_make_own _ rfl _ _ 31 rfl w.heap.size 5 i0 (.int .u8 0) 1 Try.underlying31 hi hz0 hz1 _ _ _ N rfl rfl (by omega) ?b2 ?b3 (Nat.le_refl _) ?_))
  case b2 => rw [hz2]; omega
  case b3 => unfold maxLen; omega
  intro w1 hown hgrow
  have HO : Hid (Own w w1 N []) := ⟨hown, (Below.refl _ _).grown hgrow (Nat.le_refl _) (fun k h => by cases h)⟩
  clear hown hgrow
  go_wp2
  go_loopw [7, 8] (fun v i wr => ∃ k : Nat, k ≤ s.size ∧ i = .int .i64 k ∧ v = .slice (some ⟨w.heap.size, 0, none⟩) k N ∧ Own w wr N (S.take k)) (fun _ i _ => s.size - (intOf i).toNat)
  case atStart => exact ⟨0, Nat.zero_le _, rfl, rfl, HO.out⟩
  case round =>
    obtain ⟨k, hk, rfl, rfl, hO⟩ := hrel
    have JO := hid hO
    clear hO HO
    have hSl : (S.take k).length = k := by rw [List.length_take, HS.out, len_size]; omega
    have HSl := hid hSl
    clear hSl
    by_cases hlt : k < s.size
    · obtain ⟨x, hx⟩ : ∃ x : Int, (s[k].toNat : Int) = x := ⟨_, rfl⟩
      obtain ⟨X, HX⟩ : ∃ X, Hid (X = (S.take k).map fun x => Value.int .u8 (x.toNat : Int)) := ⟨_, rfl⟩
      have hown : wr.ownsRow w.heap.size 5 1 (.slice (some ⟨w.heap.size, 0, none⟩) k N) k X := by rw [HX.out]; have := JO.out.1; rw [HSl.out] at this; exact this
      have Jw := hid hown
      clear hown
      go_wp2_with (at_builtin; refine wpList_append_fits _ rfl (.tmp 48) (.tmp 52) 31 rfl w.heap.size 5 i0 1 Try.underlying31 hi hz1 w.heap.size k N _ rfl (Jw.out.alloc _) ⟨wr.heap.size, 0, none⟩ 1 1 [.int .u8 x] rfl rfl ?c1 ?c2 ?c3 ?_)
      case c1 => intro j v hj; match j, hj with
                               | 0, hj => simp at hj; subst hj; simp [Addr.add]
      case c2 => intro v hv; simp at hv; subst hv; rfl
      case c3 => omega
      intro w2 hown2 hgrow2
      have R : Hid (Own w w2 N (S.take (k + 1))) := by
        have e : S.take (k + 1) = S.take k ++ [s[k]] := by rw [HS.out]; exact take_snoc s k hlt
        rw [e]
        rw [← hx, HX.out] at hown2
        exact JO.out.push _ HSl.out.symm hown2 hgrow2
      clear hown2 hgrow2 Jw JO
      go_wp2
      go_roundw
      case rel => exact ⟨k + 1, by omega, by go_num, rfl, R.out⟩
      case measure => simp [intOf]; omega
    · obtain rfl : k = s.size := by omega
      have JO1 : Hid (Own w wr N S) := by
        have h := JO.out
        rw [List.take_of_length_le (by rw [HS.out, len_size]; exact Nat.le_refl _)] at h
        exact h
      have HSl' : Hid (S.length = s.size) := by
        have h : S.length = s.size := by rw [HS.out]; rfl
        exact h
      obtain ⟨X, HX⟩ : ∃ X, Hid (X = S.map fun x => Value.int .u8 (x.toNat : Int)) := ⟨_, rfl⟩
      have hown : wr.ownsRow w.heap.size 5 1 (.slice (some ⟨w.heap.size, 0, none⟩) s.size N) s.size X := by rw [HX.out]; have := JO1.out.1; rw [HSl'.out] at this; exact this
      have Jw := hid hown
      clear hown JO
      go_wp2_with (at_builtin; refine wpList_append_fits _ rfl (.tmp 54) (.tmp 56) 31 rfl w.heap.size 5 i0 1 Try.underlying31 hi hz1 w.heap.size s.size N _ rfl (Jw.out.alloc _) ⟨wr.heap.size, 0, none⟩ 1 1 [.int .u8 c] rfl rfl ?d1 ?d2 ?d3 ?_)
      case d1 => intro j v hj; match j, hj with
                               | 0, hj => simp at hj; subst hj; simp [Addr.add]
      case d2 => intro v hv; simp at hv; subst hv; rfl
      case d3 => omega
      intro w2 hown2 hgrow2
      have JO2 : Hid (Own w w2 N (S ++ [u])) := by
        rw [Hc.out, HX.out] at hown2
        exact JO1.out.push _ HSl'.out.symm hown2 hgrow2
      clear hown2 hgrow2 Jw JO1 HX
      go_wp2
      go_loopw [7, 9] (fun v i wr => ∃ k : Nat, k ≤ t.size ∧ i = .int .i64 k ∧ v = .slice (some ⟨w.heap.size, 0, none⟩) (s.size + 1 + k) N ∧ Own w wr N (S ++ [u] ++ T.take k)) (fun _ i _ => t.size - (intOf i).toNat)
      case atStart => exact ⟨0, Nat.zero_le _, rfl, rfl, by simpa using JO2.out⟩
      case round =>
        obtain ⟨k, hk, rfl, rfl, hO⟩ := hrel
        have JO := hid hO
        clear hO JO2
        have hTl : (S ++ [u] ++ T.take k).length = s.size + 1 + k := by rw [List.length_append, List.length_append, HSl'.out, List.length_take, HT.out, len_size]; simp; omega
        have HTl := hid hTl
        clear hTl
        by_cases hlt2 : k < t.size
        · obtain ⟨x, hx⟩ : ∃ x : Int, (t[k].toNat : Int) = x := ⟨_, rfl⟩
          obtain ⟨X, HX⟩ : ∃ X, Hid (X = (S ++ [u] ++ T.take k).map fun x => Value.int .u8 (x.toNat : Int)) := ⟨_, rfl⟩
          have hown : wr.ownsRow w.heap.size 5 1 (.slice (some ⟨w.heap.size, 0, none⟩) (s.size + 1 + k) N) (s.size + 1 + k) X := by rw [HX.out]; have := JO.out.1; rw [HTl.out] at this; exact this
          have Jw := hid hown
          clear hown
          go_wp2_with (at_builtin; refine wpList_append_fits _ rfl (.tmp 64) (.tmp 68) 31 rfl w.heap.size 5 i0 1 Try.underlying31 hi hz1 w.heap.size (s.size + 1 + k) N _ rfl (Jw.out.alloc _) ⟨wr.heap.size, 0, none⟩ 1 1 [.int .u8 x] rfl rfl ?e1 ?e2 ?e3 ?_)
          case e1 => intro j v hj; match j, hj with
                                   | 0, hj => simp at hj; subst hj; simp [Addr.add]
          case e2 => intro v hv; simp at hv; subst hv; rfl
          case e3 => omega
          intro w2 hown2 hgrow2
          have R : Hid (Own w w2 N (S ++ [u] ++ T.take (k + 1))) := by
            have e : T.take (k + 1) = T.take k ++ [t[k]] := by rw [HT.out]; exact take_snoc t k hlt2
            rw [e, ← List.append_assoc]
            rw [← hx, HX.out] at hown2
            exact JO.out.push _ HTl.out.symm hown2 hgrow2
          clear hown2 hgrow2 Jw JO
          go_wp2
          go_roundw
          case rel => exact ⟨k + 1, by omega, by go_num, rfl, R.out⟩
          case measure => simp [intOf]; omega
        · obtain rfl : k = t.size := by omega
          have hTt : T.take t.size = T := List.take_of_length_le (by rw [HT.out, len_size]; exact Nat.le_refl _)
          have JO3 : Hid (Own w wr N (S ++ [u] ++ T)) := by
            have h := JO.out
            rw [hTt] at h
            exact h
          have HJl : Hid ((S ++ [u] ++ T).length = s.size + 1 + t.size) := by
            have h := HTl.out
            rw [hTt] at h
            exact h
          clear JO HTl hTt
          obtain ⟨J, HJ⟩ : ∃ J : ByteArray, Hid (J = ⟨(S ++ [u] ++ T).toArray⟩) := ⟨_, rfl⟩
          obtain ⟨O, HO1⟩ : ∃ O : ByteArray, Hid (O = ⟨#[u]⟩) := ⟨_, rfl⟩
          have hcv : (convert 31 9 (.slice (some ⟨w.heap.size, 0, none⟩) (s.size + 1 + t.size) N)).run Try.prog wr = .ok (.string J) wr := by
            have h := run_convert_bytes_back (P := Try.prog) wr 31 9 5 ⟨w.heap.size, 0, none⟩ N (S ++ [u] ++ T) Try.underlying31 Try.underlying5 Try.underlying9 (fun j hj => JO3.out.cells j hj)
            rw [HJl.out] at h
            rw [HJ.out]; exact h
          have hcv1 : (convert 31 9 (.slice (some ⟨wr.heap.size, 0, none⟩) 1 1)).run Try.prog (wr.alloc (.cells #[.int .u8 c] 5)) = .ok (.string O) (wr.alloc (.cells #[.int .u8 c] 5)) := by
            have h := run_convert_bytes_back (P := Try.prog) (wr.alloc (.cells #[.int .u8 c] 5)) 31 9 5 ⟨wr.heap.size, 0, none⟩ 1 [u] Try.underlying31 Try.underlying5 Try.underlying9 (fun j hj => by
              match j, hj with
              | 0, _ => rw [Addr.add_lit, World.cell?_alloc_mark, Hc.out]; rfl)
            rw [HO1.out]; exact h
          have JB : Hid (Below w.heap.size w (wr.alloc (.cells #[.int .u8 c] 5))) := JO3.out.2.alloc JO3.out.2.size _
          obtain ⟨ks, HKS⟩ : ∃ q, Hid (q = key S) := ⟨_, rfl⟩
          obtain ⟨kt, HKT⟩ : ∃ q, Hid (q = key T) := ⟨_, rfl⟩
          obtain ⟨kb, HKB⟩ : ∃ q, Hid (q = kc c) := ⟨_, rfl⟩
          have C1 : ∀ wx, Calls Try.prog 14 #[.string J] wx fun e w' => e = .returned (.bool (ks && kt && kb)) ∧ wx = w' := fun wx => by
            have h := zzkey_any J wx (by have : J.size = (S ++ [u] ++ T).length := by rw [HJ.out]; rfl
                                         rw [this, HJl.out]; omega)
            have e : key J.data.toList = (ks && kt && kb) := by rw [HJ.out, HKS.out, HKT.out, HKB.out, Hc.out]; exact key_insert S T u
            rw [e] at h; exact h
          have C2 : ∀ wx, Calls Try.prog 14 #[.string s] wx fun e w' => e = .returned (.bool ks) ∧ wx = w' := fun wx => by
            have h := zzkey_any s wx (by omega)
            rw [← HS.out, ← HKS.out] at h; exact h
          have C3 : ∀ wx, Calls Try.prog 14 #[.string t] wx fun e w' => e = .returned (.bool kt) ∧ wx = w' := fun wx => by
            have h := zzkey_any t wx (by omega)
            rw [← HT.out, ← HKT.out] at h; exact h
          have C4 : ∀ wx, Calls Try.prog 14 #[.string O] wx fun e w' => e = .returned (.bool kb) ∧ wx = w' := fun wx => by
            have h := zzkey_any O wx (by rw [HO1.out]; show 1 ≤ 4000000; omega)
            have e : key O.data.toList = kb := by rw [HO1.out, HKB.out, Hc.out]; exact key_one u
            rw [e] at h; exact h
          have C5 : ∀ wx, Calls Try.prog 13 #[.int .u8 c] wx fun e w' => e = .returned (.bool kb) ∧ wx = w' := fun wx => by
            have h := b64_any u wx
            rw [← Hc.out, ← HKB.out] at h; exact h
          have J1 := hid C1; have J2 := hid C2; have J3 := hid C3; have J4 := hid C4; have J5 := hid C5
          clear C1 C2 C3 C4 C5 JO3 HJl
          go_upto_region 18 with (go_at_call 13; refine (J5.out _).mono ?_; rintro e w' ⟨rfl, rfl⟩)
          clear hcv hcv1
          go_cut [13] (fun q w3 => q = .bool true ∧ (wr.alloc (.cells #[.int .u8 c] 5)) = w3)
          case first => as_aux_lemma =>
            cases ks <;> cases kt <;> cases kb
            all_goals
              go_wp2_with (first
                | (go_at_call_of 14 (Value.string J); refine (J1.out _).mono ?_; rintro e w' ⟨rfl, rfl⟩)
                | (go_at_call_of 14 (Value.string s); refine (J2.out _).mono ?_; rintro e w' ⟨rfl, rfl⟩)
                | (go_at_call_of 14 (Value.string t); refine (J3.out _).mono ?_; rintro e w' ⟨rfl, rfl⟩))
              go_meet
              case rel => exact ⟨rfl, rfl⟩
          case rest =>
            obtain ⟨rfl, rfl⟩ := hcut
            go_wp2_with (go_at_call 14; refine (J4.out _).mono ?_; rintro e w' ⟨rfl, rfl⟩)
            go_ret
            exact ⟨ret_bool (by simp), JB.out⟩

end Go.Proofs.Qxb6617183a.Key
