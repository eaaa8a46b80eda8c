/-
  THE GUARDS: the two bounds on the total length, and 'zzArenaFits', each as a contract.
-/
import Derived.Test.Qxb6617183aArClone
namespace Go.Proofs.Qxb6617183a.Ar
open Go.RowKit

theorem Mat.at {w : World} {a : Option Addr} {R : List Arg} (h : Mat w a R) {k : Nat} (hk : k < R.length) :
    ∃ b o ra rn rc, a = some ⟨b, o, none⟩ ∧ w.cell? ⟨b, o + k, none⟩ = some (.slice ra rn rc) ∧ Hid (rn = (R.getD k noArg).bytes.length ∧ rc = (R.getD k noArg).cap) ∧ rn ≤ rc ∧ rc ≤ maxLen := by
  obtain ⟨b, o, ha, hc⟩ := h.1 (by omega)
  have hm := (h.mem hk).1
  exact ⟨b, o, _, _, _, ha, hc k hk, ⟨rfl, rfl⟩, hm.1, hm.2.1⟩

/-- It says yes or no, and nothing has turned. -/
def Says (w : World) (P : Prop) (e : Ending) (w' : World) : Prop := ∃ bb, e = .returned (.bool bb) ∧ (bb = true → P) ∧ w = w'

def caps (R : List Arg) : Nat := (R.map (·.cap)).sum
theorem caps_snoc (R : List Arg) (k : Nat) (hk : k < R.length) : caps (R.take (k + 1)) = caps (R.take k) + (R.getD k noArg).cap := by
  unfold caps
  rw [List.take_succ_eq_append_getElem hk, List.map_append, List.sum_append]
  simp [List.getD, hk]
theorem caps_all (R : List Arg) (k : Nat) (hk : ¬ k < R.length) : caps (R.take k) = caps R := by rw [List.take_of_length_le (by omega)]

set_option maxRecDepth 100000 in
set_option maxHeartbeats 1000000 in
theorem bytes11 (a b : Option Addr) (n m ca cb : Nat) (f h l : Int) (R0 R1 : List Arg) (w : World) (hn : R0.length = n) (hm : R1.length = m) (bn : n ≤ maxLen) (bm : m ≤ maxLen) (h0 : Mat w a R0) (h1 : Mat w b R1) :
    Calls Try.prog 11 #[.slice a n ca, .int .i64 f, .int .i64 h, .int .i64 l, .slice b m cb] w fun e w' => Says w True e w' := by
  have H0 := hid h0; have H1 := hid h1
  have HN := hid hn; have HM := hid hm
  clear h0 h1 hn hm
  unfold maxLen at bn bm
  go_enter Try.func11, Try.ntmps11
  by_cases c1 : (1048576 : Int) < n
  case pos => go_wp2; go_ret; exact ⟨_, rfl, fun _ => trivial, rfl⟩
  go_wp2
  go_loop [11, 12] (fun z i => ∃ k q : Nat, k ≤ n ∧ i = .int .i64 k ∧ z = .int .i64 q ∧ q ≤ 1048576) (fun _ i => n - (intOf i).toNat)
  case atStart => exact ⟨0, n, Nat.zero_le _, rfl, by first | rfl | (congr 1; omega), by omega⟩
  case round =>
    obtain ⟨k, q, hk, rfl, rfl, hq⟩ := hrel
    by_cases hlt : k < n
    · obtain ⟨bl, o, ra, rn, rc, rfl, hc, Hrn, hle, hmx⟩ := H0.out.at (k := k) (by rw [HN.out]; exact hlt)
      unfold maxLen at hmx
      by_cases c2 : (1048576 : Int) < rn
      case pos => go_wp2; go_ret; exact ⟨_, rfl, fun _ => trivial, rfl⟩
      by_cases c3 : (1048576 : Int) < (q : Int) + (rn : Int)
      case pos => go_wp2; go_ret; exact ⟨_, rfl, fun _ => trivial, rfl⟩
      go_wp2
      go_round
      case rel => exact ⟨k + 1, q + rn, by omega, by go_num, by go_num, by omega⟩
      case measure => simp [intOf]; omega
    · by_cases c2 : (1048576 : Int) < m
      case pos => go_wp2; go_ret; exact ⟨_, rfl, fun _ => trivial, rfl⟩
      by_cases c3 : (1048576 : Int) < (q : Int) + (m : Int)
      case pos => go_wp2; go_ret; exact ⟨_, rfl, fun _ => trivial, rfl⟩
      go_wp2
      go_loop [11, 13] (fun z i => ∃ k q : Nat, k ≤ m ∧ i = .int .i64 k ∧ z = .int .i64 q ∧ q ≤ 1048576) (fun _ i => m - (intOf i).toNat)
      case atStart => exact ⟨0, q + m, Nat.zero_le _, rfl, by go_num, by omega⟩
      case round =>
        clear hlt hk c3 hq
        obtain ⟨k, q, hk, rfl, rfl, hq⟩ := hrel
        by_cases hlt : k < m
        · obtain ⟨bl, o, ra, rn, rc, rfl, hc, Hrn, hle, hmx⟩ := H1.out.at (k := k) (by rw [HM.out]; exact hlt)
          unfold maxLen at hmx
          by_cases c2 : (1048576 : Int) < rn
          case pos => go_wp2; go_ret; exact ⟨_, rfl, fun _ => trivial, rfl⟩
          by_cases c3 : (1048576 : Int) < (q : Int) + (rn : Int)
          case pos => go_wp2; go_ret; exact ⟨_, rfl, fun _ => trivial, rfl⟩
          go_wp2
          go_round
          case rel => exact ⟨k + 1, q + rn, by omega, by go_num, by go_num, by omega⟩
          case measure => simp [intOf]; omega
        · go_wp2
          go_ret
          exact ⟨_, rfl, fun _ => trivial, rfl⟩

set_option maxRecDepth 100000 in
set_option maxHeartbeats 1000000 in
theorem bytes6 (a b : Option Addr) (n m ca cb : Nat) (f h l : Int) (R0 R1 : List Arg) (w : World) (hn : R0.length = n) (hm : R1.length = m) (bn : n ≤ maxLen) (bm : m ≤ maxLen) (h0 : Mat w a R0) (h1 : Mat w b R1) :
    Calls Try.prog 6 #[.slice a n ca, .int .i64 f, .int .i64 h, .int .i64 l, .slice b m cb] w fun e w' => Says w True e w' := by
  have H0 := hid h0; have H1 := hid h1
  have HN := hid hn; have HM := hid hm
  clear h0 h1 hn hm
  unfold maxLen at bn bm
  go_enter Try.func6, Try.ntmps6
  by_cases c1 : (1048576 : Int) < n
  case pos => go_wp2; go_ret; exact ⟨_, rfl, fun _ => trivial, rfl⟩
  go_wp2
  go_loop [11, 12] (fun z i => ∃ k q : Nat, k ≤ n ∧ i = .int .i64 k ∧ z = .int .i64 q ∧ q ≤ 1048576) (fun _ i => n - (intOf i).toNat)
  case atStart => exact ⟨0, n, Nat.zero_le _, rfl, by first | rfl | (congr 1; omega), by omega⟩
  case round =>
    obtain ⟨k, q, hk, rfl, rfl, hq⟩ := hrel
    by_cases hlt : k < n
    · obtain ⟨bl, o, ra, rn, rc, rfl, hc, Hrn, hle, hmx⟩ := H0.out.at (k := k) (by rw [HN.out]; exact hlt)
      unfold maxLen at hmx
      by_cases c2 : (1048576 : Int) < rn
      case pos => go_wp2; go_ret; exact ⟨_, rfl, fun _ => trivial, rfl⟩
      by_cases c3 : (1048576 : Int) < (q : Int) + (rn : Int)
      case pos => go_wp2; go_ret; exact ⟨_, rfl, fun _ => trivial, rfl⟩
      go_wp2
      go_round
      case rel => exact ⟨k + 1, q + rn, by omega, by go_num, by go_num, by omega⟩
      case measure => simp [intOf]; omega
    · by_cases c2 : (1048576 : Int) < m
      case pos => go_wp2; go_ret; exact ⟨_, rfl, fun _ => trivial, rfl⟩
      by_cases c3 : (1048576 : Int) < (q : Int) + (m : Int)
      case pos => go_wp2; go_ret; exact ⟨_, rfl, fun _ => trivial, rfl⟩
      go_wp2
      go_loop [11, 13] (fun z i => ∃ k q : Nat, k ≤ m ∧ i = .int .i64 k ∧ z = .int .i64 q ∧ q ≤ 1048576) (fun _ i => m - (intOf i).toNat)
      case atStart => exact ⟨0, q + m, Nat.zero_le _, rfl, by go_num, by omega⟩
      case round =>
        clear hlt hk c3 hq
        obtain ⟨k, q, hk, rfl, rfl, hq⟩ := hrel
        by_cases hlt : k < m
        · obtain ⟨bl, o, ra, rn, rc, rfl, hc, Hrn, hle, hmx⟩ := H1.out.at (k := k) (by rw [HM.out]; exact hlt)
          unfold maxLen at hmx
          by_cases c2 : (1048576 : Int) < rn
          case pos => go_wp2; go_ret; exact ⟨_, rfl, fun _ => trivial, rfl⟩
          by_cases c3 : (1048576 : Int) < (q : Int) + (rn : Int)
          case pos => go_wp2; go_ret; exact ⟨_, rfl, fun _ => trivial, rfl⟩
          go_wp2
          go_round
          case rel => exact ⟨k + 1, q + rn, by omega, by go_num, by go_num, by omega⟩
          case measure => simp [intOf]; omega
        · go_wp2
          go_ret
          exact ⟨_, rfl, fun _ => trivial, rfl⟩

set_option maxRecDepth 100000 in
set_option maxHeartbeats 1000000 in
theorem fits7 (a b : Option Addr) (n m ca cb : Nat) (R0 R1 : List Arg) (w : World) (hn : R0.length = n) (hm : R1.length = m) (bn : n ≤ maxLen) (bm : m ≤ maxLen) (h0 : Mat w a R0) (h1 : Mat w b R1) :
    Calls Try.prog 7 #[.slice a n ca, .slice b m cb] w fun e w' => Says w (n ≤ 43690 ∧ m ≤ 43690 ∧ 24 * (n + m) + caps R0 + caps R1 ≤ 1048576) e w' := by
  have H0 := hid h0; have H1 := hid h1
  have HN := hid hn; have HM := hid hm
  clear h0 h1 hn hm
  unfold maxLen at bn bm
  go_enter Try.func7, Try.ntmps7
  by_cases c1 : (43690 : Int) < n
  case pos => go_wp2; go_ret; exact ⟨_, rfl, (fun h => by cases h), rfl⟩
  by_cases c2 : (43690 : Int) < m
  case pos => go_wp2; go_ret; exact ⟨_, rfl, (fun h => by cases h), rfl⟩
  by_cases c3 : (1048576 : Int) < 24 * ((n : Int) + (m : Int))
  case pos => go_wp2; go_ret; exact ⟨_, rfl, (fun h => by cases h), rfl⟩
  go_wp2
  go_loop [5, 6] (fun z i => ∃ k q : Nat, k ≤ n ∧ i = .int .i64 k ∧ z = .int .i64 q ∧ q ≤ 1048576 ∧ Hid (q = 24 * (n + m) + caps (R0.take k))) (fun _ i => n - (intOf i).toNat)
  case atStart => exact ⟨0, 24 * (n + m), Nat.zero_le _, rfl, by go_num, by omega, show _ = _ from by simp [caps]⟩
  case round =>
    obtain ⟨k, q, hk, rfl, rfl, hq, Hq⟩ := hrel
    by_cases hlt : k < n
    · obtain ⟨bl, o, ra, rn, rc, rfl, hc, Hrn, hle, hmx⟩ := H0.out.at (k := k) (by rw [HN.out]; exact hlt)
      unfold maxLen at hmx
      by_cases c4 : 1048576 - (q : Int) < (rc : Int)
      case pos => go_wp2; go_ret; exact ⟨_, rfl, (fun h => by cases h), rfl⟩
      go_wp2
      go_round
      case rel => exact ⟨k + 1, q + rc, by omega, by go_num, by go_num, by omega, show _ = _ from by rw [caps_snoc _ _ (by rw [HN.out]; exact hlt), ← Hrn.out.2, Hq.out]; omega⟩
      case measure => simp [intOf]; omega
    · obtain rfl : k = n := by omega
      have Hq0 : Hid (q = 24 * (k + m) + caps R0) := show _ = _ from by rw [Hq.out, caps_all _ _ (by rw [HN.out]; exact hlt)]
      clear Hq
      go_wp2
      go_loop [5, 7] (fun z i => ∃ j q : Nat, j ≤ m ∧ i = .int .i64 j ∧ z = .int .i64 q ∧ q ≤ 1048576 ∧ Hid (q = 24 * (k + m) + caps R0 + caps (R1.take j))) (fun _ i => m - (intOf i).toNat)
      case atStart => exact ⟨0, q, Nat.zero_le _, rfl, rfl, hq, show _ = _ from by rw [Hq0.out]; simp [caps]⟩
      case round =>
        clear hq Hq0
        obtain ⟨j, q, hj, rfl, rfl, hq, Hq⟩ := hrel
        by_cases hlt : j < m
        · obtain ⟨bl, o, ra, rn, rc, rfl, hc, Hrn, hle, hmx⟩ := H1.out.at (k := j) (by rw [HM.out]; exact hlt)
          unfold maxLen at hmx
          by_cases c4 : 1048576 - (q : Int) < (rc : Int)
          case pos => go_wp2; go_ret; exact ⟨_, rfl, (fun h => by cases h), rfl⟩
          go_wp2
          go_round
          case rel => exact ⟨j + 1, q + rc, by omega, by go_num, by go_num, by omega, show _ = _ from by rw [caps_snoc _ _ (by rw [HM.out]; exact hlt), ← Hrn.out.2, Hq.out]; omega⟩
          case measure => simp [intOf]; omega
        · have e := Hq.out
          rw [caps_all _ _ (by rw [HM.out]; exact hlt)] at e
          have J : Hid (k ≤ 43690 ∧ m ≤ 43690 ∧ 24 * (k + m) + caps R0 + caps R1 ≤ 1048576) := ⟨by omega, by omega, by omega⟩
          clear e
          go_wp2
          go_ret
          exact ⟨_, rfl, fun _ => J.out, rfl⟩

end Go.Proofs.Qxb6617183a.Ar
