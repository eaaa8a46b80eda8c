/-
  'ZZTakes', 'fitsParam' AND THE BOUNDS ON THE TOTAL LENGTH, each as a contract; what a made copy reads as.
-/
import Derived.Test.Qxb6619233aTakes
import Derived.Laws.CopyOwn
namespace Go.Proofs.Qxb6619233a
open Go.RowKit Plain

set_option maxHeartbeats 400000 in
theorem zz_any (a0 : Option Addr) (n c0 : Nat) (P : List Int) (v : Bool) (a1 : Option Addr) (m c1 : Nat) (A : List Int) (wd : Bool) (w : World) (hn : P.length = n) (hm : A.length = m) (bn : n ≤ 1000000) (bm : m ≤ 1000000)
    (hP : 0 < n → ∃ b o, a0 = some ⟨b, o, none⟩ ∧ ∀ t, t < n → w.cell? ⟨b, o + t, none⟩ = some (.int .u8 (P.getD t 0)))
    (hA : 0 < m → ∃ b o, a1 = some ⟨b, o, none⟩ ∧ ∀ t, t < m → w.cell? ⟨b, o + t, none⟩ = some (.int .u8 (A.getD t 0)))
    (hne : v = true → 0 < m → 0 < n) :
    Calls Try.prog 14 #[.slice a0 n c0, .bool v, .slice a1 m c1, .bool wd] w fun e w' => e = .returned (.bool (takesB P v A wd)) ∧ w' = w := by
  have hT := takes_any a0 n c0 P v a1 m c1 A wd w hn hm bn bm hP hA hne
  clear hn hm hP hA hne
  go_enter Try.func14, Try.ntmps14
  go_wp2_with (go_at_call 20; refine hT.mono ?_; rintro e w' ⟨rfl, rfl⟩)
  go_ret
  exact ⟨rfl, rfl⟩

set_option maxHeartbeats 400000 in
theorem fits_any (a p : Int) (wd : Bool) (w : World) :
    Calls Try.prog 18 #[.int .u8 a, .int .u8 p, .bool wd] w fun e w' => e = .returned (.bool (fitB wd a p)) ∧ w' = w := by
  rcases fit_ways wd a p with ⟨hf, rfl | ⟨h1, rfl, rfl, rfl⟩⟩ | ⟨hf, h1, rfl | ⟨rfl, h2⟩ | ⟨rfl, rfl, h3⟩⟩
  all_goals
    have HF : Hid (fitB _ _ _ = _) := hf
    clear hf
    go_enter Try.func18, Try.ntmps18
    go_wp2
    go_ret
    exact ⟨ret_bool (by first | (rw [HF.out]; done) | (rw [HF.out]; simpa using h3)), rfl⟩

set_option maxHeartbeats 400000 in
theorem bytes16_yes (a0 : Option Addr) (n c0 : Nat) (a1 : Option Addr) (m c1 : Nat) (k : Int) (wd : Bool) (w : World) (h : n + m ≤ 1048576) :
    Calls Try.prog 16 #[.slice a0 n c0, .slice a1 m c1, .int .i64 k, .bool wd] w fun e w' => e = .returned (.bool true) ∧ w = w' := by
  go_enter Try.func16, Try.ntmps16
  go_wp2
  go_ret
  exact ⟨rfl, rfl⟩

set_option maxHeartbeats 400000 in
theorem bytes16_no (a0 : Option Addr) (n c0 : Nat) (a1 : Option Addr) (m c1 : Nat) (k : Int) (wd : Bool) (w : World) (h : 1048576 < n + m) :
    Calls Try.prog 16 #[.slice a0 n c0, .slice a1 m c1, .int .i64 k, .bool wd] w fun e w' => e = .returned (.bool false) ∧ w = w' := by
  by_cases h1 : 1048576 < n
  · go_enter Try.func16, Try.ntmps16
    go_wp2
    go_ret
    exact ⟨rfl, rfl⟩
  · by_cases h2 : 1048576 < m
    all_goals
      go_enter Try.func16, Try.ntmps16
      go_wp2
      go_ret
      exact ⟨rfl, rfl⟩

/-! ### A copy of a slice that came in -/
theorem info30 : (Try.prog.info? 30).map (fun i => (i.zero, i.size, i.bytes)) = some (some (.int .u8 0), 1, 1) := by kernel_rfl
theorem size30 : (Try.prog.info? 30).map (·.size) = some 1 := by kernel_rfl

/-- At the address a lie the numbers P (where there are any). -/
def At (w : World) (a : Option Addr) (n : Nat) (P : List Int) : Prop :=
  0 < n → ∃ b o, a = some ⟨b, o, none⟩ ∧ ∀ t, t < n → w.cell? ⟨b, o + t, none⟩ = some (.int .u8 (P.getD t 0))

/-- The slice value s, of n elements, reads as the numbers P. -/
def Reads (w : World) (s : Value) (n : Nat) (P : List Int) : Prop := ∃ a c, s = .slice a n c ∧ n ≤ c ∧ At w a n P

theorem At.below {w w' : World} {a : Option Addr} {n : Nat} {P : List Int} (h : At w a n P) (hb : Below w.heap.size w w') : At w' a n P := by
  intro h0
  obtain ⟨b, o, ha, hc⟩ := h h0
  exact ⟨b, o, ha, fun t ht => (hb.cell (World.block_lt_of_cell? w _ (hc t ht))).trans (hc t ht)⟩

theorem At.drewN {w : World} {a : Option Addr} {n : Nat} {P : List Int} (h : At w a n P) (q : Nat) : At (w.drewN q) a n P := by
  intro h0
  obtain ⟨b, o, ha, hc⟩ := h h0
  exact ⟨b, o, ha, fun t ht => by simpa using hc t ht⟩

theorem At.take {w : World} {a : Option Addr} {n : Nat} {P : List Int} (h : At w a n P) (k : Nat) (hk : k ≤ n) : At w a k (P.take k) := by
  intro h0
  obtain ⟨b, o, ha, hc⟩ := h (by omega)
  exact ⟨b, o, ha, fun t ht => by rw [getD_take _ _ _ ht]; exact hc t (by omega)⟩

/-- What 's[k:]' reads as; at the capacity's end the address stays. -/
theorem At.drop {w : World} {a a' : Option Addr} {n c : Nat} {P : List Int} (h : At w a n P) (k n' : Nat) (hk : k ≤ n) (hnc : n ≤ c) (hn' : n' = n - k) (ha' : ¬ c = k → a' = a.map (·.add k)) : At w a' n' (P.drop k) := by
  intro h0
  obtain ⟨b, o, ha, hc⟩ := h (by omega)
  refine ⟨b, o + k, by rw [ha' (by omega), ha]; simp [Addr.add_lit], fun t ht => ?_⟩
  rw [getD_drop, Nat.add_assoc]; exact hc (k + t) (by omega)

/-- What a slice that came in reads as. -/
theorem row_at {w : World} {a : Option Addr} {len cap : Nat} {zs : List Int}
    (h : (a = none ∧ len = 0 ∧ cap = 0 ∧ zs = []) ∨ ∃ x, a = some x ∧ len ≤ cap ∧ cap ≤ maxLen ∧ zs.length = cap ∧ (∀ i, i < zs.length → w.cell? (x.add i) = some (.int .u8 (zs.getD i 0))) ∧ ∀ n ∈ zs, (Lit.int .u8 n).wf = true) :
    len ≤ cap ∧ (zs.take len).length = len ∧ At w a len (zs.take len) := by
  rcases h with ⟨rfl, rfl, rfl, rfl⟩ | ⟨x, rfl, hl, _, hz, hc, _⟩
  · exact ⟨Nat.le_refl _, rfl, fun h => absurd h (by omega)⟩
  · refine ⟨hl, by simp; omega, fun h0 => ?_⟩
    obtain ⟨b, off, spot⟩ := x
    have hspot : spot = none := by simpa [Addr.add] using World.cell?_spot (hc 0 (by omega))
    subst hspot
    exact ⟨b, off, rfl, fun t ht => by rw [getD_take _ _ _ ht, ← Addr.add_lit]; exact hc t (by omega)⟩

theorem row_le {w : World} {a : Option Addr} {len cap : Nat} {zs : List Int}
    (h : (a = none ∧ len = 0 ∧ cap = 0 ∧ zs = []) ∨ ∃ x, a = some x ∧ len ≤ cap ∧ cap ≤ maxLen ∧ zs.length = cap ∧ (∀ i, i < zs.length → w.cell? (x.add i) = some (.int .u8 (zs.getD i 0))) ∧ ∀ n ∈ zs, (Lit.int .u8 n).wf = true) : len ≤ maxLen := by
  rcases h with ⟨_, rfl, _, _⟩ | ⟨x, _, hl, hm, _⟩
  · exact Nat.zero_le _
  · exact Nat.le_trans hl hm

/-- THE COPY's RUN: out of the row just made. -/
theorem copy_made (w w1 : World) (n c : Nat) (P : List Int) (x : Addr) (xs : List Value) (hn : P.length = n) (hown : w1.ownsRow w.heap.size 30 1 (.slice (some ⟨w.heap.size, 0, none⟩) n n) n xs) (hgrow : w.grownBy w1 none) (hsrc : At w (some x) n P) :
    ∃ w2, (Builtin.copy_ #[27, 27] 3 #[.slice (some ⟨w.heap.size, 0, none⟩) n n, .slice (some x) n c]).run Try.prog w1 = .ok (.int .i64 n) w2 ∧ Reads w2 (.slice (some ⟨w.heap.size, 0, none⟩) n n) n P ∧ Below w.heap.size w w2 := by
  have hb1 : Below w.heap.size w w1 := (Below.refl _ _).grown hgrow (Nat.le_refl _) (fun k h => by cases h)
  rcases hown.2 with ⟨h, _⟩ | ⟨g, cap, cur, hv, _, hg, _, _, hsz, _⟩
  · cases h
  · simp only [Value.slice.injEq, Option.some.injEq, Addr.mk.injEq] at hv
    obtain ⟨⟨rfl, _, _⟩, _, rfl⟩ := hv
    by_cases h0 : 0 < n
    · obtain ⟨b, o, hx, hc⟩ := hsrc h0
      simp only [Option.some.injEq] at hx
      subst hx
      have hl : (P.map (Value.int .u8)).length = n := by simpa using hn
      have hrun := run_copy_row (P := Try.prog) w1 27 27 3 30 w.heap.size 0 n n ⟨b, o, none⟩ n c cur 30 (P.map (Value.int .u8)) Try.underlying27 size30 hg (by rw [hl]; simp)
        (fun j v hj => by
          have hjl : j < P.length := by simpa using (List.getElem?_eq_some_iff.1 hj).1
          rw [Addr.add_lit, hb1.cell (World.block_lt_of_cell? w _ (hc j (by omega))), hc j (by omega)]
          rw [← hj]; simp [List.getD, hjl])
        (by rw [hl]; omega) (ints_oneCell _ _)
      refine ⟨_, by rw [hrun, hl]; rfl, ⟨_, _, rfl, Nat.le_refl _, fun _ => ⟨_, _, rfl, fun t ht => ?_⟩⟩, below_setRow hb1 (Nat.le_refl _) _⟩
      rw [cell_setRow_same _ _ _ _ _ _ _ hg]
      simp only [List.take_zero, List.nil_append, List.getElem?_toArray]
      rw [List.getElem?_append_left (by simp; omega)]
      simp [List.getD, show t < P.length by omega]
    · obtain rfl : n = 0 := by omega
      exact ⟨w1, run_copy_none (P := Try.prog) w1 27 27 3 30 _ _ _ _ _ _ Try.underlying27 size30 rfl, ⟨_, _, rfl, Nat.le_refl _, fun h => absurd h h0⟩, hb1⟩

end Go.Proofs.Qxb6619233a
