/-
  THE PLAIN LAWS of 'add', iterated. No Go here.
-/
import Derived.Test.Qxb6617183aArAdd0
namespace Go.Proofs.Qxb6617183a.Ar
open Go.RowKit

abbrev Ck := List Int × Nat
def ckAt (s : St) (c : Nat) : Ck := s.ck.getD c ([], 0)
/-- What holds of an arena all the way. -/
def Ok (s : St) : Prop := -1 ≤ s.f ∧ s.f < (s.ck.length : Int) ∧ ∀ c ∈ s.ck, c.1.length ≤ c.2

/-- The two ways of 'add': a chunk more, or more in the chunk that is filled. -/
theorem add_way (s : St) (a : Ck) (ho : Ok s) (ha : a.1.length ≤ a.2) :
    (∃ r, refC s a = s.ck.length ∧ refO s a = 0 ∧ (add s a).ck = s.ck ++ [(a.1, r)] ∧ a.1.length ≤ r ∧ (add s a).h = wrap64 (s.h + (r : Int)) ∧ (add s a).l = wrap64 (s.l + (a.1.length : Int)) ∧
      ((big a = true ∧ r = a.2 ∧ (add s a).f = s.f) ∨ (big a = false ∧ r ≤ 65536 ∧ (add s a).f = (s.ck.length : Int)))) ∨
    (∃ i, big a = false ∧ i < s.ck.length ∧ s.f = (i : Int) ∧ refC s a = i ∧ refO s a = (ckAt s i).1.length ∧ (add s a).ck = s.ck.set i ((ckAt s i).1 ++ a.1, (ckAt s i).2) ∧ (ckAt s i).1.length + a.1.length ≤ (ckAt s i).2 ∧
      (add s a).f = s.f ∧ (add s a).h = s.h ∧ (add s a).l = wrap64 (s.l + (a.1.length : Int))) := by
  by_cases hb : 32768 < a.1.length
  · obtain ⟨e1, e2, e3⟩ := add_big (s := s) hb
    exact .inl ⟨a.2, e2, e3, by rw [e1], ha, by rw [e1], by rw [e1], .inl ⟨by unfold big; exact decide_eq_true hb, rfl, by rw [e1]⟩⟩
  · have hbf : big a = false := by unfold big; exact decide_eq_false hb
    by_cases hw : wants s a = true
    · obtain ⟨e1, e2, e3⟩ := add_new (s := s) hb hw
      have hz := szOf_bd s.h a.1.length (by omega)
      exact .inl ⟨_, e2, e3, by rw [e1], hz.2.2, by rw [e1], by rw [e1], .inr ⟨hbf, hz.2.1, by rw [e1]⟩⟩
    · have hw : wants s a = false := by simpa using hw
      obtain ⟨e1, e2, e3⟩ := add_old (s := s) hb hw
      obtain ⟨o1, o2, _⟩ := ho
      unfold wants at hw
      simp at hw
      obtain ⟨hf, hr⟩ := hw
      refine .inr ⟨s.f.toNat, hbf, by omega, by omega, e2, e3, by rw [e1]; rfl, ?_, by rw [e1], by rw [e1], by rw [e1]⟩
      exact hr

theorem getD_app {l : List Ck} {x : Ck} {c : Nat} (h : c < l.length) : (l ++ [x]).getD c ([], 0) = l.getD c ([], 0) := by
  simp [List.getD, List.getElem?_append_left h]
theorem getD_app_new {l : List Ck} {x : Ck} : (l ++ [x]).getD l.length ([], 0) = x := by simp [List.getD]
theorem getD_set {l : List Ck} {x : Ck} {i c : Nat} (h : i ≠ c) : (l.set i x).getD c ([], 0) = l.getD c ([], 0) := by
  simp [List.getD, List.getElem?_set_ne h]
theorem getD_set_same {l : List Ck} {x : Ck} {i : Nat} (h : i < l.length) : (l.set i x).getD i ([], 0) = x := by
  simp [List.getD, h]
theorem getD_mem {l : List Ck} {c : Nat} (h : c < l.length) : l.getD c ([], 0) ∈ l := by
  have : l.getD c ([], 0) = l[c] := by simp [List.getD, h]
  rw [this]; exact List.getElem_mem h

theorem add_ok {s : St} {a : Ck} (ho : Ok s) (ha : a.1.length ≤ a.2) : Ok (add s a) := by
  rcases add_way s a ho ha with ⟨r, e1, e2, e3, e4, e5, e6, e7⟩ | ⟨i, e1, e2, e3, e4, e5, e6, e7, e8, e9, e10⟩
  · have hl : (add s a).ck.length = s.ck.length + 1 := by rw [e3]; simp
    obtain ⟨o1, o2, o3⟩ := ho
    refine ⟨?_, ?_, fun c hc => ?_⟩
    · rcases e7 with ⟨_, _, q⟩ | ⟨_, _, q⟩ <;> rw [q] <;> omega
    · rcases e7 with ⟨_, _, q⟩ | ⟨_, _, q⟩ <;> rw [q, hl] <;> omega
    · rw [e3] at hc
      rcases List.mem_append.1 hc with h1 | h1
      · exact o3 c h1
      · rw [List.mem_singleton.1 h1]; exact e4
  · have hl : (add s a).ck.length = s.ck.length := by rw [e6]; simp
    obtain ⟨o1, o2, o3⟩ := ho
    refine ⟨by rw [e8]; exact o1, by rw [e8, hl]; exact o2, fun c hc => ?_⟩
    rw [e6] at hc
    rcases List.mem_or_eq_of_mem_set hc with h1 | h1
    · exact o3 c h1
    · rw [h1]; simpa using e7

/-- Chunks only grow, at their ends; their rooms stand. -/
def Gr (s t : St) : Prop := s.ck.length ≤ t.ck.length ∧ ∀ c, c < s.ck.length → ∃ x, (ckAt t c).1 = (ckAt s c).1 ++ x
theorem Gr.refl (s : St) : Gr s s := ⟨Nat.le_refl _, fun c _ => ⟨[], by simp⟩⟩
theorem Gr.trans {s t u : St} (h : Gr s t) (k : Gr t u) : Gr s u := by
  refine ⟨Nat.le_trans h.1 k.1, fun c hc => ?_⟩
  obtain ⟨x, hx⟩ := h.2 c hc
  obtain ⟨y, hy⟩ := k.2 c (Nat.lt_of_lt_of_le hc h.1)
  exact ⟨x ++ y, by rw [hy, hx, List.append_assoc]⟩
theorem Gr.len {s t : St} (h : Gr s t) {c : Nat} (hc : c < s.ck.length) : (ckAt s c).1.length ≤ (ckAt t c).1.length := by
  obtain ⟨x, hx⟩ := h.2 c hc
  rw [hx]; simp

theorem add_gr {s : St} {a : Ck} (ho : Ok s) (ha : a.1.length ≤ a.2) : Gr s (add s a) ∧ (add s a).ck.length ≤ s.ck.length + 1 ∧ refC s a < (add s a).ck.length ∧ (∃ pre, pre.length = refO s a ∧ (ckAt (add s a) (refC s a)).1 = pre ++ a.1) ∧
    (refC s a < s.ck.length → refO s a = (ckAt s (refC s a)).1.length) := by
  rcases add_way s a ho ha with ⟨r, e1, e2, e3, e4, e5, e6, e7⟩ | ⟨i, e1, e2, e3, e4, e5, e6, e7, e8, e9, e10⟩
  · have hl : (add s a).ck.length = s.ck.length + 1 := by rw [e3]; simp
    refine ⟨⟨by omega, fun c hc => ⟨[], ?_⟩⟩, by omega, by omega, ⟨[], by rw [e2]; rfl, ?_⟩, fun h => by omega⟩
    · unfold ckAt; rw [e3, getD_app hc]; simp
    · rw [e1]; unfold ckAt; rw [e3, getD_app_new]; rfl
  · have hl : (add s a).ck.length = s.ck.length := by rw [e6]; simp
    refine ⟨⟨by omega, fun c hc => ?_⟩, by omega, by omega, ⟨(ckAt s i).1, by rw [e5], ?_⟩, fun _ => by rw [e4, e5]⟩
    · by_cases h : i = c
      · subst h
        exact ⟨a.1, by show ((add s a).ck.getD i ([], 0)).1 = _; rw [e6, getD_set_same e2]⟩
      · exact ⟨[], by show ((add s a).ck.getD c ([], 0)).1 = _; rw [e6, getD_set h]; simp [ckAt]⟩
    · rw [e4]; show ((add s a).ck.getD i ([], 0)).1 = _; rw [e6, getD_set_same e2]

/-! ### Iterated -/
def an (xs : List Ck) (j : Nat) : Ck := xs.getD j ([], 0)
def stAt (s : St) (xs : List Ck) (i : Nat) : St := (xs.take i).foldl add s
def rc (s : St) (xs : List Ck) (j : Nat) : Nat := refC (stAt s xs j) (an xs j)
def ro (s : St) (xs : List Ck) (j : Nat) : Nat := refO (stAt s xs j) (an xs j)

theorem stAt_zero (s : St) (xs : List Ck) : stAt s xs 0 = s := rfl
theorem stAt_succ (s : St) (xs : List Ck) (i : Nat) (h : i < xs.length) : stAt s xs (i + 1) = add (stAt s xs i) (an xs i) := by
  unfold stAt an
  rw [List.take_succ_eq_append_getElem h, List.foldl_append]
  simp [List.getD, h]

section
variable {s : St} {xs : List Ck} (ho : Ok s) (ha : ∀ a ∈ xs, a.1.length ≤ a.2)
include ha
theorem an_le {j : Nat} (h : j < xs.length) : (an xs j).1.length ≤ (an xs j).2 := ha _ (getD_mem h)
include ho
theorem stAt_ok : ∀ {i : Nat}, i ≤ xs.length → Ok (stAt s xs i)
  | 0, _ => ho
  | i + 1, h => by rw [stAt_succ _ _ _ (by omega)]; exact add_ok (stAt_ok (by omega)) (an_le ha (by omega))
theorem stAt_step {i : Nat} (h : i < xs.length) : Gr (stAt s xs i) (add (stAt s xs i) (an xs i)) ∧ (add (stAt s xs i) (an xs i)).ck.length ≤ (stAt s xs i).ck.length + 1 ∧ refC (stAt s xs i) (an xs i) < (add (stAt s xs i) (an xs i)).ck.length ∧
    (∃ pre, pre.length = refO (stAt s xs i) (an xs i) ∧ (ckAt (add (stAt s xs i) (an xs i)) (refC (stAt s xs i) (an xs i))).1 = pre ++ (an xs i).1) ∧
    (refC (stAt s xs i) (an xs i) < (stAt s xs i).ck.length → refO (stAt s xs i) (an xs i) = (ckAt (stAt s xs i) (refC (stAt s xs i) (an xs i))).1.length) :=
  add_gr (stAt_ok ho ha (by omega)) (an_le ha h)
theorem stAt_gr {i : Nat} : ∀ {j : Nat}, i ≤ j → j ≤ xs.length → Gr (stAt s xs i) (stAt s xs j)
  | 0, h, _ => by obtain rfl : i = 0 := by omega
                  exact Gr.refl _
  | j + 1, h, hj => by
      by_cases e : i = j + 1
      · rw [e]; exact Gr.refl _
      · refine (stAt_gr (j := j) (by omega) (by omega)).trans ?_
        rw [stAt_succ _ _ _ (by omega)]
        exact (stAt_step ho ha (by omega)).1
theorem len_le : ∀ {i : Nat}, i ≤ xs.length → (stAt s xs i).ck.length ≤ s.ck.length + i
  | 0, _ => Nat.le_refl _
  | i + 1, h => by
      have h1 := len_le (i := i) (by omega)
      have h2 := (stAt_step ho ha (i := i) (by omega)).2.1
      rw [← stAt_succ _ _ _ (by omega)] at h2
      omega

/-- Every name lies in its chunk, and behind what was held before. -/
theorem names {i : Nat} (h : i < xs.length) : rc s xs i < (stAt s xs xs.length).ck.length ∧ ro s xs i + (an xs i).1.length ≤ (ckAt (stAt s xs xs.length) (rc s xs i)).1.length ∧
    (rc s xs i < s.ck.length → (ckAt s (rc s xs i)).1.length ≤ ro s xs i) := by
  obtain ⟨g1, g2, g3, ⟨pre, g4, g5⟩, g6⟩ := stAt_step ho ha h
  rw [← stAt_succ _ _ _ h] at g3 g5
  have G := stAt_gr ho ha (i := i + 1) (j := xs.length) (by omega) (Nat.le_refl _)
  refine ⟨Nat.lt_of_lt_of_le g3 G.1, ?_, fun hc => ?_⟩
  · have := G.len g3
    rw [g5] at this
    simp at this
    unfold rc ro
    omega
  · have G0 := stAt_gr ho ha (i := 0) (j := i) (by omega) (by omega)
    have h1 := g6 (Nat.lt_of_lt_of_le hc G0.1)
    have h2 := G0.len hc
    unfold rc ro at *
    rw [h1]; exact h2
/-- .. and never over another. -/
theorem apart {i j : Nat} (hij : i < j) (hj : j < xs.length) (he : rc s xs j = rc s xs i) : ro s xs i + (an xs i).1.length ≤ ro s xs j := by
  obtain ⟨g1, g2, g3, ⟨pre, g4, g5⟩, g6⟩ := stAt_step ho ha (i := i) (by omega)
  rw [← stAt_succ _ _ _ (by omega)] at g3 g5
  have G := stAt_gr ho ha (i := i + 1) (j := j) (by omega) (by omega)
  obtain ⟨_, _, _, _, k6⟩ := stAt_step ho ha hj
  unfold rc ro at *
  have hlt : refC (stAt s xs j) (an xs j) < (stAt s xs j).ck.length := by rw [he]; exact Nat.lt_of_lt_of_le g3 G.1
  have h1 := k6 hlt
  have h2 := G.len g3
  rw [g5] at h2
  rw [h1, he]
  simp at h2
  omega
end


/-! ### How much room, how many chunks -/
theorem wrap_add (x r : Int) : wrap64 (wrap64 x + r) = wrap64 (x + r) := by unfold wrap64; omega
theorem wrap_sub (x : Int) (r : Nat) (hr : r ≤ 4611686018427387904) : wrap64 (wrap64 (x + (r : Int)) - x) = (r : Int) := by unfold wrap64; omega

def capSum (s : St) (m : Nat) : Nat := ((s.ck.drop m).map (·.2)).sum
def lenSum (s : St) (m : Nat) : Nat := ((s.ck.drop m).map (·.1.length)).sum
def bigTo (xs : List Ck) (i : Nat) : Nat := ((xs.take i).filter big).length
def roomTo (xs : List Ck) (i : Nat) : Nat := (((xs.take i).filter big).map (·.2)).sum
def lensTo (xs : List Ck) (i : Nat) : Nat := ((xs.take i).map (·.1.length)).sum

theorem take_an {xs : List Ck} {i : Nat} (h : i < xs.length) : xs.take (i + 1) = xs.take i ++ [an xs i] := by
  rw [List.take_succ_eq_append_getElem h]; simp [an, List.getD, h]
theorem bigTo_succ {xs : List Ck} {i : Nat} (h : i < xs.length) : bigTo xs (i + 1) = bigTo xs i + (if big (an xs i) then 1 else 0) := by
  unfold bigTo; rw [take_an h, List.filter_append]
  cases hb : big (an xs i) <;> simp [hb]
theorem roomTo_succ {xs : List Ck} {i : Nat} (h : i < xs.length) : roomTo xs (i + 1) = roomTo xs i + (if big (an xs i) then (an xs i).2 else 0) := by
  unfold roomTo; rw [take_an h, List.filter_append]
  cases hb : big (an xs i) <;> simp [hb]
theorem lensTo_succ {xs : List Ck} {i : Nat} (h : i < xs.length) : lensTo xs (i + 1) = lensTo xs i + (an xs i).1.length := by
  unfold lensTo; rw [take_an h]; simp
theorem roomTo_le (xs : List Ck) : ∀ i, i ≤ xs.length → roomTo xs i ≤ ((xs.take i).map (·.2)).sum
  | 0, _ => by simp [roomTo]
  | i + 1, h => by
      have h1 := roomTo_le xs i (by omega)
      rw [roomTo_succ (by omega), take_an (by omega), List.map_append, List.sum_append]
      have e : ([an xs i].map (·.2)).sum = (an xs i).2 := by simp
      rw [e]
      split <;> omega
theorem bigTo_le (xs : List Ck) (i : Nat) : bigTo xs i ≤ xs.length := by
  unfold bigTo
  exact Nat.le_trans (List.length_filter_le _ _) (by simp; omega)

theorem len_le_cap : ∀ {l : List Ck}, (∀ c ∈ l, c.1.length ≤ c.2) → (l.map (·.1.length)).sum ≤ (l.map (·.2)).sum
  | [], _ => Nat.le_refl _
  | x :: l, h => by
      have h1 := h x (List.mem_cons.2 (.inl rfl))
      have h2 := len_le_cap (l := l) (fun c hc => h c (List.mem_cons.2 (.inr hc)))
      simp
      omega
theorem lenSum_le {s : St} (ho : Ok s) (m : Nat) : lenSum s m ≤ capSum s m := len_le_cap (fun c hc => ho.2.2 c (List.mem_of_mem_drop hc))
theorem lenSum_snoc {s : St} {j : Nat} (h : j < s.ck.length) : lenSum s j = (ckAt s j).1.length + lenSum s (j + 1) := by
  unfold lenSum ckAt
  rw [List.drop_eq_getElem_cons h, List.map_cons, List.sum_cons]
  simp [List.getD, h]

section
variable {s : St} {xs : List Ck} (ho : Ok s) (ha : ∀ a ∈ xs, a.1.length ≤ a.2)
include ha ho
theorem counts (hh : wrap64 s.h = s.h) (hl : wrap64 s.l = s.l) : ∀ {i : Nat}, i ≤ xs.length → bigTo xs i + s.ck.length ≤ (stAt s xs i).ck.length ∧ (stAt s xs i).h = wrap64 (s.h + (capSum (stAt s xs i) s.ck.length : Int)) ∧
    capSum (stAt s xs i) s.ck.length ≤ roomTo xs i + 65536 * ((stAt s xs i).ck.length - s.ck.length - bigTo xs i) ∧ (stAt s xs i).l = wrap64 (s.l + (lensTo xs i : Int))
  | 0, _ => by
      refine ⟨by simp [bigTo, stAt], ?_, ?_, ?_⟩
      · simp [stAt, capSum, hh]
      · simp [stAt, capSum]
      · simp [stAt, lensTo, hl]
  | i + 1, h => by
      have hi : i < xs.length := by omega
      obtain ⟨k1, k2, k3, k4⟩ := counts hh hl (i := i) (by omega)
      rw [stAt_succ _ _ _ hi, bigTo_succ hi, roomTo_succ hi, lensTo_succ hi]
      have hm : s.ck.length ≤ (stAt s xs i).ck.length := by omega
      rcases add_way (stAt s xs i) (an xs i) (stAt_ok ho ha (by omega)) (an_le ha hi) with ⟨r, e1, e2, e3, e4, e5, e6, e7⟩ | ⟨q, e1, e2, e3, e4, e5, e6, e7, e8, e9, e10⟩
      · have hcap : capSum (add (stAt s xs i) (an xs i)) s.ck.length = capSum (stAt s xs i) s.ck.length + r := by
          unfold capSum; rw [e3, List.drop_append_of_le_length hm]; simp
        have hlen : (add (stAt s xs i) (an xs i)).ck.length = (stAt s xs i).ck.length + 1 := by rw [e3]; simp
        rw [hcap, hlen, e5, e6, k2, k4, wrap_add, wrap_add]
        refine ⟨?_, ?_, ?_, ?_⟩
        · split <;> omega
        · congr 1; omega
        · rcases e7 with ⟨b1, b2, _⟩ | ⟨b1, b2, _⟩
          · rw [b1]; simp; omega
          · rw [b1]; simp; omega
        · congr 1; omega
      · have hcap : capSum (add (stAt s xs i) (an xs i)) s.ck.length = capSum (stAt s xs i) s.ck.length := by
          unfold capSum
          rw [List.map_drop, List.map_drop, e6, List.map_set]
          congr 2
          apply List.ext_getElem?
          intro j
          by_cases hq : q = j
          · subst hq
            rw [List.getElem?_set_self (by simpa using e2)]
            simp [ckAt, List.getD, e2]
          · rw [List.getElem?_set_ne hq]
        have hlen : (add (stAt s xs i) (an xs i)).ck.length = (stAt s xs i).ck.length := by rw [e6]; simp
        rw [hcap, hlen, e9, e10, k4, wrap_add, e1]
        refine ⟨by simpa using k1, k2, by simpa using k3, ?_⟩
        congr 1; omega
/-- A great answer's chunk stays as it came. -/
theorem alone {i : Nat} (hi : i < xs.length) (hb : big (an xs i) = true) : ro s xs i = 0 ∧ ∀ {t : Nat}, i < t → t ≤ xs.length → (stAt s xs t).f ≠ (rc s xs i : Int) ∧ rc s xs i < (stAt s xs t).ck.length ∧ (ckAt (stAt s xs t) (rc s xs i)).1 = (an xs i).1 := by
  rcases add_way (stAt s xs i) (an xs i) (stAt_ok ho ha (by omega)) (an_le ha hi) with ⟨r, e1, e2, e3, e4, e5, e6, e7⟩ | ⟨q, e1, _⟩
  case inr => rw [e1] at hb; cases hb
  refine ⟨e2, fun {t} => ?_⟩
  induction t with
  | zero => intro h; omega
  | succ t ih =>
    intro h ht
    by_cases e : t = i
    · subst e
      rw [stAt_succ _ _ _ hi]
      unfold rc
      have hf := (stAt_ok ho ha (i := t) (by omega)).2.1
      rcases e7 with ⟨_, _, q⟩ | ⟨q, _⟩
      · refine ⟨by rw [q, e1]; omega, by rw [e1, e3]; simp, ?_⟩
        rw [e1]; unfold ckAt; rw [e3, getD_app_new]
      · rw [q] at hb; cases hb
    · obtain ⟨p1, p2, p3⟩ := ih (by omega) (by omega)
      rw [stAt_succ _ _ _ (by omega)]
      generalize rc s xs i = c at *
      rcases add_way (stAt s xs t) (an xs t) (stAt_ok ho ha (by omega)) (an_le ha (by omega)) with ⟨r, u1, u2, u3, u4, u5, u6, u7⟩ | ⟨q, u1, u2, u3, u4, u5, u6, u7, u8, u9, u10⟩
      · refine ⟨?_, by rw [u3]; simp; omega, ?_⟩
        · rcases u7 with ⟨_, _, v⟩ | ⟨_, _, v⟩ <;> rw [v]
          · exact p1
          · omega
        · unfold ckAt; rw [u3, getD_app p2]; exact p3
      · refine ⟨by rw [u8]; exact p1, by rw [u6]; simpa using p2, ?_⟩
        unfold ckAt; rw [u6, getD_set (by omega)]; exact p3
end

/-- No chunk's room is greater than the greatest that came in, or 64 KiB. -/
theorem caps_le {s : St} {xs : List Ck} (ho : Ok s) (ha : ∀ a ∈ xs, a.1.length ≤ a.2) {M : Nat} (hM : 65536 ≤ M) (h0 : ∀ c ∈ s.ck, c.2 ≤ M) (h1 : ∀ a ∈ xs, a.2 ≤ M) : ∀ {i : Nat}, i ≤ xs.length → ∀ c ∈ (stAt s xs i).ck, c.2 ≤ M
  | 0, _ => h0
  | i + 1, h => by
      have hi : i < xs.length := by omega
      have ih := caps_le ho ha hM h0 h1 (i := i) (by omega)
      rw [stAt_succ _ _ _ hi]
      intro c hc
      rcases add_way (stAt s xs i) (an xs i) (stAt_ok ho ha (by omega)) (an_le ha hi) with ⟨r, e1, e2, e3, e4, e5, e6, e7⟩ | ⟨q, e1, e2, e3, e4, e5, e6, e7, e8, e9, e10⟩
      · rw [e3] at hc
        rcases List.mem_append.1 hc with h2 | h2
        · exact ih c h2
        · rw [List.mem_singleton.1 h2]
          rcases e7 with ⟨_, b, _⟩ | ⟨_, b, _⟩
          · rw [b]; exact h1 _ (getD_mem hi)
          · exact Nat.le_trans b hM
      · rw [e6] at hc
        rcases List.mem_or_eq_of_mem_set hc with h2 | h2
        · exact ih c h2
        · rw [h2]; have := ih _ (getD_mem e2); exact this

end Go.Proofs.Qxb6617183a.Ar
