/-
  WHAT IS READ BACK: the bytes, plainly and in memory.
-/
import Derived.Test.Qxb6617183aArRoom
import Derived.Test.Qxb6617183aArBack
namespace Go.Proofs.Qxb6617183a.Ar
open Go.RowKit

theorem getD_mid (p x y : List Int) (t : Nat) (h : t < x.length) : ((p ++ x) ++ y).getD (p.length + t) 0 = x.getD t 0 := by
  unfold List.getD
  rw [List.append_assoc, List.getElem?_append_right (by omega), Nat.add_sub_cancel_left, List.getElem?_append_left h]
theorem getD_pre (x y : List Int) (t : Nat) (h : t < x.length) : (x ++ y).getD t 0 = x.getD t 0 := by
  simp [List.getD, List.getElem?_append_left h]

section
variable {s : St} {xs : List Ck} (ho : Ok s) (ha : ∀ a ∈ xs, a.1.length ≤ a.2)
include ho ha
theorem back_bytes {i t : Nat} (h : i < xs.length) (ht : t < (an xs i).1.length) : (ckAt (stAt s xs xs.length) (rc s xs i)).1.getD (ro s xs i + t) 0 = (an xs i).1.getD t 0 := by
  obtain ⟨g1, g2, g3, ⟨pre, g4, g5⟩, g6⟩ := stAt_step ho ha h
  rw [← stAt_succ _ _ _ h] at g3 g5
  obtain ⟨x, hx⟩ := (stAt_gr ho ha (i := i + 1) (j := xs.length) (by omega) (Nat.le_refl _)).2 _ g3
  unfold rc ro
  rw [hx, g5, ← g4]
  exact getD_mid _ _ _ _ ht
theorem old_bytes {j t : Nat} (h : j < s.ck.length) (ht : t < (ckAt s j).1.length) : (ckAt (stAt s xs xs.length) j).1.getD t 0 = (ckAt s j).1.getD t 0 := by
  obtain ⟨x, hx⟩ := (stAt_gr ho ha (i := 0) (j := xs.length) (by omega) (Nat.le_refl _)).2 j h
  rw [hx]
  exact getD_pre _ _ _ ht
end

/-- The one slice's bytes begin with the other's, from the place o on. -/
structure Reads (wr : World) (V : Value) (len : Nat) (arg : Option Addr) (j c o k : Nat) (big : Prop) : Prop where
  ex : ∃ gV cap pa pl pc bl off ra rcap, V = .slice (some ⟨gV, 0, none⟩) len cap ∧ wr.cell? ⟨gV, c, none⟩ = some (.slice pa pl pc) ∧ o + k ≤ pl ∧ pl ≤ 1048576 ∧ arg = some ⟨bl, off, none⟩ ∧ wr.cell? ⟨bl, off + j, none⟩ = some (.slice ra k rcap) ∧
    (0 < k → ∃ g b p, pa = some ⟨g, 0, none⟩ ∧ ra = some ⟨b, p, none⟩ ∧ Same wr g o b p k) ∧ (big → o = 0 ∧ pl = k)
  lt : c < len

theorem reads_of {w wr : World} {V G : Value} {L Gs : Cs} {gc go gl n : Nat} {s : St} {xs : List Ck} {arg : Option Addr} {R : List Arg} {j c o : Nat} {big : Prop} (S : Stand w wr V G L Gs gc go gl n s xs n) (hM : Mat w arg R) (hj : j < R.length) (hc : c < L.length)
    (h1 : o + (R.getD j noArg).bytes.length ≤ (ckAt (stAt s xs n) c).1.length) (h2 : (ckAt (stAt s xs n) c).1.length ≤ 1048576)
    (h3 : ∀ t, t < (R.getD j noArg).bytes.length → (ckAt (stAt s xs n) c).1.getD (o + t) 0 = (R.getD j noArg).bytes.getD t 0) (h4 : big → o = 0 ∧ (ckAt (stAt s xs n) c).1.length = (R.getD j noArg).bytes.length) :
    Reads wr V L.length arg j c o (R.getD j noArg).bytes.length big := by
  have hMr := hM.below S.lp.bel
  obtain ⟨bl, off, harg, hcells⟩ := hMr.1 (by omega)
  have hok := (hMr.mem hj).1
  obtain ⟨gV, cap, pa, hV, hcell, hby⟩ := S.lp.chunk hc
  rw [S.ck] at hcell hby
  refine ⟨⟨gV, cap, pa, _, _, bl, off, _, _, hV, hcell, h1, h2, harg, hcells j hj, fun h0 => ?_, h4⟩, hc⟩
  obtain ⟨b, p, hra, hrb⟩ := hok.2.2.2 h0
  obtain ⟨g, hpa, _⟩ := hby o (by show o < (ckAt (stAt s xs n) c).1.length; omega)
  refine ⟨g, b, p, hpa, hra, fun t ht => ⟨(R.getD j noArg).bytes.getD t 0, ?_, hrb t ht⟩⟩
  obtain ⟨g', hpa', hb'⟩ := hby (o + t) (by show o + t < (ckAt (stAt s xs n) c).1.length; omega)
  rw [hpa] at hpa'
  cases hpa'
  rw [hb']
  have := h3 t ht
  unfold ckAt at this
  rw [this]

section
variable {w wr : World} {V G : Value} {L Gs : Cs} {gc go gl n m : Nat} {a b : Option Addr} {R0 R1 : List Arg} {f h l : Int}
theorem Stand.le20 (S : Stand w wr V G L Gs gc go gl n (start R0 f h l) (R1.map Arg.ck) n) (t : Fit w a b n m R0 R1) (hf1 : -1 ≤ f) (hf2 : f < (m : Int)) {c : Nat} (hc : c < L.length) : (ckAt (stAt (start R0 f h l) (R1.map Arg.ck) n) c).1.length ≤ 1048576 := by
  have ok := t.ok (h := h) (l := l) hf1 hf2
  have h1 : ckAt (stAt (start R0 f h l) (R1.map Arg.ck) n) c ∈ (stAt (start R0 f h l) (R1.map Arg.ck) n).ck := getD_mem (by rw [← S.ck, List.length_map]; exact hc)
  have h2 := (stAt_ok ok t.le (i := n) (by rw [t.len]; exact Nat.le_refl _)).2.2 _ h1
  have h3 := caps_le ok t.le (M := 1048576) (by omega) t.cap0 t.cap1 (i := n) (by rw [t.len]; exact Nat.le_refl _) _ h1
  omega

theorem Stand.backs (S : Stand w wr V G L Gs gc go gl n (start R0 f h l) (R1.map Arg.ck) n) (t : Fit w a b n m R0 R1) (hf1 : -1 ≤ f) (hf2 : f < (m : Int)) {j : Nat} (hj : j < n) :
    Reads wr V L.length b j (rc (start R0 f h l) (R1.map Arg.ck) j) (ro (start R0 f h l) (R1.map Arg.ck) j) (an (R1.map Arg.ck) j).1.length (32768 < (an (R1.map Arg.ck) j).1.length) := by
  have ok := t.ok (h := h) (l := l) hf1 hf2
  have hjx : j < (R1.map Arg.ck).length := by rw [t.len]; exact hj
  obtain ⟨n1, n2, n3⟩ := names ok t.le (i := j) hjx
  have hb := fun t' ht => back_bytes ok t.le (i := j) (t := t') hjx ht
  have hal := fun hbig => alone ok t.le (i := j) hjx hbig
  have ea := an_arg (R := R1) (j := j) (by rw [t.hm]; exact hj)
  rw [t.len] at n1 n2 hb hal
  have hlen : L.length = (stAt (start R0 f h l) (R1.map Arg.ck) n).ck.length := by rw [← S.ck, List.length_map]
  rw [← hlen] at n1
  rw [ea] at n2 hb hal ⊢
  refine reads_of S t.h1 (by rw [t.hm]; exact hj) n1 n2 (S.le20 t hf1 hf2 n1) hb (fun hbig => ?_)
  obtain ⟨p1, p2⟩ := hal (by unfold big; exact decide_eq_true hbig)
  exact ⟨p1, by rw [(p2 (t := n) hj (Nat.le_refl _)).2.2]; rfl⟩

theorem Stand.olds (S : Stand w wr V G L Gs gc go gl n (start R0 f h l) (R1.map Arg.ck) n) (t : Fit w a b n m R0 R1) (hf1 : -1 ≤ f) (hf2 : f < (m : Int)) {j : Nat} (hj : j < m) :
    Reads wr V L.length a j j 0 (R0.getD j noArg).bytes.length False := by
  have ok := t.ok (h := h) (l := l) hf1 hf2
  have hm : (start R0 f h l).ck.length = m := by show (R0.map Arg.ck).length = m; rw [List.length_map, t.hn]
  have hlen : L.length = (stAt (start R0 f h l) (R1.map Arg.ck) n).ck.length := by rw [← S.ck, List.length_map]
  have G := stAt_gr ok t.le (i := 0) (j := n) (by omega) (by rw [t.len]; exact Nat.le_refl _)
  have hjl : j < L.length := by rw [hlen]; exact Nat.lt_of_lt_of_le (by rw [stAt_zero, hm]; exact hj) G.1
  have ea : ckAt (start R0 f h l) j = (R0.getD j noArg).ck := an_arg (R := R0) (by rw [t.hn]; exact hj)
  have h1 := G.len (c := j) (by rw [stAt_zero, hm]; exact hj)
  have hb := fun t' ht => old_bytes ok t.le (j := j) (t := t') (by rw [hm]; exact hj) ht
  rw [t.len] at hb
  rw [stAt_zero] at h1
  rw [ea] at h1 hb
  exact reads_of S t.h0 (by rw [t.hn]; exact hj) hjl (by rw [Nat.zero_add]; exact h1) (S.le20 t hf1 hf2 hjl) (fun t' ht => by rw [Nat.zero_add]; exact hb t' ht) (fun h => h.elim)
end

end Go.Proofs.Qxb6617183a.Ar
