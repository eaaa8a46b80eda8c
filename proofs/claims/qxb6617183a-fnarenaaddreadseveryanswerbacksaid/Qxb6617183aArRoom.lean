/-
  THE LAW 'FnArenaAddNeverReusesRoom'.
-/
import Derived.Test.Qxb6617183aArLoop
import Derived.Test.Qxb6617183aArGuard
namespace Go.Proofs.Qxb6617183a.Ar
open Go.RowKit

theorem info28 : (Try.prog.info? 28).map (fun i => (i.zero, i.size, i.bytes)) = some (some (.int .u32 0), 1, 4) := by kernel_rfl
theorem info3 : (Try.prog.info? 3).map (fun i => (i.zero, i.size, i.bytes)) = some (some (.int .i64 0), 1, 8) := by kernel_rfl

def Yes (w : World) (e : Ending) (w' : World) : Prop := e = .returned (.bool true) ∧ Below w.heap.size w w'

theorem cap_mem {R : List Arg} {M : Nat} (h : caps R ≤ M) : ∀ r ∈ R, r.cap ≤ M := fun r hr => by
  have key : ∀ {R : List Arg}, r ∈ R → r.cap ≤ caps R := fun {R} => by
    induction R with
    | nil => intro hr; cases hr
    | cons x R ih =>
      intro hr
      have e : caps (x :: R) = x.cap + caps R := by simp [caps]
      rw [e]
      rcases List.mem_cons.1 hr with h1 | h1
      · subst h1; omega
      · have := ih h1; omega
  have := key hr
  omega

/-- What the guards leave. -/
structure Fit (w : World) (a b : Option Addr) (n m : Nat) (R0 R1 : List Arg) : Prop where
  hn : R0.length = m
  hm : R1.length = n
  h0 : Mat w a R0
  h1 : Mat w b R1
  z0 : a = none → m = 0
  z1 : b = none → n = 0
  bm : m ≤ 43690
  bn : n ≤ 43690
  tot : 24 * (m + n) + caps R0 + caps R1 ≤ 1048576

def start (R0 : List Arg) (f h l : Int) : St := ⟨R0.map Arg.ck, f, h, l⟩
def fcv (s : St) (xs : List Ck) (j : Nat) : Value := .int .u32 (rc s xs j : Nat)
def fov (s : St) (xs : List Ck) (j : Nat) : Value := .int .u32 (ro s xs j : Nat)
def flv (xs : List Ck) (j : Nat) : Value := .int .i64 ((an xs j).1.length : Nat)

section
variable {w : World} {a b : Option Addr} {n m : Nat} {R0 R1 : List Arg} {f h l : Int}
theorem Fit.ok (t : Fit w a b n m R0 R1) (h1 : -1 ≤ f) (h2 : f < (m : Int)) : Ok (start R0 f h l) := by
  refine ⟨h1, ?_, fun c hc => ?_⟩
  · show f < ((R0.map Arg.ck).length : Int); rw [List.length_map, t.hn]; exact h2
  · obtain ⟨r, hr, rfl⟩ := List.mem_map.1 hc
    exact (t.h0.2 r hr).1
theorem Fit.le (t : Fit w a b n m R0 R1) : ∀ x ∈ R1.map Arg.ck, x.1.length ≤ x.2 := fun x hx => by
  obtain ⟨r, hr, rfl⟩ := List.mem_map.1 hx
  exact (t.h1.2 r hr).1
theorem Fit.len (t : Fit w a b n m R0 R1) : (R1.map Arg.ck).length = n := by rw [List.length_map, t.hm]
theorem Fit.cap0 (t : Fit w a b n m R0 R1) : ∀ c ∈ (start R0 f h l).ck, c.2 ≤ 1048576 := fun c hc => by
  obtain ⟨r, hr, rfl⟩ := List.mem_map.1 hc
  have := t.tot
  exact cap_mem (M := 1048576) (by omega) r hr
theorem Fit.cap1 (t : Fit w a b n m R0 R1) : ∀ x ∈ R1.map Arg.ck, x.2 ≤ 1048576 := fun x hx => by
  obtain ⟨r, hr, rfl⟩ := List.mem_map.1 hx
  have := t.tot
  exact cap_mem (M := 1048576) (by omega) r hr
end

/-- Where the adding stands after k answers. -/
structure Stand (w wr : World) (V G : Value) (L Gs : Cs) (gc go gl n : Nat) (s : St) (xs : List Ck) (k : Nat) : Prop where
  lp : Lp w wr w.heap.size V G L Gs gc go gl n (fcv s xs) (fov s xs) (flv xs) k k k k
  ck : L.map (·.2) = (stAt s xs k).ck
  gv : Gs.map (·.2) = xs

theorem own_slice {w : World} {B : Nat} {e : TypeId} {z : Nat} {v : Value} {n : Nat} {xs : List Value} (h : w.ownsRow B e z v n xs) : ∃ a c, v = .slice a n c := by
  rcases h.2 with ⟨e, e0⟩ | ⟨g, cap, cur, e, _⟩
  · exact ⟨none, 0, by rw [e, e0]⟩
  · exact ⟨_, _, e⟩

section
variable {w wr : World} {V G : Value} {L Gs : Cs} {gc go gl n : Nat} {s : St} {xs : List Ck} {k : Nat}
theorem Stand.slice (S : Stand w wr V G L Gs gc go gl n s xs k) : ∃ va vc, V = .slice va L.length vc := own_slice S.lp.own
theorem Stand.st (S : Stand w wr V G L Gs gc go gl n s xs k) : (⟨L.map (·.2), (stAt s xs k).f, (stAt s xs k).h, (stAt s xs k).l⟩ : St) = stAt s xs k := by rw [S.ck]
theorem Stand.added (S : Stand w wr V G L Gs gc go gl n s xs k) (hk : k < xs.length) {a : Ck} (ha : an xs k = a) {e : Ending} {w1 : World} (hz : ZAdded wr w.heap.size V (stAt s xs k).f (stAt s xs k).h (stAt s xs k).l L (Gs.drop (k + 1)) a e w1) :
    ∃ L' va vc, e = .returned (.tuple #[.slice va L'.length vc, .int .i64 (stAt s xs (k + 1)).f, .int .i64 (stAt s xs (k + 1)).h, .int .i64 (stAt s xs (k + 1)).l, .int .u32 (rc s xs k : Nat), .int .u32 (ro s xs k : Nat), .int .i64 ((an xs k).1.length : Nat)]) ∧
      L'.map (·.2) = (stAt s xs (k + 1)).ck ∧ Lp w w1 w.heap.size (.slice va L'.length vc) G L' Gs gc go gl n (fcv s xs) (fov s xs) (flv xs) (k + 1) k k k := by
  obtain ⟨V', L', va, vc, rfl, he, hck, hlp⟩ := S.lp.added hz
  rw [S.st, ← ha] at he hck
  rw [← stAt_succ _ _ _ hk] at he hck
  exact ⟨L', va, vc, he, hck, hlp⟩
/-- The call. -/
theorem Stand.call (S : Stand w wr V G L Gs gc go gl n s xs k) (ho : Ok s) (hx : ∀ a ∈ xs, a.1.length ≤ a.2) (c0 : ∀ c ∈ s.ck, c.2 ≤ 1048576) (c1 : ∀ a ∈ xs, a.2 ≤ 1048576) (hl : xs.length = n) (bn : n ≤ 43690) (bm : s.ck.length ≤ 43690) (hk : k < n) :
    ∃ gG cap g, G = .slice (some ⟨gG, 0, none⟩) n cap ∧ wr.cell? ⟨gG, k, none⟩ = some g ∧
      Calls Try.prog 9 #[V, .int .i64 (stAt s xs k).f, .int .i64 (stAt s xs k).h, .int .i64 (stAt s xs k).l, g] wr fun e w' => ZAdded wr w.heap.size V (stAt s xs k).f (stAt s xs k).h (stAt s xs k).l L (Gs.drop (k + 1)) (an xs k) e w' := by
  obtain ⟨gG, cap, g, a, hG, hc, hm, ha, hr⟩ := S.lp.given hk
  rw [S.gv] at ha
  have hok := stAt_ok ho hx (i := k) (by omega)
  have hlen : L.length = (stAt s xs k).ck.length := by rw [← S.ck, List.length_map]
  have hle := len_le ho hx (i := k) (by omega)
  rw [ha]
  refine ⟨gG, cap, g, hG, hc, zz_add wr _ V _ _ _ L _ g a S.lp.own hr (by have := S.lp.cc.lt; omega) hok.1 (by rw [hlen]; exact hok.2.1) (by omega) ?_ ?_⟩
  · rw [← ha]; exact c1 _ (getD_mem (by omega))
  · intro p hp
    refine caps_le ho hx (by omega) c0 c1 (i := k) (by omega) p.2 ?_
    rw [← S.ck]; exact List.mem_map.2 ⟨p, hp, rfl⟩
end

/-- All that is read of the name j, at the end. -/
structure Name (w wr : World) (V : Value) (gc go gl : Nat) (a b : Option Addr) (m len j c o rn : Nat) : Prop where
  hc : wr.cell? ⟨gc, j, none⟩ = some (.int .u32 (c : Nat))
  ho : wr.cell? ⟨go, j, none⟩ = some (.int .u32 (o : Nat))
  hl : wr.cell? ⟨gl, j, none⟩ = some (.int .i64 (rn : Nat))
  an : ∃ bl off ra rcap, b = some ⟨bl, off, none⟩ ∧ wr.cell? ⟨bl, off + j, none⟩ = some (.slice ra rn rcap)
  ch : ∃ gV cap pa pl pc, V = .slice (some ⟨gV, 0, none⟩) len cap ∧ wr.cell? ⟨gV, c, none⟩ = some (.slice pa pl pc) ∧ o + rn ≤ pl ∧ pl ≤ 1048576
  lt : c < len
  old : c < m → ∃ bl off ra rn' rc', a = some ⟨bl, off, none⟩ ∧ wr.cell? ⟨bl, off + c, none⟩ = some (.slice ra rn' rc') ∧ rn' ≤ o

theorem Stand.drewN {w wr : World} {V G : Value} {L Gs : Cs} {gc go gl n : Nat} {s : St} {xs : List Ck} {k : Nat} (S : Stand w wr V G L Gs gc go gl n s xs k) (q : Nat) : Stand w (wr.drewN q) V G L Gs gc go gl n s xs k := ⟨S.lp.drewN q, S.ck, S.gv⟩

theorem an_arg {R : List Arg} {j : Nat} (hj : j < R.length) : an (R.map Arg.ck) j = (R.getD j noArg).ck := by
  simp [an, List.getD, hj]

theorem Stand.name {w wr : World} {V G : Value} {L Gs : Cs} {gc go gl n m : Nat} {a b : Option Addr} {R0 R1 : List Arg} {f h l : Int} (S : Stand w wr V G L Gs gc go gl n (start R0 f h l) (R1.map Arg.ck) n)
    (t : Fit w a b n m R0 R1) (hf1 : -1 ≤ f) (hf2 : f < (m : Int)) {j : Nat} (hj : j < n) :
    Name w wr V gc go gl a b m L.length j (rc (start R0 f h l) (R1.map Arg.ck) j) (ro (start R0 f h l) (R1.map Arg.ck) j) (an (R1.map Arg.ck) j).1.length := by
  have ok := t.ok (h := h) (l := l) hf1 hf2
  obtain ⟨n1, n2, n3⟩ := names ok t.le (i := j) (by rw [t.len]; exact hj)
  have hlen : L.length = (stAt (start R0 f h l) (R1.map Arg.ck) n).ck.length := by rw [← S.ck, List.length_map]
  rw [t.len] at n1 n2
  rw [← hlen] at n1
  have hB := S.lp.bel
  refine ⟨S.lp.cc.cell (Nat.le_refl _) hj, S.lp.co.cell (Nat.le_refl _) hj, S.lp.cl.cell (Nat.le_refl _) hj, ?_, ?_, n1, fun hc => ?_⟩
  · obtain ⟨bl, off, ra, rn, rc', hb, hcell, hr, _, _⟩ := (t.h1.below hB).at (k := j) (by rw [t.hm]; exact hj)
    refine ⟨bl, off, ra, rc', hb, ?_⟩
    rw [an_arg (by rw [t.hm]; exact hj)]
    rw [hcell, hr.out.1]; rfl
  · obtain ⟨gV, cap, pa, hV, hcell, _⟩ := S.lp.chunk n1
    refine ⟨gV, cap, pa, _, _, hV, hcell, ?_, ?_⟩
    · rw [S.ck]; exact n2
    · have h1 : (L.map (·.2)).getD (rc (start R0 f h l) (R1.map Arg.ck) j) ([], 0) ∈ L.map (·.2) := getD_mem (by rw [List.length_map]; exact n1)
      rw [S.ck] at h1 ⊢
      have h2 := (stAt_ok ok t.le (i := n) (by rw [t.len]; exact Nat.le_refl _)).2.2 _ h1
      have h3 := caps_le ok t.le (M := 1048576) (by omega) t.cap0 t.cap1 (i := n) (by rw [t.len]; exact Nat.le_refl _) _ h1
      omega
  · have hc' : rc (start R0 f h l) (R1.map Arg.ck) j < R0.length := by rw [t.hn]; exact hc
    obtain ⟨bl, off, ra, rn, rc', hb, hcell, hr, _, _⟩ := (t.h0.below hB).at (k := rc (start R0 f h l) (R1.map Arg.ck) j) hc'
    refine ⟨bl, off, ra, rn, rc', hb, hcell, ?_⟩
    have h1 := n3 (by show _ < (R0.map Arg.ck).length; rw [List.length_map]; exact hc')
    have h2 : ckAt (start R0 f h l) (rc (start R0 f h l) (R1.map Arg.ck) j) = (R0.getD (rc (start R0 f h l) (R1.map Arg.ck) j) noArg).ck := an_arg hc'
    rw [h2] at h1
    rw [hr.out.1]; exact h1

theorem roomTo_caps {R : List Arg} {n : Nat} (hn : R.length = n) : ∀ j, j ≤ n → roomTo (R.map Arg.ck) j ≤ caps R := fun j hj => by
  have h1 := roomTo_le (R.map Arg.ck) j (by rw [List.length_map, hn]; exact hj)
  have h2 : (((R.map Arg.ck).take j).map (·.2)).sum = caps (R.take j) := by
    unfold caps
    rw [← List.map_take, List.map_map]; rfl
  have h3 : ∀ (A B : List Arg), caps (A ++ B) = caps A + caps B := fun A B => by simp [caps]
  have h4 := h3 (R.take j) (R.drop j)
  rw [List.take_append_drop] at h4
  exact Nat.le_trans h1 (by rw [h2]; omega)

/-- What the counts come to. -/
theorem Stand.ends {w wr : World} {V G : Value} {L Gs : Cs} {gc go gl n m : Nat} {a b : Option Addr} {R0 R1 : List Arg} {f h l : Int} (S : Stand w wr V G L Gs gc go gl n (start R0 f h l) (R1.map Arg.ck) n)
    (t : Fit w a b n m R0 R1) (hf1 : -1 ≤ f) (hf2 : f < (m : Int)) (wh : wrap64 h = h) (wl : wrap64 l = l) :
    ∃ I : Nat, wrap64 ((stAt (start R0 f h l) (R1.map Arg.ck) n).h - h) = (I : Int) ∧ lenSum (stAt (start R0 f h l) (R1.map Arg.ck) n) m ≤ I ∧ bigTo (R1.map Arg.ck) n + m ≤ L.length ∧
      I ≤ roomTo (R1.map Arg.ck) n + 65536 * (L.length - m - bigTo (R1.map Arg.ck) n) ∧ (∀ j, j ≤ n → roomTo (R1.map Arg.ck) j ≤ 1048576) ∧ L.length ≤ 90000 ∧ I ≤ 100000000000 := by
  have ok := t.ok (h := h) (l := l) hf1 hf2
  obtain ⟨k1, k2, k3, k4⟩ := counts ok t.le wh wl (i := n) (by rw [t.len]; exact Nat.le_refl _)
  have hm : (start R0 f h l).ck.length = m := by show (R0.map Arg.ck).length = m; rw [List.length_map, t.hn]
  have hlen : (stAt (start R0 f h l) (R1.map Arg.ck) n).ck.length = L.length := by rw [← S.ck, List.length_map]
  have hle := len_le ok t.le (i := n) (by rw [t.len]; exact Nat.le_refl _)
  rw [hm] at k1 k2 k3 hle
  rw [hlen] at k1 k3 hle
  have hbm := t.bm; have hbn := t.bn; have htot := t.tot
  have hr : ∀ j, j ≤ n → roomTo (R1.map Arg.ck) j ≤ 1048576 := fun j hj => by have := roomTo_caps t.hm j hj; omega
  have hrn := hr n (Nat.le_refl _)
  refine ⟨_, ?_, lenSum_le (stAt_ok ok t.le (by rw [t.len]; exact Nat.le_refl _)) m, k1, k3, hr, by omega, by omega⟩
  rw [k2]
  exact wrap_sub h _ (by omega)

set_option maxRecDepth 100000 in
set_option maxHeartbeats 4000000 in
theorem room_any (w : World) (a b : Option Addr) (n m ca cb : Nat) (R0 R1 : List Arg) (f hh l : Int) (hn : R1.length = n) (hm : R0.length = m) (bn : n ≤ maxLen) (bm : m ≤ maxLen) (h0 : Mat w a R0) (h1 : Mat w b R1)
    (z0 : a = none → m = 0) (z1 : b = none → n = 0) (wh : wrap64 hh = hh) (wl : wrap64 l = l) :
    Calls Try.prog 4 #[.slice a m ca, .int .i64 f, .int .i64 hh, .int .i64 l, .slice b n cb] w fun e w' => Yes w e w' := by
  have J11 := hid (bytes11 a b m n ca cb f hh l R0 R1 w hm hn bm bn h0 h1)
  have J7 := hid (fits7 a b m n ca cb R0 R1 w hm hn bm bn h0 h1)
  have Jm := hid hm; have Jn := hid hn; have J0 := hid h0; have J1 := hid h1; have Jz0 := hid z0; have Jz1 := hid z1; have Jwh := hid wh; have Jwl := hid wl
  clear h0 h1 z0 z1 hn hm wh wl
  unfold maxLen at bn bm
  go_enter Try.func4, Try.ntmps4
  go_wp2_with fail
  refine J11.out.mono ?_
  rintro e w1 ⟨bb, rfl, _, rfl⟩
  cases bb
  case false => go_wp2; go_ret; exact ⟨rfl, Below.refl _ _⟩
  go_wp2_with fail
  refine J7.out.mono ?_
  rintro e w1 ⟨bb, rfl, hfit, rfl⟩
  cases bb
  case false => go_wp2; go_ret; exact ⟨rfl, Below.refl _ _⟩
  obtain ⟨f1, f2, f3⟩ := hfit rfl
  have JT : Hid (Fit w a b n m R0 R1) := ⟨Jm.out, Jn.out, J0.out, J1.out, Jz0.out, Jz1.out, f1, f2, f3⟩
  clear hfit J11 J7 Jm Jn J0 J1 Jz0 Jz1 f3
  by_cases c1 : (4096 : Int) < n
  case pos => go_wp2; go_ret; exact ⟨rfl, Below.refl _ _⟩
  by_cases c2 : f < -1
  case pos => go_wp2; go_ret; exact ⟨rfl, Below.refl _ _⟩
  by_cases c3 : (m : Int) ≤ f
  case pos => go_wp2; go_ret; exact ⟨rfl, Below.refl _ _⟩
  have JO : Hid (Ok (start R0 f hh l)) := JT.out.ok (by omega) (by omega)
  have K8 := hid (clone_chunks a m ca R0 w JT.out.hn (by omega) JT.out.h0 (cap_mem (by have := JT.out.tot; omega)) JT.out.z0)
  go_wp2_with fail
  refine K8.out.mono ?_
  rintro e wA ⟨V, L, rfl, a1, a2, a3, a4⟩
  clear K8
  have K8 := hid (clone_chunks b n cb R1 wA JT.out.hm (by omega) (JT.out.h1.below a4) (cap_mem (by have := JT.out.tot; omega)) JT.out.z1)
  have Ja1 := hid a1; have Ja2 := hid a2; have Ja3 := hid a3; have Ja4 := hid a4
  clear a1 a2 a3 a4
  go_wp2_with fail
  refine K8.out.mono ?_
  rintro e wB ⟨G, Gs, rfl, b1, b2, b3, b4⟩
  have Jb1 := hid b1; have Jb2 := hid b2; have Jb3 := hid b3; have Jb4 := hid b4
  clear K8 b1 b2 b3 b4
  obtain ⟨i28, hi, hz0, hz1, hz2⟩ := info_parts info28
  obtain ⟨i3, ki, kz0, kz1, kz2⟩ := info_parts info3
  have hsw : Hid (w.heap.size ≤ wB.heap.size) := Nat.le_trans Ja4.out.size Jb4.out.size
  go_wp2_with (at_make; refine wpList_make_full _ rfl _ _ 26 rfl w.heap.size 28 i28 (.int .u32 0) 1 Try.underlying26 hi hz0 hz1 _ _ _ _ n rfl rfl rfl rfl (by rw [hz2]; omega) (by unfold maxLen; omega) hsw.out ?_)
  intro wC d1 d2
  have Jd1 := hid d1; have Jd2 := hid d2
  have hsC : Hid (w.heap.size ≤ wC.heap.size) := Nat.le_trans hsw.out d2.size
  clear d1 d2
  go_wp2_with (at_make; refine wpList_make_full _ rfl _ _ 26 rfl w.heap.size 28 i28 (.int .u32 0) 1 Try.underlying26 hi hz0 hz1 _ _ _ _ n rfl rfl rfl rfl (by rw [hz2]; omega) (by unfold maxLen; omega) hsC.out ?_)
  intro wD d1 d2
  have Je1 := hid d1; have Je2 := hid d2
  have hsD : Hid (w.heap.size ≤ wD.heap.size) := Nat.le_trans hsC.out d2.size
  clear d1 d2
  go_wp2_with (at_make; refine wpList_make_full _ rfl _ _ 27 rfl w.heap.size 3 i3 (.int .i64 0) 1 Try.underlying27 ki kz0 kz1 _ _ _ _ n rfl rfl rfl rfl (by rw [kz2]; omega) (by unfold maxLen; omega) hsD.out ?_)
  intro wE d1 d2
  have S0 : Hid (Stand w wE V G L Gs wB.heap.size wC.heap.size wD.heap.size n (start R0 f hh l) (R1.map Arg.ck) 0) := ⟨lp_start Ja1.out Ja3.out Ja4.out Jb1.out Jb3.out Jb4.out Jd1.out Jd2.out Je1.out Je2.out d1 d2, Ja2.out, Jb2.out⟩
  clear d1 d2 Ja1 Ja2 Ja3 Ja4 Jb1 Jb2 Jb3 Jb4 Jd1 Jd2 Je1 Je2 hsw hsC hsD hi hz0 hz1 hz2 ki kz0 kz1 kz2
  generalize wB.heap.size = gc at *
  generalize wC.heap.size = go at *
  generalize wD.heap.size = gl at *
  obtain ⟨va, vc, hV⟩ := S0.out.slice
  subst hV
  obtain ⟨s, Hs⟩ : ∃ s, Hid (start R0 f hh l = s) := ⟨_, rfl⟩
  obtain ⟨xs, Hxs⟩ : ∃ xs, Hid (R1.map Arg.ck = xs) := ⟨_, rfl⟩
  rw [Hs.out] at JO
  rw [Hs.out, Hxs.out] at S0
  have Jle : Hid (∀ x ∈ xs, x.1.length ≤ x.2) := by rw [← Hxs.out]; exact JT.out.le
  have Jc0 : Hid (∀ c ∈ s.ck, c.2 ≤ 1048576) := by rw [← Hs.out]; exact JT.out.cap0
  have Jc1 : Hid (∀ x ∈ xs, x.2 ≤ 1048576) := by rw [← Hxs.out]; exact JT.out.cap1
  have Jl : Hid (xs.length = n) := by rw [← Hxs.out]; exact JT.out.len
  have Jm : Hid (s.ck.length = m) := by
    have h1 : s.ck.length = m := by rw [← Hs.out]; show (R0.map Arg.ck).length = m; rw [List.length_map, JT.out.hn]
    exact h1
  have Jfh : Hid (s.f = f ∧ s.h = hh ∧ s.l = l) := by rw [← Hs.out]; exact ⟨rfl, rfl, rfl⟩
  go_wp2
  go_loopw [11, 17, 18, 19, 20] (fun cs f1 h1 l1 i wr => ∃ (k : Nat) (va : Option Addr) (vc : Nat) (L : Cs), k ≤ n ∧ i = .int .i64 k ∧ cs = .slice va L.length vc ∧ f1 = .int .i64 (stAt s xs k).f ∧ h1 = .int .i64 (stAt s xs k).h ∧ l1 = .int .i64 (stAt s xs k).l ∧ Stand w wr (.slice va L.length vc) G L Gs gc go gl n s xs k) (fun _ _ _ _ i _ => n - (intOf i).toNat)
  case atStart => exact ⟨0, va, vc, L, Nat.zero_le _, rfl, by first | rfl | (congr 1; have := S0.out.lp.own.1; simp at this), by rw [stAt_zero, Jfh.out.1], by rw [stAt_zero, Jfh.out.2.1], by rw [stAt_zero, Jfh.out.2.2], S0.out⟩
  case round =>
    clear S0
    obtain ⟨k, va, vc, L, hk, rfl, rfl, rfl, rfl, rfl, hS⟩ := hrel
    have JS := hid hS
    clear hS
    by_cases hlt : k < n
    · as_aux_lemma =>
      obtain ⟨gG, capG, g, rfl, hcell, hcall⟩ := JS.out.call JO.out Jle.out Jc0.out Jc1.out Jl.out (by omega) (by rw [Jm.out]; omega) hlt
      have J9 := hid hcall
      clear hcall
      obtain ⟨f2, Hf2⟩ : ∃ q, Hid ((stAt s xs k).f = q) := ⟨_, rfl⟩
      obtain ⟨h2, Hh2⟩ : ∃ q, Hid ((stAt s xs k).h = q) := ⟨_, rfl⟩
      obtain ⟨l2, Hl2⟩ : ∃ q, Hid ((stAt s xs k).l = q) := ⟨_, rfl⟩
      rw [Hf2.out, Hh2.out, Hl2.out] at J9 ⊢
      go_wp2_with fail
      refine J9.out.mono ?_
      intro e w1 hz
      rw [← Hf2.out, ← Hh2.out, ← Hl2.out] at hz
      obtain ⟨L', va', vc', rfl, hck, hlp⟩ := JS.out.added (by rw [Jl.out]; exact hlt) rfl hz
      have Jck := hid hck; have Jlp := hid hlp
      clear hck hlp hz J9 hcell Hf2 Hh2 Hl2
      obtain ⟨f3, Hf3⟩ : ∃ q, Hid ((stAt s xs (k + 1)).f = q) := ⟨_, rfl⟩
      obtain ⟨h3, Hh3⟩ : ∃ q, Hid ((stAt s xs (k + 1)).h = q) := ⟨_, rfl⟩
      obtain ⟨l3, Hl3⟩ : ∃ q, Hid ((stAt s xs (k + 1)).l = q) := ⟨_, rfl⟩
      obtain ⟨c, Hc⟩ : ∃ q, Hid (rc s xs k = q) := ⟨_, rfl⟩
      obtain ⟨o, Ho⟩ : ∃ q, Hid (ro s xs k = q) := ⟨_, rfl⟩
      obtain ⟨q, Hq⟩ : ∃ q, Hid ((an xs k).1.length = q) := ⟨_, rfl⟩
      rw [Hf3.out, Hh3.out, Hl3.out, Hc.out, Ho.out, Hq.out]
      have hu := Jlp.out.cc.any hlt
      obtain ⟨⟨u1, hu1⟩, hf1⟩ := hu
      go_upto_region 25 with fail
      have R1 : Hid (Lp w (w1.setCell ⟨gc, k, none⟩ (.int .u32 (c : Nat))) w.heap.size (.slice va' L'.length vc') (.slice (some ⟨gG, 0, none⟩) n capG) L' Gs gc go gl n (fcv s xs) (fov s xs) (flv xs) (k + 1) (k + 1) k k) := by
        have h1 := Jlp.out.st1 hlt
        have e1 : fcv s xs k = .int .u32 (c : Nat) := by rw [← Hc.out]; rfl
        rw [e1] at h1; exact h1
      generalize w1.setCell ⟨gc, k, none⟩ (.int .u32 (c : Nat)) = w2 at R1 ⊢
      clear hu1 hf1 Jlp
      have hu := R1.out.co.any hlt
      obtain ⟨⟨u2, hu2⟩, hf2⟩ := hu
      go_upto_region 26 with fail
      have R2 : Hid (Lp w (w2.setCell ⟨go, k, none⟩ (.int .u32 (o : Nat))) w.heap.size (.slice va' L'.length vc') (.slice (some ⟨gG, 0, none⟩) n capG) L' Gs gc go gl n (fcv s xs) (fov s xs) (flv xs) (k + 1) (k + 1) (k + 1) k) := by
        have h1 := R1.out.st2 hlt
        have e1 : fov s xs k = .int .u32 (o : Nat) := by rw [← Ho.out]; rfl
        rw [e1] at h1; exact h1
      generalize w2.setCell ⟨go, k, none⟩ (.int .u32 (o : Nat)) = w3 at R2 ⊢
      clear hu2 hf2 R1
      have hu := R2.out.cl.any hlt
      obtain ⟨⟨u3, hu3⟩, hf3⟩ := hu
      have R3 : Hid (Stand w (w3.setCell ⟨gl, k, none⟩ (.int .i64 (q : Nat))) (.slice va' L'.length vc') (.slice (some ⟨gG, 0, none⟩) n capG) L' Gs gc go gl n s xs (k + 1)) := by
        have h1 := R2.out.st3 hlt
        have e1 : flv xs k = .int .i64 (q : Nat) := by rw [← Hq.out]; rfl
        rw [e1] at h1; exact ⟨h1, Jck.out, JS.out.gv⟩
      clear R2
      go_wp2
      go_roundw
      case rel => exact ⟨k + 1, va', vc', L', by omega, by go_num, rfl, by rw [Hf3.out], by rw [Hh3.out], by rw [Hl3.out], R3.out⟩
      case measure => simp [intOf]; omega
    · obtain rfl : k = n := by omega
      have JN : Hid (∀ wz, Stand w wz (.slice va L.length vc) G L Gs gc go gl k s xs k → ∀ j, j < k → Name w wz (.slice va L.length vc) gc go gl a b m L.length j (rc s xs j) (ro s xs j) (an xs j).1.length) := fun wz hS j hj => by
        have h1 := hS
        rw [← Hs.out, ← Hxs.out] at h1 ⊢
        exact h1.name JT.out (by omega) (by omega) hj
      have Jlen : Hid (L.length ≤ 90000) := by
        have h1 := len_le JO.out Jle.out (i := k) (by rw [Jl.out]; exact Nat.le_refl _)
        rw [← JS.out.ck, List.length_map, Jm.out] at h1
        have h2 : L.length ≤ 90000 := by omega
        exact h2
      obtain ⟨fz, Hfz⟩ : ∃ q, Hid ((stAt s xs k).f = q) := ⟨_, rfl⟩
      obtain ⟨hz, Hhz⟩ : ∃ q, Hid ((stAt s xs k).h = q) := ⟨_, rfl⟩
      obtain ⟨lz, Hlz⟩ : ∃ q, Hid ((stAt s xs k).l = q) := ⟨_, rfl⟩
      rw [Hfz.out, Hhz.out, Hlz.out]
      obtain ⟨m1, Hm1⟩ : ∃ q, Hid (L.length = q) := ⟨_, rfl⟩
      rw [Hm1.out] at JN JS ⊢
      have bm1 := Jlen.out
      rw [Hm1.out] at bm1
      clear hlt hk
      go_wp2
      go_loopw [24] (fun i wz => ∃ j : Nat, j ≤ k ∧ i = .int .i64 j ∧ Stand w wz (.slice va m1 vc) G L Gs gc go gl k s xs k) (fun i _ => k - (intOf i).toNat)
      case atStart => exact ⟨0, Nat.zero_le _, rfl, JS.out⟩
      case round =>
        clear JS
        obtain ⟨j, hj, rfl, hS⟩ := hrel
        have JS := hid hS
        clear hS
        by_cases hlt : j < k
        · as_aux_lemma =>
          obtain ⟨hc, ho, hl, ⟨bl, off, ra, rcap, rfl, han⟩, ⟨gV, cap, pa, pl, pc, hV, hch, h1, h2⟩, h3, h4⟩ := JN.out _ JS.out j hlt
          cases hV
          obtain ⟨c, Hc⟩ : ∃ q, Hid (rc s xs j = q) := ⟨_, rfl⟩
          obtain ⟨o, Ho⟩ : ∃ q, Hid (ro s xs j = q) := ⟨_, rfl⟩
          obtain ⟨q, Hq⟩ : ∃ q, Hid ((an xs j).1.length = q) := ⟨_, rfl⟩
          rw [Hc.out] at hc hch h3 h4
          rw [Ho.out] at ho h1 h4
          rw [Hq.out] at hl han h1
          by_cases hcm : c < m
          · obtain ⟨bl', off', ra', rn', rc', rfl, hold, h5⟩ := h4 hcm
            have hd1 : decide ((c : Int) < (m : Int)) = true := decide_eq_true (by omega)
            have hd2 : decide ((o : Int) < (rn' : Int)) = false := decide_eq_false (by omega)
            go_upto_region 30 with fail
            go_quiet (fail)
            go_upto_region 35 with fail
            go_quiet (fail)
            go_upto_region 37 with fail
            go_quiet (fail)
            go_wp2
            go_roundw
            case rel => exact ⟨j + 1, by omega, by go_num, JS.out.drewN _⟩
            case measure => simp [intOf]; omega
          · have hd1 : decide ((c : Int) < (m : Int)) = false := decide_eq_false (by omega)
            clear h4
            go_upto_region 30 with fail
            go_quiet (fail)
            go_upto_region 35 with fail
            go_quiet (fail)
            go_upto_region 37 with fail
            go_quiet (fail)
            go_wp2
            go_roundw
            case rel => exact ⟨j + 1, by omega, by go_num, JS.out.drewN _⟩
            case measure => simp [intOf]; omega
        · have JE := hid (show ∃ I : Nat, wrap64 (hz - hh) = (I : Int) ∧ lenSum (stAt s xs k) m ≤ I ∧ bigTo xs k + m ≤ m1 ∧ I ≤ roomTo xs k + 65536 * (m1 - m - bigTo xs k) ∧ (∀ j, j ≤ k → roomTo xs j ≤ 1048576) ∧ I ≤ 100000000000 from by
            have h1 := JS.out
            rw [← Hs.out, ← Hxs.out] at h1
            obtain ⟨I, i1, i2, i3, i4, i5, i6, i7⟩ := h1.ends JT.out (by omega) (by omega) Jwh.out Jwl.out
            rw [Hs.out, Hxs.out] at i1 i2
            rw [Hxs.out] at i3 i4 i5
            rw [Hm1.out] at i3 i4
            rw [Hhz.out] at i1
            exact ⟨I, i1, i2, i3, i4, i5, i7⟩)
          have JA : Hid (∀ i j, i < j → j < k → rc s xs j = rc s xs i → ro s xs i + (an xs i).1.length ≤ ro s xs j) := fun i j h1 h2 h3 => apart JO.out Jle.out h1 (by rw [Jl.out]; exact h2) h3
          have JB : Hid (∀ i, i < k → rc s xs i < m1 ∧ ro s xs i + (an xs i).1.length ≤ 1048576) := fun i hi => by
            obtain ⟨_, _, _, _, ⟨_, _, _, _, _, _, _, h1, h2⟩, h3, _⟩ := JN.out _ JS.out i hi
            exact ⟨h3, by omega⟩
          go_wp2
          go_loopw [26] (fun i wz => ∃ j : Nat, j ≤ k ∧ i = .int .i64 j ∧ Stand w wz (.slice va m1 vc) G L Gs gc go gl k s xs k) (fun i _ => k - (intOf i).toNat)
          case atStart => exact ⟨0, Nat.zero_le _, rfl, JS.out⟩
          case round =>
            clear JS
            obtain ⟨i, hi, rfl, hS⟩ := hrel
            have JS := hid hS
            clear hS
            by_cases hlt : i < k
            · as_aux_lemma =>
              obtain ⟨c, Hc⟩ : ∃ q, Hid (rc s xs i = q) := ⟨_, rfl⟩
              obtain ⟨o, Ho⟩ : ∃ q, Hid (ro s xs i = q) := ⟨_, rfl⟩
              obtain ⟨q, Hq⟩ : ∃ q, Hid ((an xs i).1.length = q) := ⟨_, rfl⟩
              have hB := JB.out i hlt
              rw [Hc.out, Ho.out, Hq.out] at hB
              obtain ⟨hB1, hB2⟩ := hB
              have hcells : Hid (∀ wz, Stand w wz (.slice va m1 vc) G L Gs gc go gl k s xs k → wz.cell? ⟨gc, i, none⟩ = some (.int .u32 (c : Nat)) ∧ wz.cell? ⟨go, i, none⟩ = some (.int .u32 (o : Nat)) ∧ wz.cell? ⟨gl, i, none⟩ = some (.int .i64 (q : Nat))) := fun wz hS => by
                obtain ⟨h1, h2, h3, _⟩ := JN.out _ hS i hlt
                rw [Hc.out] at h1; rw [Ho.out] at h2; rw [Hq.out] at h3
                exact ⟨h1, h2, h3⟩
              obtain ⟨hc, ho, hl⟩ := hcells.out _ JS.out
              by_cases hq0 : q = 0
              · subst hq0
                go_wp2
                go_roundw
                case rel => exact ⟨i + 1, by omega, by go_num, JS.out⟩
                case measure => simp [intOf]; omega
              · have hd0 : ((q : Int) == 0) = false := by simpa using hq0
                go_wp2
                go_loopw [29] (fun jj wz => ∃ j : Nat, i < j ∧ j ≤ k ∧ jj = .int .i64 j ∧ Stand w wz (.slice va m1 vc) G L Gs gc go gl k s xs k) (fun jj _ => k - (intOf jj).toNat)
                case atStart => exact ⟨i + 1, by omega, by omega, by go_num, JS.out⟩
                case round =>
                  clear JS hc ho hl
                  obtain ⟨j, hij, hj, rfl, hS⟩ := hrel
                  have JS := hid hS
                  clear hS
                  by_cases hjk : j < k
                  · obtain ⟨hc, ho, hl⟩ := hcells.out _ JS.out
                    obtain ⟨c2, Hc2⟩ : ∃ q, Hid (rc s xs j = q) := ⟨_, rfl⟩
                    obtain ⟨o2, Ho2⟩ : ∃ q, Hid (ro s xs j = q) := ⟨_, rfl⟩
                    obtain ⟨q2, Hq2⟩ : ∃ q, Hid ((an xs j).1.length = q) := ⟨_, rfl⟩
                    have hB := JB.out j hjk
                    rw [Hc2.out, Ho2.out, Hq2.out] at hB
                    obtain ⟨hB3, hB4⟩ := hB
                    have hA := JA.out i j hij hjk
                    rw [Hc2.out, Ho2.out, Hc.out, Ho.out, Hq.out] at hA
                    obtain ⟨kc, ko, kl, _⟩ := JN.out _ JS.out j hjk
                    rw [Hc2.out] at kc; rw [Ho2.out] at ko; rw [Hq2.out] at kl
                    by_cases hq2 : q2 = 0
                    · subst hq2
                      clear hA
                      go_upto_region 48 with fail
                      go_quiet (fail)
                      go_wp2
                      go_roundw
                      case rel => exact ⟨j + 1, by omega, by omega, by go_num, JS.out.drewN _⟩
                      case measure => simp [intOf]; omega
                    · have hd1 : ((q2 : Int) == 0) = false := by simpa using hq2
                      by_cases hcc : c2 = c
                      · have hA' := hA hcc
                        subst hcc
                        clear hA
                        have hd2 : decide ((o : Int) < (o2 : Int) + (q2 : Int)) = true := decide_eq_true (by omega)
                        have hd3 : decide ((o2 : Int) < (o : Int) + (q : Int)) = false := decide_eq_false (by omega)
                        go_upto_region 48 with fail
                        go_quiet (fail)
                        go_wp2
                        go_roundw
                        case rel => exact ⟨j + 1, by omega, by omega, by go_num, JS.out.drewN _⟩
                        case measure => simp [intOf]; omega
                      · clear hA
                        have hd2 : ((c2 : Int) == (c : Int)) = false := by simp; omega
                        go_upto_region 48 with fail
                        go_quiet (fail)
                        go_wp2
                        go_roundw
                        case rel => exact ⟨j + 1, by omega, by omega, by go_num, JS.out.drewN _⟩
                        case measure => simp [intOf]; omega
                  · go_wp2
                    go_roundw
                    case rel => exact ⟨i + 1, by omega, by go_num, JS.out⟩
                    case measure => simp [intOf]; omega
            · as_aux_lemma =>
              obtain ⟨I, i1, i2, i3, i4, i5, i6⟩ := JE.out
              obtain ⟨T, HT⟩ : ∃ q, Hid (stAt s xs k = q) := ⟨_, rfl⟩
              obtain ⟨bg, Hbg⟩ : ∃ q, Hid (bigTo xs k = q) := ⟨_, rfl⟩
              obtain ⟨rm, Hrm⟩ : ∃ q, Hid (roomTo xs k = q) := ⟨_, rfl⟩
              have Ji5 := hid i5
              have brm := i5 k (Nat.le_refl _)
              rw [Hrm.out] at brm i4
              rw [Hbg.out] at i3 i4
              rw [HT.out] at i2
              have hbb : Hid (∀ j, bigTo xs j ≤ k) := fun j => by have := bigTo_le xs j; rw [Jl.out] at this; exact this
              have hI : (I : Int) ≤ (rm : Int) + 65536 * ((m1 : Int) - (m : Int) - (bg : Int)) := by omega
              have Ji2 := hid i2
              clear i5 i4 i2 JE JA JB
              have JQ : Hid (∀ wz, Stand w wz (.slice va m1 vc) G L Gs gc go gl k s xs k → ∀ j, j < k → ∃ bl off ra, b = some ⟨bl, off, none⟩ ∧ wz.cell? ⟨bl, off + j, none⟩ = some (.slice ra (an xs j).1.length (an xs j).2)) := fun wz hS j hj => by
                obtain ⟨bl, off, ra, rn, rc', hb, hcell, hr, _, _⟩ := (JT.out.h1.below hS.lp.bel).at (k := j) (by rw [JT.out.hm]; exact hj)
                refine ⟨bl, off, ra, hb, ?_⟩
                rw [← Hxs.out, an_arg (by rw [JT.out.hm]; exact hj), hcell, hr.out.1, hr.out.2]; rfl
              have JH : Hid (∀ wz, Stand w wz (.slice va m1 vc) G L Gs gc go gl k s xs k → ∀ j, j < m1 → ∃ gV pa pc, va = some ⟨gV, 0, none⟩ ∧ wz.cell? ⟨gV, j, none⟩ = some (.slice pa (ckAt T j).1.length pc)) := fun wz hS j hj => by
                obtain ⟨gV, cap, pa, hV, hcell, _⟩ := hS.lp.chunk (j := j) (by rw [Hm1.out]; exact hj)
                rw [hS.ck, HT.out] at hcell
                cases hV
                exact ⟨gV, pa, _, rfl, hcell⟩
              have HTl : Hid (T.ck.length = m1) := by
                have h1 : T.ck.length = m1 := by rw [← HT.out, ← JS.out.ck, List.length_map, Hm1.out]
                exact h1
              have Jc1' : Hid (∀ j, j < k → (an xs j).1.length ≤ (an xs j).2 ∧ (an xs j).2 ≤ 1048576) := fun j hj =>
                ⟨an_le Jle.out (by rw [Jl.out]; exact hj), Jc1.out _ (getD_mem (by rw [Jl.out]; exact hj))⟩
              have hmm : (m : Int) ≤ (m1 : Int) := by omega
              go_wp2
              go_loopw [33, 34, 35] (fun bb rr i wz => ∃ j : Nat, j ≤ k ∧ i = .int .i64 j ∧ bb = .int .i64 (bigTo xs j : Nat) ∧ rr = .int .i64 (roomTo xs j : Nat) ∧ Stand w wz (.slice va m1 vc) G L Gs gc go gl k s xs k) (fun _ _ i _ => k - (intOf i).toNat)
              case atStart => exact ⟨0, Nat.zero_le _, rfl, by simp [bigTo], by simp [roomTo], JS.out⟩
              case round =>
                clear JS
                obtain ⟨j, hj, rfl, rfl, rfl, hS⟩ := hrel
                have JS := hid hS
                clear hS
                by_cases hjk : j < k
                · obtain ⟨bl, off, ra, rfl, han⟩ := JQ.out _ JS.out j hjk
                  obtain ⟨qb, Hqb⟩ : ∃ q, Hid (bigTo xs j = q) := ⟨_, rfl⟩
                  obtain ⟨qr, Hqr⟩ : ∃ q, Hid (roomTo xs j = q) := ⟨_, rfl⟩
                  obtain ⟨ql, Hql⟩ : ∃ q, Hid ((an xs j).1.length = q) := ⟨_, rfl⟩
                  obtain ⟨qc, Hqc⟩ : ∃ q, Hid ((an xs j).2 = q) := ⟨_, rfl⟩
                  have e1 := hbb.out j
                  have e2 := Ji5.out j hj
                  have e3 := Jc1'.out j hjk
                  rw [Hqb.out] at e1 ⊢
                  rw [Hqr.out] at e2 ⊢
                  rw [Hql.out, Hqc.out] at e3 han
                  obtain ⟨e3, e4⟩ := e3
                  have hs1 := bigTo_succ (xs := xs) (i := j) (by rw [Jl.out]; exact hjk)
                  have hs2 := roomTo_succ (xs := xs) (i := j) (by rw [Jl.out]; exact hjk)
                  rw [Hqb.out] at hs1
                  rw [Hqr.out, Hqc.out] at hs2
                  by_cases hbig : (32768 : Int) < (ql : Int)
                  · have hb : big (an xs j) = true := by unfold big; rw [Hql.out]; exact decide_eq_true (by omega)
                    rw [hb] at hs1 hs2
                    have Js1 := hid hs1; have Js2 := hid hs2
                    clear hs1 hs2 hb
                    go_wp2
                    go_roundw
                    case rel => exact ⟨j + 1, by omega, by go_num, by rw [Js1.out]; simp, by rw [Js2.out]; simp, JS.out⟩
                    case measure => simp [intOf]; omega
                  · have hb : big (an xs j) = false := by unfold big; rw [Hql.out]; exact decide_eq_false (by omega)
                    rw [hb] at hs1 hs2
                    have Js1 := hid hs1; have Js2 := hid hs2
                    clear hs1 hs2 hb
                    go_wp2
                    go_roundw
                    case rel => exact ⟨j + 1, by omega, by go_num, by rw [Js1.out]; simp, by rw [Js2.out]; simp, JS.out⟩
                    case measure => simp [intOf]; omega
                · obtain rfl : j = k := by omega
                  rw [Hbg.out, Hrm.out]
                  have hbm : ¬ ((m1 : Int) - (m : Int) < (bg : Int)) := by omega
                  go_wp2
                  go_loopw [36, 37] (fun ld jj wz => ∃ i q : Nat, m ≤ i ∧ i ≤ m1 ∧ jj = .int .i64 i ∧ ld = .int .i64 q ∧ Hid (q + lenSum T i = lenSum T m) ∧ Stand w wz (.slice va m1 vc) G L Gs gc go gl j s xs j) (fun _ jj _ => m1 - (intOf jj).toNat)
                  case atStart => exact ⟨m, 0, Nat.le_refl _, by omega, rfl, rfl, show _ = _ from by omega, JS.out⟩
                  case round =>
                    clear JS
                    obtain ⟨i, q, hmi, him, rfl, rfl, Hsum, hS⟩ := hrel
                    have JS := hid hS
                    clear hS
                    by_cases hlt2 : i < m1
                    · obtain ⟨gV, pa, pc, rfl, hch⟩ := JH.out _ JS.out i hlt2
                      obtain ⟨ql, Hql⟩ : ∃ q, Hid ((ckAt T i).1.length = q) := ⟨_, rfl⟩
                      rw [Hql.out] at hch
                      have hsn := lenSum_snoc (s := T) (j := i) (by rw [HTl.out]; exact hlt2)
                      rw [Hql.out] at hsn
                      have hb1 : q + ql ≤ I := by have h1 := Hsum.out; have h2 := Ji2.out; omega
                      have Hs2 : Hid (q + ql + lenSum T (i + 1) = lenSum T m) := show _ = _ from by have h1 := Hsum.out; omega
                      clear hsn
                      go_wp2
                      go_roundw
                      case rel => exact ⟨i + 1, q + ql, by omega, by omega, by go_num, by go_num, Hs2.out, JS.out⟩
                      case measure => simp [intOf]; omega
                    · have hb1 : q ≤ I := by have h1 := Hsum.out; have h2 := Ji2.out; omega
                      have hd1 : ¬ (wrap64 (hz - hh) < (q : Int)) := by rw [i1]; omega
                      have hd2 : ¬ ((rm : Int) + 65536 * ((m1 : Int) - (m : Int) - (bg : Int)) < wrap64 (hz - hh)) := by rw [i1]; omega
                      go_wp2
                      go_ret
                      exact ⟨rfl, JS.out.lp.bel⟩

end Go.Proofs.Qxb6617183a.Ar
