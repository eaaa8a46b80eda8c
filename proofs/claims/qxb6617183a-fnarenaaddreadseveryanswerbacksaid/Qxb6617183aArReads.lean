/-
  THE LAW 'FnArenaAddReadsEveryAnswerBack'.
-/
import Derived.Test.Qxb6617183aArReads0
namespace Go.Proofs.Qxb6617183a.Ar
open Go.RowKit

theorem lensTo_caps {R : List Arg} (ha : ∀ x ∈ R.map Arg.ck, x.1.length ≤ x.2) (j : Nat) : lensTo (R.map Arg.ck) j ≤ caps R := by
  have h1 : lensTo (R.map Arg.ck) j ≤ (((R.map Arg.ck).take j).map (·.2)).sum := len_le_cap (fun c hc => ha c (List.mem_of_mem_take hc))
  have h2 : (((R.map Arg.ck).take j).map (·.2)).sum = caps (R.take j) := by
    unfold caps
    rw [← List.map_take, List.map_map]; rfl
  have h3 : ∀ (A B : List Arg), caps (A ++ B) = caps A + caps B := fun A B => by simp [caps]
  have h4 := h3 (R.take j) (R.drop j)
  rw [List.take_append_drop] at h4
  exact Nat.le_trans h1 (by rw [h2]; omega)

/-- How the arena stands behind one answer more. -/
theorem step_facts {s : St} {xs : List Ck} (ho : Ok s) (ha : ∀ a ∈ xs, a.1.length ≤ a.2) {k : Nat} (hk : k < xs.length) {L L' : Cs} (h1 : L.map (·.2) = (stAt s xs k).ck) (h2 : L'.map (·.2) = (stAt s xs (k + 1)).ck) :
    (L'.length = L.length ∨ L'.length = L.length + 1) ∧ -1 ≤ (stAt s xs (k + 1)).f ∧ (stAt s xs (k + 1)).f < (L'.length : Int) ∧ L.length ≤ s.ck.length + k := by
  have e1 : L.length = (stAt s xs k).ck.length := by rw [← h1, List.length_map]
  have e2 : L'.length = (stAt s xs (k + 1)).ck.length := by rw [← h2, List.length_map]
  obtain ⟨g1, g2, _⟩ := stAt_step ho ha hk
  rw [← stAt_succ _ _ _ hk] at g1 g2
  have g3 := g1.1
  have ok := stAt_ok ho ha (i := k + 1) (by omega)
  have hl := len_le ho ha (i := k) (by omega)
  exact ⟨by omega, ok.1, by rw [e2]; exact ok.2.1, by omega⟩

set_option maxRecDepth 100000 in
set_option maxHeartbeats 4000000 in
theorem reads_any (w : World) (a b : Option Addr) (n m ca cb : Nat) (R0 R1 : List Arg) (f hh l : Int) (hn : R1.length = n) (hm : R0.length = m) (bn : n ≤ maxLen) (bm : m ≤ maxLen) (h0 : Mat w a R0) (h1 : Mat w b R1)
    (z0 : a = none → m = 0) (z1 : b = none → n = 0) (wh : wrap64 hh = hh) (wl : wrap64 l = l) :
    Calls Try.prog 3 #[.slice a m ca, .int .i64 f, .int .i64 hh, .int .i64 l, .slice b n cb] w fun e w' => Yes w e w' := by
  have J6 := hid (bytes6 a b m n ca cb f hh l R0 R1 w hm hn bm bn h0 h1)
  have J7 := hid (fits7 a b m n ca cb R0 R1 w hm hn bm bn h0 h1)
  have Jm := hid hm; have Jn := hid hn; have J0 := hid h0; have J1 := hid h1; have Jz0 := hid z0; have Jz1 := hid z1; have Jwh := hid wh; have Jwl := hid wl
  clear h0 h1 z0 z1 hn hm wh wl
  unfold maxLen at bn bm
  go_enter Try.func3, Try.ntmps3
  go_wp2_with fail
  refine J6.out.mono ?_
  rintro e w1 ⟨bb, rfl, _, rfl⟩
  cases bb
  case false => go_wp2; go_ret; exact ⟨rfl, Below.refl _ _⟩
  go_wp2_with fail
  refine J7.out.mono ?_
  rintro e w1 ⟨bb, rfl, hfit, rfl⟩
  cases bb
  case false => go_wp2; go_ret; exact ⟨rfl, Below.refl _ _⟩
  obtain ⟨f1, f2, f3⟩ := hfit rfl
  have JT : Hid (Fit w a b n m R0 R1) := ⟨Jm.out, Jn.out, J0.out, J1.out, Jz0.out, Jz1.out, f1, f2, f3⟩
  clear hfit J6 J7 Jm Jn J0 J1 Jz0 Jz1 f3
  by_cases c2 : f < -1
  case pos => go_wp2; go_ret; exact ⟨rfl, Below.refl _ _⟩
  by_cases c3 : (m : Int) ≤ f
  case pos => go_wp2; go_ret; exact ⟨rfl, Below.refl _ _⟩
  have JO : Hid (Ok (start R0 f hh l)) := JT.out.ok (by omega) (by omega)
  have K8 := hid (clone_chunks a m ca R0 w JT.out.hn (by omega) JT.out.h0 (cap_mem (by have := JT.out.tot; omega)) JT.out.z0)
  go_wp2_with fail
  refine K8.out.mono ?_
  rintro e wA ⟨V, L, rfl, a1, a2, a3, a4⟩
  clear K8
  have K8 := hid (clone_chunks b n cb R1 wA JT.out.hm (by omega) (JT.out.h1.below a4) (cap_mem (by have := JT.out.tot; omega)) JT.out.z1)
  have Ja1 := hid a1; have Ja2 := hid a2; have Ja3 := hid a3; have Ja4 := hid a4
  clear a1 a2 a3 a4
  go_wp2_with fail
  refine K8.out.mono ?_
  rintro e wB ⟨G, Gs, rfl, b1, b2, b3, b4⟩
  have Jb1 := hid b1; have Jb2 := hid b2; have Jb3 := hid b3; have Jb4 := hid b4
  clear K8 b1 b2 b3 b4
  obtain ⟨i28, hi, hz0, hz1, hz2⟩ := info_parts info28
  obtain ⟨i3, ki, kz0, kz1, kz2⟩ := info_parts info3
  have hsw : Hid (w.heap.size ≤ wB.heap.size) := Nat.le_trans Ja4.out.size Jb4.out.size
  go_wp2_with (at_make; refine wpList_make_full _ rfl _ _ 26 rfl w.heap.size 28 i28 (.int .u32 0) 1 Try.underlying26 hi hz0 hz1 _ _ _ _ n rfl rfl rfl rfl (by rw [hz2]; omega) (by unfold maxLen; omega) hsw.out ?_)
  intro wC d1 d2
  have Jd1 := hid d1; have Jd2 := hid d2
  have hsC : Hid (w.heap.size ≤ wC.heap.size) := Nat.le_trans hsw.out d2.size
  clear d1 d2
  go_wp2_with (at_make; refine wpList_make_full _ rfl _ _ 26 rfl w.heap.size 28 i28 (.int .u32 0) 1 Try.underlying26 hi hz0 hz1 _ _ _ _ n rfl rfl rfl rfl (by rw [hz2]; omega) (by unfold maxLen; omega) hsC.out ?_)
  intro wD d1 d2
  have Je1 := hid d1; have Je2 := hid d2
  have hsD : Hid (w.heap.size ≤ wD.heap.size) := Nat.le_trans hsC.out d2.size
  clear d1 d2
  go_wp2_with (at_make; refine wpList_make_full _ rfl _ _ 27 rfl w.heap.size 3 i3 (.int .i64 0) 1 Try.underlying27 ki kz0 kz1 _ _ _ _ n rfl rfl rfl rfl (by rw [kz2]; omega) (by unfold maxLen; omega) hsD.out ?_)
  intro wE d1 d2
  have S0 : Hid (Stand w wE V G L Gs wB.heap.size wC.heap.size wD.heap.size n (start R0 f hh l) (R1.map Arg.ck) 0) := ⟨lp_start Ja1.out Ja3.out Ja4.out Jb1.out Jb3.out Jb4.out Jd1.out Jd2.out Je1.out Je2.out d1 d2, Ja2.out, Jb2.out⟩
  clear d1 d2 Ja1 Ja2 Ja3 Ja4 Jb1 Jb2 Jb3 Jb4 Jd1 Jd2 Je1 Je2 hsw hsC hsD hi hz0 hz1 hz2 ki kz0 kz1 kz2
  generalize wB.heap.size = gc at *
  generalize wC.heap.size = go at *
  generalize wD.heap.size = gl at *
  obtain ⟨va, vc, hV⟩ := S0.out.slice
  subst hV
  obtain ⟨s, Hs⟩ : ∃ s, Hid (start R0 f hh l = s) := ⟨_, rfl⟩
  obtain ⟨xs, Hxs⟩ : ∃ xs, Hid (R1.map Arg.ck = xs) := ⟨_, rfl⟩
  rw [Hs.out] at JO
  rw [Hs.out, Hxs.out] at S0
  have Jle : Hid (∀ x ∈ xs, x.1.length ≤ x.2) := by rw [← Hxs.out]; exact JT.out.le
  have Jc0 : Hid (∀ c ∈ s.ck, c.2 ≤ 1048576) := by rw [← Hs.out]; exact JT.out.cap0
  have Jc1 : Hid (∀ x ∈ xs, x.2 ≤ 1048576) := by rw [← Hxs.out]; exact JT.out.cap1
  have Jl : Hid (xs.length = n) := by rw [← Hxs.out]; exact JT.out.len
  have Jm : Hid (s.ck.length = m) := by
    have h1 : s.ck.length = m := by rw [← Hs.out]; show (R0.map Arg.ck).length = m; rw [List.length_map, JT.out.hn]
    exact h1
  have Jfh : Hid (s.f = f ∧ s.h = hh ∧ s.l = l) := by rw [← Hs.out]; exact ⟨rfl, rfl, rfl⟩
  have Jsm : Hid (∀ j, j ≤ n → lensTo xs j ≤ 1048576) := fun j _ => by
    have h1 := lensTo_caps JT.out.le j
    rw [Hxs.out] at h1
    have h2 := JT.out.tot
    omega
  have Jc1' : Hid (∀ j, j < n → (an xs j).1.length ≤ 1048576) := fun j hj =>
    Nat.le_trans (an_le Jle.out (by rw [Jl.out]; exact hj)) (Jc1.out _ (getD_mem (by rw [Jl.out]; exact hj)))
  go_wp2
  go_loopw [11, 17, 18, 19, 20, 21] (fun cs f1 h1 l1 sm i wr => ∃ (k : Nat) (va : Option Addr) (vc : Nat) (L : Cs), k ≤ n ∧ i = .int .i64 k ∧ cs = .slice va L.length vc ∧ f1 = .int .i64 (stAt s xs k).f ∧ h1 = .int .i64 (stAt s xs k).h ∧ l1 = .int .i64 (stAt s xs k).l ∧ sm = .int .i64 (lensTo xs k : Nat) ∧ Stand w wr (.slice va L.length vc) G L Gs gc go gl n s xs k) (fun _ _ _ _ _ i _ => n - (intOf i).toNat)
  case atStart => exact ⟨0, va, vc, L, Nat.zero_le _, rfl, by first | rfl | (congr 1; have := S0.out.lp.own.1; simp at this), by rw [stAt_zero, Jfh.out.1], by rw [stAt_zero, Jfh.out.2.1], by rw [stAt_zero, Jfh.out.2.2], by simp [lensTo], S0.out⟩
  case round =>
    clear S0
    obtain ⟨k, va, vc, L, hk, rfl, rfl, rfl, rfl, rfl, rfl, hS⟩ := hrel
    have JS := hid hS
    clear hS
    by_cases hlt : k < n
    · as_aux_lemma =>
      obtain ⟨gG, capG, g, rfl, hcell, hcall⟩ := JS.out.call JO.out Jle.out Jc0.out Jc1.out Jl.out (by omega) (by rw [Jm.out]; omega) hlt
      have J9 := hid hcall
      clear hcall
      obtain ⟨f2, Hf2⟩ : ∃ q, Hid ((stAt s xs k).f = q) := ⟨_, rfl⟩
      obtain ⟨h2, Hh2⟩ : ∃ q, Hid ((stAt s xs k).h = q) := ⟨_, rfl⟩
      obtain ⟨l2, Hl2⟩ : ∃ q, Hid ((stAt s xs k).l = q) := ⟨_, rfl⟩
      rw [Hf2.out, Hh2.out, Hl2.out] at J9 ⊢
      go_wp2_with fail
      refine J9.out.mono ?_
      intro e w1 hz
      rw [← Hf2.out, ← Hh2.out, ← Hl2.out] at hz
      obtain ⟨L', va', vc', rfl, hck, hlp⟩ := JS.out.added (by rw [Jl.out]; exact hlt) rfl hz
      have Jck := hid hck; have Jlp := hid hlp
      clear hck hlp hz J9 hcell Hf2 Hh2 Hl2
      obtain ⟨f3, Hf3⟩ : ∃ q, Hid ((stAt s xs (k + 1)).f = q) := ⟨_, rfl⟩
      obtain ⟨h3, Hh3⟩ : ∃ q, Hid ((stAt s xs (k + 1)).h = q) := ⟨_, rfl⟩
      obtain ⟨l3, Hl3⟩ : ∃ q, Hid ((stAt s xs (k + 1)).l = q) := ⟨_, rfl⟩
      obtain ⟨c, Hc⟩ : ∃ q, Hid (rc s xs k = q) := ⟨_, rfl⟩
      obtain ⟨o, Ho⟩ : ∃ q, Hid (ro s xs k = q) := ⟨_, rfl⟩
      obtain ⟨q, Hq⟩ : ∃ q, Hid ((an xs k).1.length = q) := ⟨_, rfl⟩
      rw [Hf3.out, Hh3.out, Hl3.out, Hc.out, Ho.out, Hq.out]
      have hst := step_facts JO.out Jle.out (k := k) (by rw [Jl.out]; exact hlt) JS.out.ck Jck.out
      rw [Jm.out, Hf3.out] at hst
      obtain ⟨hm2, hfa, hfb, hbL⟩ := hst
      obtain ⟨sm, Hsm⟩ : ∃ q, Hid (lensTo xs k = q) := ⟨_, rfl⟩
      have bsm := Jsm.out k hk
      rw [Hsm.out] at bsm ⊢
      have bq := Jc1'.out k hlt
      rw [Hq.out] at bq
      have Hs1 : Hid (lensTo xs (k + 1) = sm + q) := by
        have h1 := lensTo_succ (xs := xs) (i := k) (by rw [Jl.out]; exact hlt)
        rw [Hsm.out, Hq.out] at h1; exact h1
      have Han : Hid (∀ wz, Below w.heap.size w wz → ∃ bl off ra rcap, b = some ⟨bl, off, none⟩ ∧ wz.cell? ⟨bl, off + k, none⟩ = some (.slice ra q rcap)) := fun wz hB => by
        obtain ⟨bl, off, ra, rn, rc', hb, hcell, hr, _, _⟩ := (JT.out.h1.below hB).at (k := k) (by rw [JT.out.hm]; exact hlt)
        have e := an_arg (R := R1) (j := k) (by rw [JT.out.hm]; exact hlt)
        have e2 : rn = q := by rw [← Hq.out, ← Hxs.out, e, hr.out.1]; rfl
        exact ⟨bl, off, ra, rc', hb, by rw [hcell, e2]⟩
      obtain ⟨m2, Hm2⟩ : ∃ q, Hid (L'.length = q) := ⟨_, rfl⟩
      obtain ⟨m1, Hm1⟩ : ∃ q, Hid (L.length = q) := ⟨_, rfl⟩
      rw [Hm2.out] at hm2 hfb Jlp ⊢
      rw [Hm1.out] at hm2 hbL ⊢
      have hu := Jlp.out.cc.any hlt
      obtain ⟨⟨u1, hu1⟩, hf1⟩ := hu
      have hd5 : ¬ f3 < -1 := by omega
      have hd6 : ¬ (m2 : Int) ≤ f3 := by omega
      rcases hm2 with hne2 | hne2
      · subst hne2
        go_upto_region 29 with fail
        have R1' : Hid (Lp w (w1.setCell ⟨gc, k, none⟩ (.int .u32 (c : Nat))) w.heap.size (.slice va' m2 vc') (.slice (some ⟨gG, 0, none⟩) n capG) L' Gs gc go gl n (fcv s xs) (fov s xs) (flv xs) (k + 1) (k + 1) k k) := by
          have h1 := Jlp.out.st1 hlt
          have e1 : fcv s xs k = .int .u32 (c : Nat) := by rw [← Hc.out]; rfl
          rw [e1] at h1; exact h1
        generalize w1.setCell ⟨gc, k, none⟩ (.int .u32 (c : Nat)) = w2 at R1' ⊢
        clear hu1 hf1 Jlp
        have hu := R1'.out.co.any hlt
        obtain ⟨⟨u2, hu2⟩, hf2⟩ := hu
        go_upto_region 30 with fail
        have R2 : Hid (Lp w (w2.setCell ⟨go, k, none⟩ (.int .u32 (o : Nat))) w.heap.size (.slice va' m2 vc') (.slice (some ⟨gG, 0, none⟩) n capG) L' Gs gc go gl n (fcv s xs) (fov s xs) (flv xs) (k + 1) (k + 1) (k + 1) k) := by
          have h1 := R1'.out.st2 hlt
          have e1 : fov s xs k = .int .u32 (o : Nat) := by rw [← Ho.out]; rfl
          rw [e1] at h1; exact h1
        generalize w2.setCell ⟨go, k, none⟩ (.int .u32 (o : Nat)) = w3 at R2 ⊢
        clear hu2 hf2 R1'
        have hu := R2.out.cl.any hlt
        obtain ⟨⟨u3, hu3⟩, hf3⟩ := hu
        go_upto_region 31 with fail
        have R3 : Hid (Stand w (w3.setCell ⟨gl, k, none⟩ (.int .i64 (q : Nat))) (.slice va' m2 vc') (.slice (some ⟨gG, 0, none⟩) n capG) L' Gs gc go gl n s xs (k + 1)) := by
          have h1 := R2.out.st3 hlt
          have e1 : flv xs k = .int .i64 (q : Nat) := by rw [← Hq.out]; rfl
          rw [e1] at h1; exact ⟨h1, Jck.out, JS.out.gv⟩
        generalize w3.setCell ⟨gl, k, none⟩ (.int .i64 (q : Nat)) = w4 at R3 ⊢
        clear R2 hu3 hf3
        obtain ⟨bl, off, ra, rcap, hbb, han⟩ := Han.out _ R3.out.lp.bel
        subst hbb
        go_wp2
        go_roundw
        case rel => exact ⟨k + 1, va', vc', L', by omega, by go_num, by rw [Hm2.out], by rw [Hf3.out], by rw [Hh3.out], by rw [Hl3.out], by rw [Hs1.out]; go_num, by rw [Hm2.out]; exact R3.out⟩
        case measure => simp [intOf]; omega
      · subst hne2
        have hd7 : (((m1 : Int) + 1) == (m1 : Int)) = false := beq_eq_false_iff_ne.2 (by omega)
        have hd8 : ¬ (m1 : Int) + 1 ≤ f3 := by omega
        clear hd6
        go_upto_region 29 with fail
        have R1' : Hid (Lp w (w1.setCell ⟨gc, k, none⟩ (.int .u32 (c : Nat))) w.heap.size (.slice va' (m1 + 1) vc') (.slice (some ⟨gG, 0, none⟩) n capG) L' Gs gc go gl n (fcv s xs) (fov s xs) (flv xs) (k + 1) (k + 1) k k) := by
          have h1 := Jlp.out.st1 hlt
          have e1 : fcv s xs k = .int .u32 (c : Nat) := by rw [← Hc.out]; rfl
          rw [e1] at h1; exact h1
        generalize w1.setCell ⟨gc, k, none⟩ (.int .u32 (c : Nat)) = w2 at R1' ⊢
        clear hu1 hf1 Jlp
        have hu := R1'.out.co.any hlt
        obtain ⟨⟨u2, hu2⟩, hf2⟩ := hu
        go_upto_region 30 with fail
        have R2 : Hid (Lp w (w2.setCell ⟨go, k, none⟩ (.int .u32 (o : Nat))) w.heap.size (.slice va' (m1 + 1) vc') (.slice (some ⟨gG, 0, none⟩) n capG) L' Gs gc go gl n (fcv s xs) (fov s xs) (flv xs) (k + 1) (k + 1) (k + 1) k) := by
          have h1 := R1'.out.st2 hlt
          have e1 : fov s xs k = .int .u32 (o : Nat) := by rw [← Ho.out]; rfl
          rw [e1] at h1; exact h1
        generalize w2.setCell ⟨go, k, none⟩ (.int .u32 (o : Nat)) = w3 at R2 ⊢
        clear hu2 hf2 R1'
        have hu := R2.out.cl.any hlt
        obtain ⟨⟨u3, hu3⟩, hf3⟩ := hu
        go_upto_region 31 with fail
        have R3 : Hid (Stand w (w3.setCell ⟨gl, k, none⟩ (.int .i64 (q : Nat))) (.slice va' (m1 + 1) vc') (.slice (some ⟨gG, 0, none⟩) n capG) L' Gs gc go gl n s xs (k + 1)) := by
          have h1 := R2.out.st3 hlt
          have e1 : flv xs k = .int .i64 (q : Nat) := by rw [← Hq.out]; rfl
          rw [e1] at h1; exact ⟨h1, Jck.out, JS.out.gv⟩
        generalize w3.setCell ⟨gl, k, none⟩ (.int .i64 (q : Nat)) = w4 at R3 ⊢
        clear R2 hu3 hf3
        obtain ⟨bl, off, ra, rcap, hbb, han⟩ := Han.out _ R3.out.lp.bel
        subst hbb
        go_wp2
        go_roundw
        case rel => exact ⟨k + 1, va', vc', L', by omega, by go_num, by rw [Hm2.out], by rw [Hf3.out], by rw [Hh3.out], by rw [Hl3.out], by rw [Hs1.out]; go_num, by rw [Hm2.out]; exact R3.out⟩
        case measure => simp [intOf]; omega
    · obtain rfl : k = n := by omega
      as_aux_lemma =>
      have JN : Hid (∀ wz, Stand w wz (.slice va L.length vc) G L Gs gc go gl k s xs k → ∀ j, j < k → Name w wz (.slice va L.length vc) gc go gl a b m L.length j (rc s xs j) (ro s xs j) (an xs j).1.length ∧ Reads wz (.slice va L.length vc) L.length b j (rc s xs j) (ro s xs j) (an xs j).1.length (32768 < (an xs j).1.length)) := fun wz hS j hj => by
        have h1 := hS
        rw [← Hs.out, ← Hxs.out] at h1 ⊢
        exact ⟨h1.name JT.out (by omega) (by omega) hj, h1.backs JT.out (by omega) (by omega) hj⟩
      have JR : Hid (∀ wz, Stand w wz (.slice va L.length vc) G L Gs gc go gl k s xs k → ∀ j, j < m → Reads wz (.slice va L.length vc) L.length a j j 0 (R0.getD j noArg).bytes.length False) := fun wz hS j hj => by
        have h1 := hS
        rw [← Hs.out, ← Hxs.out] at h1
        exact h1.olds JT.out (by omega) (by omega) hj
      have Jlen : Hid (m ≤ L.length ∧ L.length ≤ 90000) := by
        have h1 := len_le JO.out Jle.out (i := k) (by rw [Jl.out]; exact Nat.le_refl _)
        have h2 := (stAt_gr JO.out Jle.out (i := 0) (j := k) (by omega) (by rw [Jl.out]; exact Nat.le_refl _)).1
        rw [stAt_zero, Jm.out] at h2
        rw [Jm.out] at h1
        rw [← JS.out.ck, List.length_map] at h1 h2
        exact ⟨h2, by omega⟩
      obtain ⟨fz, Hfz⟩ : ∃ q, Hid ((stAt s xs k).f = q) := ⟨_, rfl⟩
      obtain ⟨hz, Hhz⟩ : ∃ q, Hid ((stAt s xs k).h = q) := ⟨_, rfl⟩
      obtain ⟨sm, Hsm⟩ : ∃ q, Hid (lensTo xs k = q) := ⟨_, rfl⟩
      have Hlz : Hid ((stAt s xs k).l = wrap64 (l + (sm : Int))) := by
        have h1 := (counts JO.out Jle.out (by rw [Jfh.out.2.1]; exact Jwh.out) (by rw [Jfh.out.2.2]; exact Jwl.out) (i := k) (by rw [Jl.out]; exact Nat.le_refl _)).2.2.2
        rw [Jfh.out.2.2, Hsm.out] at h1
        exact h1
      rw [Hfz.out, Hhz.out, Hlz.out, Hsm.out]
      obtain ⟨m1, Hm1⟩ : ∃ q, Hid (L.length = q) := ⟨_, rfl⟩
      rw [Hm1.out] at JN JR JS ⊢
      have bm1 := Jlen.out
      rw [Hm1.out] at bm1
      obtain ⟨bm0, bm1⟩ := bm1
      clear hlt hk
      go_wp2
      have e0 : decide (m1 < m) = false := decide_eq_false (by omega)
      rw [e0]
      go_loopw [26] (fun i wz => ∃ j : Nat, j ≤ m ∧ i = .int .i64 j ∧ Stand w wz (.slice va m1 vc) G L Gs gc go gl k s xs k) (fun i _ => m - (intOf i).toNat)
      case atStart => exact ⟨0, Nat.zero_le _, rfl, JS.out⟩
      case round =>
        clear JS
        obtain ⟨j, hj, rfl, hS⟩ := hrel
        have JS := hid hS
        clear hS
        by_cases hlt : j < m
        · as_aux_lemma =>
          obtain ⟨⟨gV, cap, pa, pl, pc, bl, off, ra, rcap, hV, hch, h1, h2, hab, han, hsame, _⟩, h3⟩ := JR.out _ JS.out j hlt
          cases hV
          subst hab
          obtain ⟨q, Hq⟩ : ∃ q, Hid ((R0.getD j noArg).bytes.length = q) := ⟨_, rfl⟩
          rw [Hq.out] at h1 han hsame
          have Jsame := hid hsame
          clear hsame
          go_wp2
          go_loopw [29] (fun i wz => ∃ t : Nat, t ≤ q ∧ i = .int .i64 t ∧ Stand w wz (.slice (some ⟨gV, 0, none⟩) m1 vc) G L Gs gc go gl k s xs k ∧ Hid (0 < q → ∃ g b p, pa = some ⟨g, 0, none⟩ ∧ ra = some ⟨b, p, none⟩ ∧ Same wz g 0 b p q)) (fun i _ => q - (intOf i).toNat)
          case atStart => exact ⟨0, Nat.zero_le _, rfl, JS.out, Jsame⟩
          case round =>
            clear JS hch han Jsame
            obtain ⟨t, ht, rfl, hS, Jsame⟩ := hrel
            have JS := hid hS
            clear hS
            by_cases htq : t < q
            · obtain ⟨g, b', p, hpa, hra, hsm⟩ := Jsame.out (by omega)
              obtain ⟨x, x1, x2⟩ := hsm t htq
              rw [Nat.zero_add] at x1
              subst hpa hra
              have Jsm2 := hid hsm
              clear hsm Jsame
              go_upto_region 46 with fail
              go_quiet (fail)
              go_wp2
              go_roundw
              case rel => exact ⟨t + 1, by omega, by go_num, JS.out.drewN _, fun _ => ⟨_, _, _, rfl, rfl, Jsm2.out.drewN _⟩⟩
              case measure => simp [intOf]; omega
            · go_wp2
              go_roundw
              case rel => exact ⟨j + 1, by omega, by go_num, JS.out⟩
              case measure => simp [intOf]; omega
        · go_wp2
          go_loopw [30] (fun i wz => ∃ j : Nat, j ≤ k ∧ i = .int .i64 j ∧ Stand w wz (.slice va m1 vc) G L Gs gc go gl k s xs k) (fun i _ => k - (intOf i).toNat)
          case atStart => exact ⟨0, Nat.zero_le _, rfl, JS.out⟩
          case round =>
            clear JS
            obtain ⟨j, hj, rfl, hS⟩ := hrel
            have JS := hid hS
            clear hS
            by_cases hlt : j < k
            · as_aux_lemma =>
              obtain ⟨⟨hc, ho, hl, _, _, _, _⟩, ⟨gV, cap, pa, pl, pc, bl, off, ra, rcap, hV, hch, h1, h2, hab, han, hsame, hbg⟩, h3⟩ := JN.out _ JS.out j hlt
              cases hV
              subst hab
              obtain ⟨c, Hc⟩ : ∃ q, Hid (rc s xs j = q) := ⟨_, rfl⟩
              obtain ⟨o, Ho⟩ : ∃ q, Hid (ro s xs j = q) := ⟨_, rfl⟩
              obtain ⟨q, Hq⟩ : ∃ q, Hid ((an xs j).1.length = q) := ⟨_, rfl⟩
              rw [Hc.out] at hc hch h3
              rw [Ho.out] at ho h1 hsame hbg
              rw [Hq.out] at hl han h1 hsame hbg
              have J10 : Hid (∀ z, Calls Try.prog 10 #[.slice (some ⟨gV, 0, none⟩) m1 vc, .int .u32 (c : Nat), .int .u32 (o : Nat), .int .i64 (q : Nat), .slice ra q rcap] (wr.drewN z) fun e w' => e = .returned (.bool true) ∧ ∃ y, w' = (wr.drewN z).drewN y) := fun z =>
                (back10 (wr.drewN z) gV m1 vc c o q pl pc rcap pa ra h3 bm1 hch h1 h2 (fun h0 => by
                  obtain ⟨g, b', p, e1, e2, e3⟩ := hsame h0
                  exact ⟨g, b', p, e1, e2, e3.drewN z⟩)).mono fun e w' h => h
              clear hsame
              by_cases hbig : 32768 < q
              · obtain ⟨ho0, hpl⟩ := hbg hbig
                have Ho0 := hid ho0; have Hpl := hid hpl
                clear hbg ho0 hpl
                go_upto_region 51 with fail
                go_quiet (first | (go_at_call 10; exact Calls.quiet_of (J10.out _)))
                clear J10
                have e1 := Ho0.out
                have e2 := Hpl.out
                subst e1 e2
                go_upto_region 54 with fail
                go_quiet (fail)
                go_wp2
                go_roundw
                case rel => exact ⟨j + 1, by omega, by go_num, JS.out.drewN _⟩
                case measure => simp [intOf]; omega
              · clear hbg
                go_upto_region 51 with fail
                go_quiet (first | (go_at_call 10; exact Calls.quiet_of (J10.out _)))
                go_wp2
                go_roundw
                case rel => exact ⟨j + 1, by omega, by go_num, JS.out.drewN _⟩
                case measure => simp [intOf]; omega
            · go_wp2
              go_ret
              exact ⟨rfl, JS.out.lp.bel⟩

end Go.Proofs.Qxb6617183a.Ar
