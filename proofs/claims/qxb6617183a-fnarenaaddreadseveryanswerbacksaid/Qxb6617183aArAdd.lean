/-
  THE WALK OF 'add'.
-/
import Derived.Test.Qxb6617183aArAdd0
import Derived.Deep.DeepCutAuto
import Derived.Deep.RegionHeldLaw
import Derived.Deep.RegionLaw
namespace Go.Proofs.Qxb6617183a.Ar
open Go.RowKit

/-- Which blocks 'add' may turn: the arena's, the list's, the chunks'. -/
def May (bA : Nat) (V : Value) (L : Cs) (k : Nat) : Prop := k = bA ∨ V.ownBlock = some k ∨ ∃ p ∈ L, p.1.ownBlock = some k

/-- What 'add' leaves. -/
def Added (w : World) (B bA : Nat) (V : Value) (f h l : Int) (L Rr : Cs) (a : List Int × Nat) (e : Ending) (w' : World) : Prop :=
  ∃ V' L', e = .returned (.agg #[.int .u32 (refC ⟨L.map (·.2), f, h, l⟩ a : Nat), .int .u32 (refO ⟨L.map (·.2), f, h, l⟩ a : Nat), .int .i64 (a.1.length : Nat)]) ∧
    w'.heap[bA]? = some (.cells #[V', .int .i64 (add ⟨L.map (·.2), f, h, l⟩ a).f, .int .i64 (add ⟨L.map (·.2), f, h, l⟩ a).h, .int .i64 (add ⟨L.map (·.2), f, h, l⟩ a).l] 40 (0, 0)) ∧
    w'.ownsRow B 31 1 V' L'.length (L'.map (·.1)) ∧ L'.map (·.2) = (add ⟨L.map (·.2), f, h, l⟩ a).ck ∧ Rows w' B (L' ++ Rr) ∧ Chg w w' (May bA V L) ∧
    (V'.ownBlock = V.ownBlock ∨ ∀ k, V'.ownBlock = some k → w.heap.size ≤ k)

theorem store_keep {w2 : World} {bA gV f1 : Nat} {x y u : Value} (hne : bA ≠ gV) (h0 : w2.cell? ⟨bA, 0, none⟩ = some x) (h1 : w2.cell? ⟨bA, 1, none⟩ = some y) :
    (w2.setCell ⟨gV, f1, none⟩ u).cell? ⟨bA, 0, none⟩ = some x ∧ (w2.setCell ⟨gV, f1, none⟩ u).cell? ⟨bA, 1, none⟩ = some y :=
  ⟨(World.cell?_of_block (Below.heap_setCell _ _ _ _ hne)).trans h0, (World.cell?_of_block (Below.heap_setCell _ _ _ _ hne)).trans h1⟩

/-- There is room in the chunk that is filled: it is the old one, or one just made. -/
def Ready (w w3 : World) (B bA : Nat) (V : Value) (f h l : Int) (L Rr : Cs) (g : Value) (A : List Int) (ca n : Nat) : Prop :=
  ∃ (V1 : Value) (f1 : Nat) (h1 : Int) (L1 : Cs), AS w w3 B bA w.heap.size V V1 (f1 : Int) h1 (wrap64 (l + (n : Nat))) L1 ((g, (A, ca)) :: Rr) (May bA V L) ∧ f1 < L1.length ∧ L1.length ≤ 100001 ∧
    (L1.getD f1 (nilV, ([], 0))).2.1.length + n ≤ (L1.getD f1 (nilV, ([], 0))).2.2 ∧ (∀ p ∈ L1, p.2.2 ≤ 1048576) ∧ (∀ p ∈ L1, ∀ k, k < w.heap.size → p.1.ownBlock = some k → May bA V L k) ∧
    (L1.map (·.2)).set f1 ((L1.getD f1 (nilV, ([], 0))).2.1 ++ A, (L1.getD f1 (nilV, ([], 0))).2.2) = (add ⟨L.map (·.2), f, h, l⟩ (A, ca)).ck ∧ (f1 : Int) = (add ⟨L.map (·.2), f, h, l⟩ (A, ca)).f ∧
    h1 = (add ⟨L.map (·.2), f, h, l⟩ (A, ca)).h ∧ f1 = refC ⟨L.map (·.2), f, h, l⟩ (A, ca) ∧ (L1.getD f1 (nilV, ([], 0))).2.1.length = refO ⟨L.map (·.2), f, h, l⟩ (A, ca) ∧
    wrap64 (l + (n : Nat)) = (add ⟨L.map (·.2), f, h, l⟩ (A, ca)).l

theorem ready_old {w w3 : World} {B bA : Nat} {V : Value} {f h l : Int} {L Rr : Cs} {g : Value} {A : List Int} {ca n : Nat} (s : AS w w3 B bA w.heap.size V V f h (wrap64 (l + (n : Nat))) L ((g, (A, ca)) :: Rr) (May bA V L))
    (hn : A.length = n) (hbig : ¬ 32768 < n) (hw : wants ⟨L.map (·.2), f, h, l⟩ (A, ca) = false) (hf1 : -1 ≤ f) (hf2 : f < (L.length : Int)) (bL : L.length ≤ 100000) (bc : ∀ p ∈ L, p.2.2 ≤ 1048576) : Ready w w3 B bA V f h l L Rr g A ca n := by
  subst hn
  have hf0 : ¬ f < 0 := fun h0 => by unfold wants at hw; rw [decide_eq_true h0] at hw; simp at hw
  obtain ⟨i, rfl⟩ : ∃ i : Nat, f = i := ⟨f.toNat, by omega⟩
  have hiL : i < L.length := by omega
  obtain ⟨e1, e2, e3⟩ := add_old (s := ⟨L.map (·.2), (i : Int), h, l⟩) (a := (A, ca)) hbig hw
  have hcu := cur_at L (i : Int) h l i rfl hiL
  have hfit : (cur ⟨L.map (·.2), (i : Int), h, l⟩).1.length + A.length ≤ (cur ⟨L.map (·.2), (i : Int), h, l⟩).2 := by
    unfold wants at hw
    simp at hw
    omega
  rw [hcu] at hfit e1 e3
  refine ⟨V, i, h, L, s, hiL, by omega, hfit, bc, fun p hp k _ hk => .inr (.inr ⟨p, hp, hk⟩), ?_, ?_, ?_, ?_, ?_, ?_⟩
  · rw [e1]; simp
  · rw [e1]
  · rw [e1]
  · rw [e2]; simp
  · rw [e3]
  · rw [e1]

theorem ready_new {w w3 : World} {B bA : Nat} {V V1 : Value} {f h l : Int} {L Rr : Cs} {g : Value} {A : List Int} {ca n : Nat} {nv : Value}
    (s : AS w w3 B bA w.heap.size V V1 (L.length : Int) (wrap64 (h + (szOf h n : Int))) (wrap64 (l + (n : Nat))) (L ++ [(nv, ([], szOf h n))]) ((g, (A, ca)) :: Rr) (May bA V L))
    (hnv : ∀ k, nv.ownBlock = some k → w.heap.size ≤ k) (hn : A.length = n) (hbig : ¬ 32768 < n) (hw : wants ⟨L.map (·.2), f, h, l⟩ (A, ca) = true) (bL : L.length ≤ 100000) (bc : ∀ p ∈ L, p.2.2 ≤ 1048576) : Ready w w3 B bA V f h l L Rr g A ca n := by
  subst hn
  obtain ⟨e1, e2, e3⟩ := add_new (s := ⟨L.map (·.2), f, h, l⟩) (a := (A, ca)) hbig hw
  simp only [] at e1 e2 e3
  have hz := szOf_bd h A.length (by omega)
  have eg : (L ++ [(nv, (([] : List Int), szOf h A.length))]).getD L.length (nilV, ([], 0)) = (nv, ([], szOf h A.length)) := by simp [List.getD]
  refine ⟨V1, L.length, _, _, s, by simp, by simp; omega, ?_, ?_, ?_, ?_, ?_, ?_, ?_, ?_, ?_⟩
  · rw [eg]; simp; omega
  · intro p hp
    rcases List.mem_append.1 hp with h1 | h1
    · exact bc p h1
    · rw [List.mem_singleton.1 h1]; simp only []; omega
  · intro p hp k hk hb
    rcases List.mem_append.1 hp with h1 | h1
    · exact .inr (.inr ⟨p, h1, hb⟩)
    · rw [List.mem_singleton.1 h1] at hb
      have := hnv k hb; omega
  · rw [e1, eg]; simp
  · rw [e1]; simp
  · rw [e1]
  · rw [e2]; simp
  · rw [eg, e3]; rfl
  · rw [e1]

set_option maxRecDepth 100000 in
set_option maxHeartbeats 4000000 in
theorem add_any (w : World) (B bA : Nat) (V : Value) (f h l : Int) (L Rr : Cs) (g : Value) (a : List Int × Nat)
    (hrow : w.heap[bA]? = some (.cells #[V, .int .i64 f, .int .i64 h, .int .i64 l] 40 (0, 0)))
    (hown : w.ownsRow B 31 1 V L.length (L.map (·.1))) (hR : Rows w B (L ++ (g, a) :: Rr)) (hBw : B ≤ w.heap.size)
    (hf1 : -1 ≤ f) (hf2 : f < (L.length : Int)) (bL : L.length ≤ 100000) (ba : a.2 ≤ 1048576) (bc : ∀ p ∈ L, p.2.2 ≤ 1048576) :
    Calls Try.prog 16 #[.pointer (some ⟨bA, 0, none⟩), g] w fun e w' => Added w B bA V f h l L Rr a e w' := by
  obtain ⟨i0, hi, hz0, hz1, hz2⟩ := info_parts info31
  have hbA : bA < w.heap.size := (Array.getElem?_eq_some_iff.1 hrow).1
  have hgo : OwnC w B g a := hR.1 (g, a) (List.mem_append.2 (.inr (List.mem_cons.2 (.inl rfl))))
  obtain ⟨ga, hgv, hgle, hgm, hgn, hgx⟩ := hgo.form
  clear hgm hgx
  have hA0 : AS w (w.alloc (.cells #[.int .u32 0, .int .u32 0, .int .i64 0] 42)) B bA w.heap.size V V f h l L ((g, a) :: Rr) (May bA V L) := by
    have hc : Chg w (w.alloc (.cells #[.int .u32 0, .int .u32 0, .int .i64 0] 42)) (fun _ => False) := (Chg.refl _ _).alloc _
    exact ⟨hc.row id hrow, heap_alloc_new w _, own_chg hown hc (fun _ _ => id), hR.chg hc (fun _ _ _ _ => id), hc.mono (fun _ _ h => h.elim), .inl rfl, .inl rfl, fun k hk => .inr (.inl hk), Nat.le_refl _, hBw⟩
  have c3 : w.cell? ⟨bA, 3, none⟩ = some (.int .i64 l) := by rw [cell_of_row w _ 3 _ _ _ hrow]; rfl
  have f3 : w.frozen? ⟨bA, 3, none⟩ = false := frozen_of_row w _ 3 _ _ hrow
  have JA0 := hid hA0; have JR := hid hR; have Jgn := hid hgn; have Jgv := hid hgv; have Jbc := hid bc
  clear hA0 hR hgn hgo hrow hown bc
  obtain ⟨A, ca⟩ := a
  simp only [] at ba hgle
  rw [hgv]
  clear hgv
  obtain ⟨n, hn⟩ : ∃ n, A.length = n := ⟨_, rfl⟩
  have HN := hid hn
  show Calls Try.prog 16 #[.pointer (some ⟨bA, 0, none⟩), .slice ga A.length ca] w _
  rw [hn] at hgle ⊢
  clear hn
  go_enter Try.func16, Try.ntmps16
  go_upto_region 1 with fail
  go_cut [] (fun w1 => AS w w1 B bA w.heap.size V V f h (wrap64 (l + (n : Nat))) L ((g, (A, ca)) :: Rr) (May bA V L))
  case first => as_aux_lemma =>
    go_wp2
    go_meet
    case rel => exact (by have h1 := JA0.out.setL (wrap64 (l + (n : Nat))); rw [World.setCell_alloc_past _ _ _ _ hbA] at h1; exact h1)
  case rest =>
    have JA := hid hcut
    clear hcut JA0 c3 f3
    by_cases hbig : 32768 < n
    · as_aux_lemma =>
      have c0 := JA.out.c0
      have c2 := JA.out.c2
      have f0 := JA.out.fr 0
      have f2 := JA.out.fr 2
      have hge : g = .slice ga n ca := by rw [Jgv.out, ← HN.out]
      go_wp2_with (at_builtin; refine wpList_append_lies _ rfl (.tmp 24) (.tmp 26) 22 rfl B 31 i0 (.slice none 0 0) 1 24 Try.underlying22 hi hz0 hz1 hz2 rfl (by decide) V L.length (L.map (·.1)) rfl (JA.out.alloc _).own ⟨wc.heap.size, 0, none⟩ 1 1 [.slice ga n ca] rfl rfl (cell_one_new _ _ _) (one_slice _ _ _) (by decide) (by unfold maxLen; omega) (by omega) (JA.out.alloc _).base _ rfl ?_)
      intro gV cap w2 hown hgrow hat hlt
      have hcells := (JA.out.alloc _).grownCells hgrow
      have R : Hid (AS w (w2.setCell ⟨bA, 0, none⟩ (.slice (some ⟨gV, 0, none⟩) (L.length + 1) cap)) B bA w.heap.size V (.slice (some ⟨gV, 0, none⟩) (L.length + 1) cap) f h (wrap64 (l + (n : Nat))) (L ++ [(g, (A, ca))]) Rr (May bA V L)) := by
        have s1 := JA.out.alloc (.cells #[.slice ga n ca] 31)
        refine (s1.less (List.sublist_cons_self _ _)).push s1.rows ?_ hgrow ?_
        · rw [hge]; exact hown
        · rcases hat with e | e
          · exact .inl e
          · right; rw [e]; simp
      clear hown hgrow hat hlt c0 c2 f0 f2
      obtain ⟨hw0, hw1⟩ := hcells
      go_upto_region 4 with fail
      generalize w2.setCell ⟨bA, 0, none⟩ (.slice (some ⟨gV, 0, none⟩) (L.length + 1) cap) = w3 at R ⊢
      clear hw0 hw1
      have c0 := R.out.c0
      have c2 := R.out.c2
      have f2 := R.out.fr 2
      have R2 := hid (R.out.setH (wrap64 (h + (ca : Nat))))
      go_upto_region 5 with fail
      generalize w3.setCell ⟨bA, 2, none⟩ (.int .i64 (wrap64 (h + (ca : Nat)))) = w4 at R2 ⊢
      clear c0 c2 f2 R
      have c0 := R2.out.c0
      obtain ⟨t0, t1, t2, tf⟩ := R2.out.t
      have tf0 := tf 0
      have tf1 := tf 1
      have tf2 := tf 2
      clear tf
      go_wp2
      obtain ⟨d1, d2, d3, d4, d5⟩ := R2.out.done (.int .u32 (L.length : Nat)) (.int .u32 0) (.int .i64 (n : Nat))
      clear t0 t1 t2 tf0 tf1 tf2 c0
      have far := R2.out.far
      generalize ((w4.setCell ⟨w.heap.size, 0, none⟩ (.int .u32 (L.length : Nat))).setCell ⟨w.heap.size, 1, none⟩ (.int .u32 0)).setCell ⟨w.heap.size, 2, none⟩ (.int .i64 (n : Nat)) = wf at d1 d2 d3 d4 d5 ⊢
      have q0 : wf.cell? ⟨w.heap.size, 0, none⟩ = some (.int .u32 (L.length : Nat)) := by rw [cell_of_row wf _ 0 _ _ _ d1]; rfl
      have q1 : wf.cell? ⟨w.heap.size, 1, none⟩ = some (.int .u32 0) := by rw [cell_of_row wf _ 1 _ _ _ d1]; rfl
      have q2 : wf.cell? ⟨w.heap.size, 2, none⟩ = some (.int .i64 (n : Nat)) := by rw [cell_of_row wf _ 2 _ _ _ d1]; rfl
      obtain ⟨e1, e2, e3⟩ := add_big (s := ⟨L.map (·.2), f, h, l⟩) (a := (A, ca)) (by rw [HN.out]; exact hbig)
      refine bodyPost_ret (v := .agg #[.int .u32 (L.length : Nat), .int .u32 0, .int .i64 (n : Nat)]) (by simp [results, Try.results16, go_sem, q0, q1, q2]) rfl ⟨_, L ++ [(g, (A, ca))], ?_, ?_, by simpa using d3, ?_, d4, d5, far⟩
      · rw [e2, e3, HN.out]; simp
      · rw [d2, e1, HN.out]
      · rw [e1]; simp
    · go_upto_region 6 with fail
      obtain ⟨wt, Hwt⟩ : ∃ q, Hid (q = wants ⟨L.map (·.2), f, h, l⟩ (A, ca)) := ⟨_, rfl⟩
      go_cut [81] (fun q w3 => q = .bool wt ∧ AS w w3 B bA w.heap.size V V f h (wrap64 (l + (n : Nat))) L ((g, (A, ca)) :: Rr) (May bA V L))
      case first => as_aux_lemma =>
        rename_i J K' hJ hK'
        have c0 := JA.out.c0
        have c1 := JA.out.c1
        by_cases hfn : f < 0
        · obtain rfl : wt = true := by rw [Hwt.out]; unfold wants; rw [decide_eq_true hfn]; rfl
          have hd : decide (f < 0) = true := decide_eq_true hfn
          go_quiet (fail)
          refine hK' _ _ ?_
          go_meet
          case rel => exact ⟨rfl, JA.out.drewN _⟩
        · have hd : decide (f < 0) = false := decide_eq_false hfn
          obtain ⟨i, rfl⟩ : ∃ i : Nat, f = i := ⟨f.toNat, by omega⟩
          have hiL : i < L.length := by omega
          obtain ⟨gV, cap, hV, hcell, _, hoc, hmem⟩ := JA.out.chunk i hiL
          have hcu := cur_at L (i : Int) h l i rfl hiL
          have hb1 := Jbc.out _ hmem
          generalize L.getD i (nilV, ([], 0)) = p at hcell hoc hcu hmem hb1
          obtain ⟨pv, pb, pc⟩ := p
          obtain ⟨fo, hpv, hple, _, _, _⟩ := hoc.form
          simp only [] at hpv hple hcell hb1 hcu
          obtain ⟨fn, hfn'⟩ : ∃ q, pb.length = q := ⟨_, rfl⟩
          have hwt : wt = decide (pc < fn + n) := by
            rw [Hwt.out]; unfold wants; rw [hcu]; simp only []; rw [hfn', HN.out, decide_eq_false hfn, Bool.false_or]
          rw [hpv, hfn'] at hcell
          rw [hfn'] at hple
          have HV := hid hV
          rw [hV] at c0
          clear hV hoc hpv hcu hfn' hmem
          by_cases hfit : pc < fn + n
          · obtain rfl : wt = true := by rw [hwt]; exact decide_eq_true hfit
            clear hwt
            go_quiet (fail)
            refine hK' _ _ ?_
            go_meet
            case rel => exact ⟨by first | rfl | (congr 1; simp; omega), JA.out.drewN _⟩
          · obtain rfl : wt = false := by rw [hwt]; exact decide_eq_false hfit
            clear hwt
            go_quiet (fail)
            refine hK' _ _ ?_
            go_meet
            case rel => exact ⟨by first | rfl | (congr 1; simp; omega), JA.out.drewN _⟩
      case rest =>
        obtain ⟨rfl, hA1⟩ := hcut
        clear JA
        have JA := hid hA1
        clear hA1
        go_upto_if 81 with fail
        go_cut [] (fun w3 => Ready w w3 B bA V f h l L Rr g A ca n)
        case first => as_aux_lemma =>
          cases wt
          · have R := hid (ready_old JA.out HN.out hbig Hwt.out.symm hf1 hf2 bL Jbc.out)
            go_wp2
            go_meet
            case rel => exact R.out
          · have c0 := JA.out.c0
            have c1 := JA.out.c1
            have c2 := JA.out.c2
            go_upto_region 7 with fail
            obtain ⟨sz, Hsz⟩ : ∃ z, Hid (z = szOf h n) := ⟨_, rfl⟩
            have hzb := szOf_bd h n (by omega)
            rw [← Hsz.out] at hzb
            obtain ⟨z1, z2, z3⟩ := hzb
            go_cut [5] (fun q w3 => q = .int .i64 (sz : Nat) ∧ wc = w3)
            case first =>
              rcases (show (h < 1024 ∧ ¬ (1024 : Int) < (n : Int)) ∨ (h < 1024 ∧ (1024 : Int) < (n : Int)) ∨ (¬ h < 1024 ∧ h < (n : Int)) ∨ (¬ h < 1024 ∧ ¬ h < (n : Int) ∧ 65536 < h) ∨ (¬ h < 1024 ∧ ¬ h < (n : Int) ∧ ¬ 65536 < h) from by omega) with ⟨k1, k2⟩ | ⟨k1, k2⟩ | ⟨k1, k2⟩ | ⟨k1, k2, k3⟩ | ⟨k1, k2, k3⟩
              all_goals
                go_wp2
                go_meet
                case rel => exact ⟨by rw [Hsz.out]; exact congrArg (Value.int .i64) (by unfold szOf; omega), rfl⟩
            case rest =>
              obtain ⟨rfl, rfl⟩ := hcut
              obtain ⟨i5, h5, y0, y1, y2⟩ := info_parts info5
              obtain ⟨row, hrow, hmk⟩ : ∃ row : Array Value, row.size = sz ∧ ∀ wx, (Instr.makeSlice 31 (.int .i64 0) (.int .i64 (sz : Int))).run Try.prog wx = .ok (.slice (some ⟨wx.heap.size, 0, none⟩) 0 sz) (wx.alloc (.cells row 5)) := by
                refine ⟨madeCells (Value.int .u8 0).cells (sz * i5.size), by rw [size_madeCells, y1]; omega, fun wx => ?_⟩
                have := run_make (P := Try.prog) wx 31 5 i5 (.int .u8 0) Try.underlying31 h5 y0 .i64 .i64 0 (sz : Int) (by omega) (by omega) (by rw [y2]; omega) (by omega)
                simpa using this
              have hbw : bA < wc.heap.size := (Array.getElem?_eq_some_iff.1 JA.out.row).1
              have f0 := JA.out.fr 0
              go_upto_region 8 with fail
              have J1 : Hid (AS w ((wc.alloc (.cells row 5)).alloc (.cells #[.slice (some ⟨wc.heap.size, 0, none⟩) 0 sz] 31)).drew B bA w.heap.size V V f h (wrap64 (l + (n : Nat))) L ((g, (A, ca)) :: Rr) (May bA V L)) := ((JA.out.alloc _).alloc _).drew
              have J2 : Hid (∀ j u, [Value.slice (some ⟨wc.heap.size, 0, none⟩) 0 sz][j]? = some u → (((wc.alloc (.cells row 5)).alloc (.cells #[.slice (some ⟨wc.heap.size, 0, none⟩) 0 sz] 31)).drew).cell? ((⟨wc.heap.size + 1, 0, none⟩ : Addr).add j) = some u) := by
                have h2 := cell_one_new (wc.alloc (.cells row 5)) (.slice (some ⟨wc.heap.size, 0, none⟩) 0 sz) 31
                have e2 : (wc.alloc (.cells row 5)).heap.size = wc.heap.size + 1 := by simp
                rw [e2] at h2
                exact h2
              have J3 := hid (JA.out.fresh row sz hrow (by unfold maxLen; omega) (.cells #[.slice (some ⟨wc.heap.size, 0, none⟩) 0 sz] 31))
              go_cut [] (fun w3 => ∃ V1 nv, AS w w3 B bA w.heap.size V V1 f h (wrap64 (l + (n : Nat))) (L ++ [(nv, ([], sz))]) ((g, (A, ca)) :: Rr) (May bA V L) ∧ (∃ a0 c0, V1 = .slice a0 (L.length + 1) c0) ∧ ∀ k, nv.ownBlock = some k → w.heap.size ≤ k)
              case first => as_aux_lemma =>
                rename_i J K'' hJ hK''
                go_region_law (refine step_append_lies _ rfl (.tmp 94) (.tmp 97) 22 rfl B 31 i0 (.slice none 0 0) 1 24 Try.underlying22 hi hz0 hz1 hz2 rfl (by decide) V L.length (L.map (·.1)) rfl J1.out.own ⟨wc.heap.size + 1, 0, none⟩ 1 1 [.slice (some ⟨wc.heap.size, 0, none⟩) 0 sz] rfl rfl J2.out (one_slice _ _ _) (by decide) (by unfold maxLen; omega) (by omega) J1.out.base _ rfl ?_; intro gV cap w2 hown hgrow hat hlt; obtain ⟨hw0, hw1⟩ := J1.out.grownCells hgrow)
                all_goals
                  have R := J1.out.push J3.out hown hgrow hat
                  have hnw : ∀ k, (Value.slice (some ⟨wc.heap.size, 0, none⟩) 0 sz).ownBlock = some k → w.heap.size ≤ k := fun k hk => by
                    have h1 : wc.heap.size = k := by simpa [Value.ownBlock] using hk
                    have h2 := JA.out.chg.size
                    omega
                  refine hK'' _ _ ?_
                  go_meet
                  case rel => exact ⟨_, _, R, ⟨_, _, rfl⟩, hnw⟩
              case rest =>
                clear JA J1 J2 J3 c0 c1 c2 f0 hmk hrow hbw
                obtain ⟨V1, nv, hA2, ⟨va, vc, rfl⟩, hnv⟩ := hcut
                have JA2 := hid hA2; have Jnv := hid hnv
                clear hA2 hnv
                have c0 := JA2.out.c0
                have c1 := JA2.out.c1
                have f1 := JA2.out.fr 1
                have R1 := hid (JA2.out.setF (L.length : Int))
                go_upto_region 10 with fail
                generalize wc.setCell ⟨bA, 1, none⟩ (.int .i64 (L.length : Int)) = w4 at R1 ⊢
                clear c0 c1 f1
                have c2 := R1.out.c2
                have f2 := R1.out.fr 2
                have R2 := hid (R1.out.setH (wrap64 (h + (sz : Int))))
                have R3 : Hid (Ready w (w4.setCell ⟨bA, 2, none⟩ (.int .i64 (wrap64 (h + (sz : Int))))) B bA V f h l L Rr g A ca n) := by
                  have h1 := R2.out
                  rw [Hsz.out] at h1
                  rw [Hsz.out]
                  exact ready_new h1 Jnv.out HN.out hbig Hwt.out.symm bL Jbc.out
                go_wp2
                go_meet
                case rel => exact R3.out
        case rest => as_aux_lemma =>
          obtain ⟨V1, f1, h1, L1, hA1, hfL, bL1, hroom, bc1, hmay, hck, hf', hh', hrc, hro, hl'⟩ := hcut
          obtain ⟨gV, cap, hV, hcell, hfrz, hoc, hmem⟩ := hA1.chunk f1 hfL
          have hpc := bc1 _ hmem
          have hmay1 := hmay _ hmem
          obtain ⟨p, hp⟩ : ∃ p, L1.getD f1 (nilV, ([], 0)) = p := ⟨_, rfl⟩
          rw [hp] at hcell hoc hroom hck hro hpc hmay1
          obtain ⟨pv, pb, pc⟩ := p
          obtain ⟨po, hpv, hple, hpm, hpn, hpx⟩ := hoc.form
          simp only [] at hpv hple hcell hpc hroom hck hro hmay1
          obtain ⟨fn, hfn⟩ : ∃ q, pb.length = q := ⟨_, rfl⟩
          rw [hfn] at hpv hple hroom hro
          subst hpv
          have Hck := hid hck; have Hf := hid hf'; have Hh := hid hh'; have Hrc := hid hrc; have Hro := hid hro; have Hl := hid hl'; have Hp := hid hp; have Hmay := hid hmay1; have Hoc := hid hoc; have Hfn := hid hfn; have HV := hid hV
          have JA1 := hid hA1
          clear hck hf' hh' hrc hro hl' hp hmay hmay1 hoc hfn hA1 hpm hpn hpx hmem bc1
          have hge : Hid (g = .slice ga n ca) := by
            have h1 : g = .slice ga n ca := by rw [Jgv.out, ← HN.out]
            exact h1
          clear hV
          have HV' : V1 = .slice (some ⟨gV, 0, none⟩) L1.length cap := HV.out
          subst HV'
          obtain ⟨m1, Hm1⟩ : ∃ m, Hid (L1.length = m) := ⟨_, rfl⟩
          rw [Hm1.out] at hfL bL1
          have c0 : wc.cell? ⟨bA, 0, none⟩ = some (.slice (some ⟨gV, 0, none⟩) m1 cap) := by have h1 := JA1.out.c0; rw [Hm1.out] at h1; exact h1
          have c1 := JA1.out.c1
          go_upto_region 11 with fail
          go_cut [6] (fun q w3 => q = .slice po fn pc ∧ ∃ z, w3 = wc.drewN z)
          case first => as_aux_lemma =>
            rename_i J K' hJ hK'
            go_quiet (fail)
            refine hK' _ _ ?_
            go_meet
            case rel => exact ⟨rfl, _, rfl⟩
          case rest =>
            obtain ⟨rfl, z, rfl⟩ := hcut
            obtain ⟨wd, Hwd⟩ : ∃ wd, Hid (wd = wc.drewN z) := ⟨_, rfl⟩
            rw [← Hwd.out]
            have JA2 : Hid (AS w wd B bA w.heap.size V (.slice (some ⟨gV, 0, none⟩) L1.length cap) (f1 : Int) h1 (wrap64 (l + (n : Nat))) L1 ((g, (A, ca)) :: Rr) (May bA V L)) := by rw [Hwd.out]; exact JA1.out.drewN z
            have hcell2 : wd.cell? ⟨gV, f1, none⟩ = some (.slice po fn pc) := by rw [Hwd.out]; exact hcell
            have hfrz2 : wd.frozen? ⟨gV, f1, none⟩ = false := by rw [Hwd.out]; exact hfrz
            have Hoc2 : Hid (OwnC wd B (.slice po fn pc) (pb, pc)) := by rw [Hwd.out]; exact Hoc.out
            clear hcell hfrz c0 c1 JA1 Hwd Hoc
            have c0 : wd.cell? ⟨bA, 0, none⟩ = some (.slice (some ⟨gV, 0, none⟩) m1 cap) := by have h1 := JA2.out.c0; rw [Hm1.out] at h1; exact h1
            have c1 := JA2.out.c1
            go_upto_region 13 with fail
            obtain ⟨T2, HT2⟩ : ∃ k, Hid (k = wd.heap.size) := ⟨_, rfl⟩
            obtain ⟨we, Hwe⟩ : ∃ we, Hid (we = wd.alloc (.cells #[.int .u32 (f1 : Nat), .int .u32 (fn : Nat), .int .i64 (n : Nat)] 42)) := ⟨_, rfl⟩
            rw [← Hwe.out, ← HT2.out]
            have JA3 : Hid (AS w we B bA w.heap.size V (.slice (some ⟨gV, 0, none⟩) L1.length cap) (f1 : Int) h1 (wrap64 (l + (n : Nat))) L1 ((g, (A, ca)) :: Rr) (May bA V L)) := by rw [Hwe.out]; exact JA2.out.alloc _
            have HT2r : Hid (we.heap[T2]? = some (.cells #[.int .u32 (f1 : Nat), .int .u32 (fn : Nat), .int .i64 (n : Nat)] 42 (0, 0))) := by rw [Hwe.out, HT2.out]; exact heap_alloc_new wd _
            clear hcell2 hfrz2 c0 c1 JA2 Hoc2 Hwe HT2
            have hgm := hid (show (g, (A, ca)) ∈ L1 ++ (g, (A, ca)) :: Rr from List.mem_append.2 (.inr (List.mem_cons.2 (.inl rfl))))
            have Hoc3 : Hid (OwnC we B (.slice po fn pc) (pb, pc)) := by
              have h1 := JA3.out.rows.1 (L1.getD f1 (nilV, ([], 0))) (by
                have e : L1.getD f1 (nilV, ([], 0)) = L1[f1]'(by rw [Hm1.out]; exact hfL) := by simp [List.getD, show f1 < L1.length by rw [Hm1.out]; exact hfL]
                rw [e]; exact List.mem_append.2 (.inl (List.getElem_mem _)))
              rw [Hp.out] at h1; exact h1
            have Hgo : Hid (OwnC we B (.slice ga n ca) (A, ca)) := by
              have h1 := JA3.out.rows.1 _ hgm.out
              simp only [] at h1
              rw [hge.out] at h1; exact h1
            have c0 : we.cell? ⟨bA, 0, none⟩ = some (.slice (some ⟨gV, 0, none⟩) m1 cap) := by have h1 := JA3.out.c0; rw [Hm1.out] at h1; exact h1
            have c1 := JA3.out.c1
            go_cut [] (fun w3 => AS w w3 B bA w.heap.size V (.slice (some ⟨gV, 0, none⟩) L1.length cap) (f1 : Int) h1 (wrap64 (l + (n : Nat))) (L1.set f1 (.slice po (fn + n) pc, (pb ++ A, pc))) Rr (May bA V L) ∧ w3.heap[T2]? = some (.cells #[.int .u32 (f1 : Nat), .int .u32 (fn : Nat), .int .i64 (n : Nat)] 42 (0, 0)))
            case first => as_aux_lemma =>
              rename_i J K' hJ hK'
              have hcl : Hid (∀ w2, we.drew.grownBy w2 (Value.slice po fn pc).ownBlock → w2.cell? ⟨bA, 0, none⟩ = some (.slice (some ⟨gV, 0, none⟩) m1 cap) ∧ w2.cell? ⟨bA, 1, none⟩ = some (.int .i64 (f1 : Int)) ∧ w2.cell? ⟨gV, f1, none⟩ = some (.slice po fn pc) ∧ w2.frozen? ⟨gV, f1, none⟩ = false ∧
                  w2.heap[T2]? = some (.cells #[.int .u32 (f1 : Nat), .int .u32 (fn : Nat), .int .i64 (n : Nat)] 42 (0, 0)) ∧ bA ≠ gV) := fun w2 hg2 => by
                have h1 := JA3.out.drew.fillCells (w2 := w2) (i := f1) rfl (by rw [Hm1.out]; exact hfL) (by rw [Hp.out]; exact hg2)
                rw [Hp.out, Hm1.out] at h1
                exact ⟨h1.1, h1.2.1, h1.2.2.1, h1.2.2.2.1, h1.2.2.2.2.1 T2 _ 42 HT2r.out (by decide), h1.2.2.2.2.2⟩
              go_region_held_law (fun w' => w'.cell? ⟨bA, 0, none⟩ = some (.slice (some ⟨gV, 0, none⟩) m1 cap) ∧ w'.cell? ⟨bA, 1, none⟩ = some (.int .i64 (f1 : Int))) (first | go_keep | exact store_keep q5 q0 q1)
                ((refine step_fill rfl (.tmp 147) (.tmp 148) rfl B po ga pb A fn n pc ca Hfn.out HN.out rfl rfl Hoc3.out Hgo.out hroom ?_; intro w2 hoc2 hg2; obtain ⟨q0, q1, q2, q3, q4, q5⟩ := hcl.out w2 hg2))
              have hS : ∀ k, k < w.heap.size → (Value.slice po (fn + n) pc).ownBlock = some k → May bA V L k := fun k hk hb => Hmay.out k hk (by rcases po with _ | x <;> exact hb)
              have hbb : (Value.slice po (fn + n) pc).ownBlock = (L1.getD f1 (nilV, ([], 0))).1.ownBlock := by rw [Hp.out]; rcases po with _ | x <;> rfl
              have R := (JA3.out.drew.fill (w2 := w2) (i := f1) rfl (by rw [Hm1.out]; exact hfL) hoc2 hbb (by rw [Hp.out]; exact hg2) hS).less (List.sublist_cons_self _ _)
              have hgne : T2 ≠ gV := fun e => by
                obtain ⟨c2, hc2⟩ := own_block JA3.out.own (g := gV) rfl
                rw [← e, HT2r.out] at hc2; simp at hc2
              refine hK' _ _ ?_
              go_meet
              case rel => exact ⟨R, by rw [Below.heap_setCell _ _ _ _ hgne]; exact q4⟩
            case rest =>
              obtain ⟨hA4, hT4⟩ := hcut
              have JA4 := hid hA4; have JT4 := hid hT4
              have e0 : wc.cell? ⟨T2, 0, none⟩ = some (.int .u32 (f1 : Nat)) := by rw [cell_of_row wc _ 0 _ _ _ hT4]; rfl
              have e1 : wc.cell? ⟨T2, 1, none⟩ = some (.int .u32 (fn : Nat)) := by rw [cell_of_row wc _ 1 _ _ _ hT4]; rfl
              have e2 : wc.cell? ⟨T2, 2, none⟩ = some (.int .i64 (n : Nat)) := by rw [cell_of_row wc _ 2 _ _ _ hT4]; rfl
              clear hA4 hT4 JA3 c0 c1 HT2r
              obtain ⟨t0, t1, t2, tf⟩ := JA4.out.t
              have tf0 := tf 0
              have tf1 := tf 1
              have tf2 := tf 2
              clear tf
              go_wp2
              obtain ⟨d1, d2, d3, d4, d5⟩ := JA4.out.done (.int .u32 (f1 : Nat)) (.int .u32 (fn : Nat)) (.int .i64 (n : Nat))
              clear t0 t1 t2 tf0 tf1 tf2 e0 e1 e2
              have far := JA4.out.far
              generalize ((wc.setCell ⟨w.heap.size, 0, none⟩ (.int .u32 (f1 : Nat))).setCell ⟨w.heap.size, 1, none⟩ (.int .u32 (fn : Nat))).setCell ⟨w.heap.size, 2, none⟩ (.int .i64 (n : Nat)) = wf at d1 d2 d3 d4 d5 ⊢
              have q0 : wf.cell? ⟨w.heap.size, 0, none⟩ = some (.int .u32 (f1 : Nat)) := by rw [cell_of_row wf _ 0 _ _ _ d1]; rfl
              have q1 : wf.cell? ⟨w.heap.size, 1, none⟩ = some (.int .u32 (fn : Nat)) := by rw [cell_of_row wf _ 1 _ _ _ d1]; rfl
              have q2 : wf.cell? ⟨w.heap.size, 2, none⟩ = some (.int .i64 (n : Nat)) := by rw [cell_of_row wf _ 2 _ _ _ d1]; rfl
              refine bodyPost_ret (v := .agg #[.int .u32 (f1 : Nat), .int .u32 (fn : Nat), .int .i64 (n : Nat)]) (by simp [results, Try.results16, go_sem, q0, q1, q2]) rfl ⟨_, L1.set f1 (.slice po (fn + n) pc, (pb ++ A, pc)), ?_, ?_, d3, ?_, d4, d5, far⟩
              · rw [← Hrc.out, ← Hro.out, HN.out]
              · rw [d2, ← Hf.out, ← Hh.out, ← Hl.out]
              · rw [List.map_set]; exact Hck.out

end Go.Proofs.Qxb6617183a.Ar
