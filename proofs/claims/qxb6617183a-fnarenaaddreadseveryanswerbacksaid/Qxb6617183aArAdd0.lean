/-
  'add' SAID PLAINLY, AND THE ARENA IN MEMORY WHILE IT RUNS.
-/
import Derived.Test.Qxb6617183aArClone
import Derived.Deep.AppendLies
namespace Go.Proofs.Qxb6617183a.Ar
open Go.RowKit

/-! ### 'add' said plainly: a chunk is its bytes and its room -/
structure St where
  ck : List (List Int × Nat)
  f : Int
  h : Int
  l : Int
def big (a : List Int × Nat) : Bool := decide (32768 < a.1.length)
/-- The chunk that is being filled. -/
def cur (s : St) : List Int × Nat := s.ck.getD s.f.toNat ([], 0)
def wants (s : St) (a : List Int × Nat) : Bool := decide (s.f < 0) || decide ((cur s).2 < (cur s).1.length + a.1.length)
def szOf (h : Int) (n : Nat) : Nat := (min (max (max h 1024) (n : Int)) 65536).toNat
def add (s : St) (a : List Int × Nat) : St :=
  if big a then ⟨s.ck ++ [a], s.f, wrap64 (s.h + (a.2 : Int)), wrap64 (s.l + (a.1.length : Int))⟩
  else if wants s a then ⟨s.ck ++ [(a.1, szOf s.h a.1.length)], (s.ck.length : Int), wrap64 (s.h + (szOf s.h a.1.length : Int)), wrap64 (s.l + (a.1.length : Int))⟩
  else ⟨s.ck.set s.f.toNat ((cur s).1 ++ a.1, (cur s).2), s.f, s.h, wrap64 (s.l + (a.1.length : Int))⟩
def refC (s : St) (a : List Int × Nat) : Nat := if big a || wants s a then s.ck.length else s.f.toNat
def refO (s : St) (a : List Int × Nat) : Nat := if big a || wants s a then 0 else (cur s).1.length
theorem add_big {s : St} {a : List Int × Nat} (h : 32768 < a.1.length) : add s a = ⟨s.ck ++ [a], s.f, wrap64 (s.h + (a.2 : Int)), wrap64 (s.l + (a.1.length : Int))⟩ ∧ refC s a = s.ck.length ∧ refO s a = 0 := by
  have hb : big a = true := by unfold big; exact decide_eq_true h
  refine ⟨?_, ?_, ?_⟩
  · unfold add; rw [if_pos hb]
  · unfold refC; rw [hb]; rfl
  · unfold refO; rw [hb]; rfl
theorem add_new {s : St} {a : List Int × Nat} (h : ¬ 32768 < a.1.length) (hw : wants s a = true) : add s a = ⟨s.ck ++ [(a.1, szOf s.h a.1.length)], (s.ck.length : Int), wrap64 (s.h + (szOf s.h a.1.length : Int)), wrap64 (s.l + (a.1.length : Int))⟩ ∧ refC s a = s.ck.length ∧ refO s a = 0 := by
  have hb : ¬ big a = true := by unfold big; simpa using h
  refine ⟨?_, ?_, ?_⟩
  · unfold add; rw [if_neg hb, if_pos hw]
  · unfold refC; rw [hw, Bool.or_true]; rfl
  · unfold refO; rw [hw, Bool.or_true]; rfl
theorem add_old {s : St} {a : List Int × Nat} (h : ¬ 32768 < a.1.length) (hw : wants s a = false) : add s a = ⟨s.ck.set s.f.toNat ((cur s).1 ++ a.1, (cur s).2), s.f, s.h, wrap64 (s.l + (a.1.length : Int))⟩ ∧ refC s a = s.f.toNat ∧ refO s a = (cur s).1.length := by
  have hb : big a = false := by unfold big; simpa using h
  refine ⟨?_, ?_, ?_⟩
  · unfold add; rw [if_neg (by rw [hb]; decide), if_neg (by rw [hw]; decide)]
  · unfold refC; rw [hb, hw]; rfl
  · unfold refO; rw [hb, hw]; rfl
theorem szOf_bd (h : Int) (n : Nat) (hn : n ≤ 32768) : 1024 ≤ szOf h n ∧ szOf h n ≤ 65536 ∧ n ≤ szOf h n := by unfold szOf; omega

/-! ### The arena in memory -/
abbrev Cs := List (Value × (List Int × Nat))
/-- The arena at block bA, its result's cell at T, its chunks L, and further slices Rr, all the call's own; since w0 only what S names has turned. -/
structure AS (w0 wc : World) (B bA T : Nat) (V0 V : Value) (f h l : Int) (L Rr : Cs) (S : Nat → Prop) : Prop where
  row : wc.heap[bA]? = some (.cells #[V, .int .i64 f, .int .i64 h, .int .i64 l] 40 (0, 0))
  res : wc.heap[T]? = some (.cells #[.int .u32 0, .int .u32 0, .int .i64 0] 42 (0, 0))
  own : wc.ownsRow B 31 1 V L.length (L.map (·.1))
  rows : Rows wc B (L ++ Rr)
  chg : Chg w0 wc S
  far : V.ownBlock = V0.ownBlock ∨ ∀ k, V.ownBlock = some k → w0.heap.size ≤ k
  hbA : S bA
  hV : ∀ k, V0.ownBlock = some k → S k
  hT : w0.heap.size ≤ T
  hB : B ≤ w0.heap.size

section
variable {w0 wc : World} {B bA T : Nat} {V0 V : Value} {f h l : Int} {L Rr : Cs} {S : Nat → Prop}

theorem AS.ne (s : AS w0 wc B bA T V0 V f h l L Rr S) : bA ≠ T := fun e => by have h1 := s.row; have h2 := s.res; rw [e, h2] at h1; simp at h1
theorem AS.c0 (s : AS w0 wc B bA T V0 V f h l L Rr S) : wc.cell? ⟨bA, 0, none⟩ = some V := by rw [cell_of_row wc _ 0 _ _ _ s.row]; rfl
theorem AS.c1 (s : AS w0 wc B bA T V0 V f h l L Rr S) : wc.cell? ⟨bA, 1, none⟩ = some (.int .i64 f) := by rw [cell_of_row wc _ 1 _ _ _ s.row]; rfl
theorem AS.c2 (s : AS w0 wc B bA T V0 V f h l L Rr S) : wc.cell? ⟨bA, 2, none⟩ = some (.int .i64 h) := by rw [cell_of_row wc _ 2 _ _ _ s.row]; rfl
theorem AS.c3 (s : AS w0 wc B bA T V0 V f h l L Rr S) : wc.cell? ⟨bA, 3, none⟩ = some (.int .i64 l) := by rw [cell_of_row wc _ 3 _ _ _ s.row]; rfl
theorem AS.fr (s : AS w0 wc B bA T V0 V f h l L Rr S) (j : Nat) : wc.frozen? ⟨bA, j, none⟩ = false := frozen_of_row wc _ j _ _ s.row
theorem AS.drewN (s : AS w0 wc B bA T V0 V f h l L Rr S) (q : Nat) : AS w0 (wc.drewN q) B bA T V0 V f h l L Rr S := ⟨s.row, s.res, s.own, s.rows, s.chg.drewN q, s.far, s.hbA, s.hV, s.hT, s.hB⟩

/-- V's block is not the arena's, nor the result's. -/
theorem AS.vblock (s : AS w0 wc B bA T V0 V f h l L Rr S) {k : Nat} (hk : V.ownBlock = some k) : k ≠ bA ∧ k ≠ T := by
  obtain ⟨c, hc⟩ := own_block s.own hk
  refine ⟨fun e => ?_, fun e => ?_⟩
  · have := s.row; rw [← e, hc] at this; simp at this
  · have := s.res; rw [← e, hc] at this; simp at this
theorem AS.cblock (s : AS w0 wc B bA T V0 V f h l L Rr S) {p : Value × (List Int × Nat)} (hp : p ∈ L ++ Rr) {k : Nat} (hk : p.1.ownBlock = some k) : k ≠ bA ∧ k ≠ T ∧ V.ownBlock ≠ some k := by
  obtain ⟨c, hc⟩ := own_block (s.rows.1 p hp).1 hk
  refine ⟨fun e => ?_, fun e => ?_, fun e => own_types s.own (s.rows.1 p hp).1 (by decide) k e hk⟩
  · have := s.row; rw [← e, hc] at this; simp at this
  · have := s.res; rw [← e, hc] at this; simp at this

/-- A change that leaves the arena, its result, V's row and every slice alone. -/
theorem AS.keep {w' : World} (s : AS w0 wc B bA T V0 V f h l L Rr S) (hc : Chg wc w' (fun _ => False)) : AS w0 w' B bA T V0 V f h l L Rr S :=
  ⟨hc.row id s.row, hc.row id s.res, own_chg s.own hc (fun _ _ => id), s.rows.chg hc (fun _ _ _ _ => id), s.chg.then hc (fun _ _ h => h.elim), s.far, s.hbA, s.hV, s.hT, s.hB⟩
theorem AS.alloc (s : AS w0 wc B bA T V0 V f h l L Rr S) (o : Obj) : AS w0 (wc.alloc o) B bA T V0 V f h l L Rr S := s.keep ((Chg.refl _ _).alloc o)

/-- A store into the arena's own block. -/
theorem AS.store (s : AS w0 wc B bA T V0 V f h l L Rr S) (j : Nat) (u : Value) {V' : Value} {f' h' l' : Int}
    (hr : (#[V, .int .i64 f, .int .i64 h, .int .i64 l] : Array Value).setIfInBounds j u = #[V', .int .i64 f', .int .i64 h', .int .i64 l']) (hV' : V' = V) : AS w0 (wc.setCell ⟨bA, j, none⟩ u) B bA T V0 V' f' h' l' L Rr S := by
  subst hV'
  have hc : Chg wc (wc.setCell ⟨bA, j, none⟩ u) (fun k => k = bA) := Chg.setCell (S := fun k => k = bA) (p := ⟨bA, j, none⟩) (Chg.refl _ _) (fun _ => rfl) u
  refine ⟨?_, hc.row (fun e => s.ne e.symm) s.res, own_chg s.own hc (fun g hg => (s.vblock hg).1), s.rows.chg hc (fun p hp g hg => (s.cblock hp hg).1), s.chg.then hc (fun k _ e => by rw [e]; exact s.hbA), s.far, s.hbA, s.hV, s.hT, s.hB⟩
  rw [heap_setCell_same wc bA j _ _ u s.row, hr]
theorem AS.setF (s : AS w0 wc B bA T V0 V f h l L Rr S) (x : Int) : AS w0 (wc.setCell ⟨bA, 1, none⟩ (.int .i64 x)) B bA T V0 V x h l L Rr S := s.store 1 _ rfl rfl
theorem AS.setH (s : AS w0 wc B bA T V0 V f h l L Rr S) (x : Int) : AS w0 (wc.setCell ⟨bA, 2, none⟩ (.int .i64 x)) B bA T V0 V f x l L Rr S := s.store 2 _ rfl rfl
theorem AS.setL (s : AS w0 wc B bA T V0 V f h l L Rr S) (x : Int) : AS w0 (wc.setCell ⟨bA, 3, none⟩ (.int .i64 x)) B bA T V0 V f h x L Rr S := s.store 3 _ rfl rfl

/-- 'a.chunks = append(a.chunks, v)': one chunk more. -/
theorem AS.push {w2 : World} {v : Value} {c : List Int × Nat} {g cap : Nat} (s : AS w0 wc B bA T V0 V f h l L Rr S) (hR : Rows wc B (L ++ (v, c) :: Rr))
    (hown : w2.ownsRow B 31 1 (.slice (some ⟨g, 0, none⟩) (L.length + 1) cap) (L.length + 1) (L.map (·.1) ++ [v])) (hg : wc.grownBy w2 V.ownBlock) (hat : V.ownBlock = some g ∨ g = wc.heap.size) :
    AS w0 (w2.setCell ⟨bA, 0, none⟩ (.slice (some ⟨g, 0, none⟩) (L.length + 1) cap)) B bA T V0 (.slice (some ⟨g, 0, none⟩) (L.length + 1) cap) f h l (L ++ [(v, c)]) Rr S := by
  have hcg : Chg wc w2 (fun k => V.ownBlock = some k) := (Chg.refl _ _).grown hg (fun k _ e => e)
  have hrow2 : w2.heap[bA]? = some (.cells #[V, .int .i64 f, .int .i64 h, .int .i64 l] 40 (0, 0)) := hcg.row (fun e => (s.vblock e).1 rfl) s.row
  have hres2 := hcg.row (fun e => (s.vblock e).2 rfl) s.res
  have hR2 : Rows w2 B (L ++ (v, c) :: Rr) := hR.chg hcg (fun p hp k hk e => own_types s.own (hR.1 p hp).1 (by decide) k e hk)
  have hlt : bA < wc.heap.size := (Array.getElem?_eq_some_iff.1 s.row).1
  have hgb : g ≠ bA := by
    rcases hat with e | e
    · exact (s.vblock e).1
    · omega
  have hc2 : Chg w2 (w2.setCell ⟨bA, 0, none⟩ (.slice (some ⟨g, 0, none⟩) (L.length + 1) cap)) (fun k => k = bA) := Chg.setCell (S := fun k => k = bA) (p := ⟨bA, 0, none⟩) (Chg.refl _ _) (fun _ => rfl) _
  have hbne : ∀ p ∈ L ++ (v, c) :: Rr, ∀ k, p.1.ownBlock = some k → ¬ k = bA := fun p hp k hk e => by
    obtain ⟨cc, hcc⟩ := own_block (hR2.1 p hp).1 hk
    rw [e, hrow2] at hcc; simp at hcc
  have hR3 := hR2.chg hc2 hbne
  refine ⟨?_, hc2.row (fun e => s.ne e.symm) hres2, ?_, by simpa using hR3, ?_, ?_, s.hbA, s.hV, s.hT, s.hB⟩
  · rw [heap_setCell_same w2 bA 0 _ _ _ hrow2]; rfl
  · have := own_chg hown hc2 (fun k hk e => by simp [Value.ownBlock] at hk; omega)
    simpa using this
  · refine (s.chg.then hcg (fun k hk e => ?_)).then hc2 (fun k _ e => by rw [e]; exact s.hbA)
    rcases s.far with h1 | h1
    · exact s.hV k (by rw [← h1]; exact e)
    · have := h1 k e; omega
  · rcases hat with e | e
    · rcases s.far with h1 | h1
      · left; rw [← h1, e]; rfl
      · right; intro k hk
        have hk' : g = k := by simpa [Value.ownBlock] using hk
        have := h1 g e; omega
    · right; intro k hk
      have hk' : g = k := by simpa [Value.ownBlock] using hk
      have := s.chg.size; omega

/-- 'a.chunks[i] = append(chunk, answer...)', there being room. -/
theorem AS.fill {w2 : World} {gV capV' i : Nat} {v' : Value} {c' : List Int × Nat} (s : AS w0 wc B bA T V0 V f h l L Rr S) (hV : V = .slice (some ⟨gV, 0, none⟩) L.length capV') (hi : i < L.length)
    (ho : OwnC w2 B v' c') (hb : v'.ownBlock = (L.getD i (nilV, ([], 0))).1.ownBlock) (hg : wc.grownBy w2 (L.getD i (nilV, ([], 0))).1.ownBlock) (hS : ∀ k, k < w0.heap.size → v'.ownBlock = some k → S k) :
    AS w0 (w2.setCell ⟨gV, i, none⟩ v') B bA T V0 V f h l (L.set i (v', c')) Rr S := by
  have hmem : L.getD i (nilV, ([], 0)) ∈ L ++ Rr := by
    have e : L.getD i (nilV, ([], 0)) = L[i] := by simp [List.getD, hi]
    rw [e]; exact List.mem_append.2 (.inl (List.getElem_mem hi))
  rw [← hb] at hg
  have hcg : Chg wc w2 (fun k => v'.ownBlock = some k) := (Chg.refl _ _).grown hg (fun k _ e => e)
  have hnb : ∀ k, v'.ownBlock = some k → k ≠ bA ∧ k ≠ T ∧ V.ownBlock ≠ some k := fun k hk => s.cblock hmem (by rw [← hb]; exact hk)
  have hVb : V.ownBlock = some gV := by rw [hV]; rfl
  have hrow2 := hcg.row (fun e => (hnb _ e).1 rfl) s.row
  have hres2 := hcg.row (fun e => (hnb _ e).2.1 rfl) s.res
  have hown2 : w2.ownsRow B 31 1 V L.length (L.map (·.1)) := own_chg s.own hcg (fun k hk e => (hnb k e).2.2 hk)
  have hc2 : Chg w2 (w2.setCell ⟨gV, i, none⟩ v') (fun k => k = gV) := Chg.setCell (S := fun k => k = gV) (p := ⟨gV, i, none⟩) (Chg.refl _ _) (fun _ => rfl) _
  have hvb := s.vblock hVb
  have hst := (by rw [hV] at hown2; exact hown2 : w2.ownsRow B 31 1 (.slice (some ⟨gV, 0, none⟩) L.length capV') L.length (L.map (·.1))).stored i v'
  have hset : (L.set i (v', c')).map (·.1) = (L.map (·.1)).set i v' := by rw [List.map_set]
  have hgVlt : gV < w2.heap.size := (hown2.lt gV hVb).2
  refine ⟨hc2.row (fun e => hvb.1 e.symm) hrow2, hc2.row (fun e => hvb.2 e.symm) hres2, ?_, ?_, ?_, s.far, s.hbA, s.hV, s.hT, s.hB⟩
  · rw [hset, List.length_set, hV]; exact hst.1
  · -- the slices
    have hsplit : L = L.take i ++ L[i] :: L.drop (i + 1) := by simp
    have he : L.getD i (nilV, ([], 0)) = L[i] := by simp [List.getD, hi]
    have hpw : (L.take i ++ L[i] :: (L.drop (i + 1) ++ Rr)).Pairwise Apart := by
      have h1 := s.rows.2
      have h2 : L ++ Rr = L.take i ++ L[i] :: (L.drop (i + 1) ++ Rr) := by
        conv => lhs; rw [hsplit]
        rw [List.append_assoc]; rfl
      rw [h2] at h1
      exact h1
    have hsub : ∀ q ∈ L.take i ++ (L.drop (i + 1) ++ Rr), q ∈ L ++ Rr := fun q hq => by
      rcases List.mem_append.1 hq with h1 | h1
      · exact List.mem_append.2 (.inl (List.mem_of_mem_take h1))
      · rcases List.mem_append.1 h1 with h2 | h2
        · exact List.mem_append.2 (.inl (List.mem_of_mem_drop h2))
        · exact List.mem_append.2 (.inr h2)
    have hap : ∀ q ∈ L.take i ++ (L.drop (i + 1) ++ Rr), ∀ k, L[i].1.ownBlock = some k → q.1.ownBlock ≠ some k := fun q hq k hk e => by
      have h2 := List.pairwise_append.1 hpw
      have h3 := List.pairwise_cons.1 h2.2.1
      rcases List.mem_append.1 hq with h1 | h1
      · exact h2.2.2 q h1 _ (List.mem_cons.2 (.inl rfl)) k e hk
      · exact h3.1 q h1 k hk e
    have hb' : v'.ownBlock = L[i].1.ownBlock := by rw [hb, he]
    have hrest : Rows wc B (L.take i ++ (L.drop (i + 1) ++ Rr)) := by
      refine s.rows.sub ?_
      have h1 : (L.take i ++ (L.drop (i + 1) ++ Rr)).Sublist (L.take i ++ (L[i] :: L.drop (i + 1)) ++ Rr) := by
        rw [List.append_assoc]
        exact List.Sublist.append_left (List.Sublist.append_right (List.sublist_cons_self _ _) _) _
      rw [← hsplit] at h1
      exact h1
    have hrest2 := (hrest.chg hcg (fun q hq k hk e => hap q hq k (by rw [← hb']; exact e) hk)).chg hc2 (fun q hq k hk e => by
      have := (s.cblock (hsub q hq) hk).2.2
      rw [e] at this; exact this hVb)
    have hnew : OwnC (w2.setCell ⟨gV, i, none⟩ v') B v' c' := ⟨own_chg ho.1 hc2 (fun k hk e => (hnb k hk).2.2 (by rw [e]; exact hVb)), ho.2⟩
    have := Rows.mid (L := L.take i) (R := L.drop (i + 1) ++ Rr) (p := (v', c')) hrest2 hnew (fun q hq k hk => hap q hq k (by rw [← hb']; exact hk))
    have es : L.set i (v', c') = L.take i ++ (v', c') :: L.drop (i + 1) := by rw [List.set_eq_take_append_cons_drop, if_pos hi]
    rw [es]
    simpa using this
  · refine (s.chg.then hcg (fun k hk e => hS k hk e)).then hc2 (fun k hk e => ?_)
    rw [e] at hk ⊢
    rcases s.far with h1 | h1
    · exact s.hV gV (by rw [← h1]; exact hVb)
    · have := h1 gV hVb; omega
/-- Fewer slices beside it. -/
theorem AS.less {Rr' : Cs} (s : AS w0 wc B bA T V0 V f h l L Rr S) (hs : Rr'.Sublist Rr) : AS w0 wc B bA T V0 V f h l L Rr' S :=
  ⟨s.row, s.res, s.own, s.rows.sub (List.Sublist.append_left hs _), s.chg, s.far, s.hbA, s.hV, s.hT, s.hB⟩
/-- The arena's cells behind an append to its list. -/
theorem AS.grownCells {w2 : World} (s : AS w0 wc B bA T V0 V f h l L Rr S) (hg : wc.grownBy w2 V.ownBlock) : w2.cell? ⟨bA, 0, none⟩ = some V ∧ w2.frozen? ⟨bA, 0, none⟩ = false := by
  have hcg : Chg wc w2 (fun k => V.ownBlock = some k) := (Chg.refl _ _).grown hg (fun k _ e => e)
  have hrow2 := hcg.row (fun e => (s.vblock e).1 rfl) s.row
  exact ⟨by rw [cell_of_row w2 _ 0 _ _ _ hrow2]; rfl, frozen_of_row w2 _ 0 _ _ hrow2⟩
/-- The result's cells. -/
theorem AS.t (s : AS w0 wc B bA T V0 V f h l L Rr S) : wc.cell? ⟨T, 0, none⟩ = some (.int .u32 0) ∧ wc.cell? ⟨T, 1, none⟩ = some (.int .u32 0) ∧ wc.cell? ⟨T, 2, none⟩ = some (.int .i64 0) ∧ ∀ j, wc.frozen? ⟨T, j, none⟩ = false :=
  ⟨by rw [cell_of_row wc _ 0 _ _ _ s.res]; rfl, by rw [cell_of_row wc _ 1 _ _ _ s.res]; rfl, by rw [cell_of_row wc _ 2 _ _ _ s.res]; rfl, fun j => frozen_of_row wc _ j _ _ s.res⟩
/-- The result written: what is left. -/
theorem AS.done (s : AS w0 wc B bA T V0 V f h l L Rr S) (x y z : Value) :
    let wf := ((wc.setCell ⟨T, 0, none⟩ x).setCell ⟨T, 1, none⟩ y).setCell ⟨T, 2, none⟩ z
    wf.heap[T]? = some (.cells #[x, y, z] 42 (0, 0)) ∧ wf.heap[bA]? = some (.cells #[V, .int .i64 f, .int .i64 h, .int .i64 l] 40 (0, 0)) ∧ wf.ownsRow B 31 1 V L.length (L.map (·.1)) ∧ Rows wf B (L ++ Rr) ∧ Chg w0 wf S := by
  have h1 := heap_setCell_same wc T 0 _ _ x s.res
  have h2 := heap_setCell_same _ T 1 _ _ y h1
  have h3 := heap_setCell_same _ T 2 _ _ z h2
  have hc : Chg wc (((wc.setCell ⟨T, 0, none⟩ x).setCell ⟨T, 1, none⟩ y).setCell ⟨T, 2, none⟩ z) (fun k => k = T) :=
    Chg.setCell (S := fun k => k = T) (p := ⟨T, 2, none⟩) (Chg.setCell (S := fun k => k = T) (p := ⟨T, 1, none⟩) (Chg.setCell (S := fun k => k = T) (p := ⟨T, 0, none⟩) (Chg.refl _ _) (fun _ => rfl) x) (fun _ => rfl) y) (fun _ => rfl) z
  refine ⟨by rw [h3]; rfl, hc.row (fun e => s.ne e) s.row, own_chg s.own hc (fun k hk => (s.vblock hk).2), s.rows.chg hc (fun p hp k hk => (s.cblock hp hk).2.1), s.chg.then hc (fun k hk e => ?_)⟩
  have := s.hT
  omega
theorem AS.base (s : AS w0 wc B bA T V0 V f h l L Rr S) : B ≤ wc.heap.size := Nat.le_trans s.hB s.chg.size
theorem one_slice (a : Option Addr) (n c : Nat) : ∀ u ∈ [Value.slice a n c], u.oneCell' = true := by
  intro u hu; simp at hu; subst hu; rfl
/-- The i-th chunk, where it lies. -/
theorem AS.chunk (s : AS w0 wc B bA T V0 V f h l L Rr S) (i : Nat) (hi : i < L.length) :
    ∃ gV cap, V = .slice (some ⟨gV, 0, none⟩) L.length cap ∧ wc.cell? ⟨gV, i, none⟩ = some (L.getD i (nilV, ([], 0))).1 ∧ wc.frozen? ⟨gV, i, none⟩ = false ∧ OwnC wc B (L.getD i (nilV, ([], 0))).1 (L.getD i (nilV, ([], 0))).2 ∧ L.getD i (nilV, ([], 0)) ∈ L := by
  obtain ⟨gV, cap, hV, _, _⟩ := s.own.form (by omega)
  have e : L.getD i (nilV, ([], 0)) = L[i] := by simp [List.getD, hi]
  have ho := s.own
  rw [hV] at ho
  have hm : L[i] ∈ L := List.getElem_mem hi
  rw [e]
  refine ⟨gV, cap, hV, ?_, ho.frozenAt i, s.rows.1 _ (List.mem_append.2 (.inl hm)), hm⟩
  rw [ho.cellAt i (by omega)]
  simp [hi]
theorem cur_at (L : Cs) (f h l : Int) (i : Nat) (hf : f = (i : Int)) (hi : i < L.length) : cur ⟨L.map (·.2), f, h, l⟩ = (L.getD i (nilV, ([], 0))).2 := by
  unfold cur
  simp [hf, List.getD, hi]
theorem AS.drew (s : AS w0 wc B bA T V0 V f h l L Rr S) : AS w0 wc.drew B bA T V0 V f h l L Rr S := ⟨s.row, s.res, s.own, s.rows, s.chg.drew, s.far, s.hbA, s.hV, s.hT, s.hB⟩
theorem szOf_if (h : Int) (n : Nat) : (if 65536 < if (if h < 1024 then 1024 else h) < (n : Int) then (n : Int) else if h < 1024 then 1024 else h then 65536 else if (if h < 1024 then 1024 else h) < (n : Int) then (n : Int) else if h < 1024 then 1024 else h) = ((szOf h n : Nat) : Int) := by
  unfold szOf
  by_cases h1 : h < 1024
  · simp only [if_pos h1]
    by_cases h2 : (1024 : Int) < (n : Int)
    · simp only [if_pos h2]; split <;> omega
    · simp only [if_neg h2]; split <;> omega
  · simp only [if_neg h1]
    by_cases h2 : h < (n : Int)
    · simp only [if_pos h2]; split <;> omega
    · simp only [if_neg h2]; split <;> omega
/-- A new, empty chunk laid beside the others. -/
theorem AS.fresh (s : AS w0 wc B bA T V0 V f h l L Rr S) (row : Array Value) (sz : Nat) (hrow : row.size = sz) (hm : sz ≤ maxLen) (o : Obj) :
    Rows ((wc.alloc (.cells row 5)).alloc o).drew B (L ++ (.slice (some ⟨wc.heap.size, 0, none⟩) 0 sz, ([], sz)) :: Rr) := by
  have s1 := ((s.alloc (.cells row 5)).alloc o).drew
  refine Rows.mid s1.rows ⟨?_, rfl⟩ (fun q hq k hk e => ?_)
  · refine ⟨rfl, .inr ⟨wc.heap.size, sz, row, rfl, s.base, ?_, Nat.zero_le _, hm, by omega, by simp⟩⟩
    show ((wc.alloc (.cells row 5)).alloc o).heap[wc.heap.size]? = _
    rw [Below.heap_alloc _ _ _ (by simp)]
    exact heap_alloc_new wc _
  · have h1 : wc.heap.size = k := by simpa [Value.ownBlock] using hk
    have h2 := ((s.rows.1 q hq).1.lt k e).2
    omega
/-- 'append(chunk, answer...)' WHERE THERE IS ROOM: its run. -/
theorem run_fill (w : World) (ty : TypeId) (B : Nat) (po xo : Option Addr) (pb ab : List Int) (pc ca : Nat) (hp : OwnC w B (.slice po pb.length pc) (pb, pc)) (hq : OwnC w B (.slice xo ab.length ca) (ab, ca)) (hroom : pb.length + ab.length ≤ pc) :
    ∃ w', (Builtin.append_ #[31, 31] ty #[.slice po pb.length pc, .slice xo ab.length ca]).run Try.prog w = .ok (.slice po (pb.length + ab.length) pc) w' ∧
      OwnC w' B (.slice po (pb.length + ab.length) pc) (pb ++ ab, pc) ∧ w.grownBy w' (Value.slice po pb.length pc).ownBlock := by
  obtain ⟨i0, hi, hz0, hz1, hz2⟩ := info_parts info5
  obtain ⟨xo', hxe, _, _, hxn, hxa, hxc⟩ := hq.form
  simp only [Value.slice.injEq] at hxe
  obtain ⟨rfl, _, _⟩ := hxe
  obtain ⟨po', hpe, _, _, hpn, hpa, _⟩ := hp.form
  simp only [Value.slice.injEq] at hpe
  obtain ⟨rfl, _, _⟩ := hpe
  rcases xo with _ | xa
  · obtain ⟨h1, h2⟩ := hxn rfl
    simp only [] at h1 h2
    obtain rfl : ab = [] := List.eq_nil_of_length_eq_zero h1
    subst h2
    refine ⟨w, ?_, by simpa using hp, World.grownBy.refl _ _⟩
    have := run_append_owned_none (P := Try.prog) w B 31 ty 5 i0 1 Try.underlying31 hi _ _ _ hp.1
    simpa using this
  · rcases po with _ | pa
    · obtain ⟨h1, h2⟩ := hpn rfl
      simp only [] at h1 h2
      obtain rfl : pb = [] := List.eq_nil_of_length_eq_zero h1
      subst h2
      obtain rfl : ab = [] := List.eq_nil_of_length_eq_zero (by simpa using hroom)
      obtain ⟨v', w', hr, ho, hg, hn⟩ := run_append_own (P := Try.prog) w B 31 ty 5 i0 (.int .u8 0) 1 1 Try.underlying31 hi hz0 hz1 hz2 rfl (by decide) (.slice none 0 0) 0 [] (World.ownsRow_nil w _ _ _) xa 0 ca [] rfl (fun j u hj => by simp at hj) (fun u hu => by simp at hu) (by unfold maxLen; omega) (by omega) (by
        obtain ⟨g, _, hb, _, hlt⟩ := hxa xa rfl
        omega)
      have hv : v' = .slice none 0 0 := hn.2 ⟨rfl, rfl⟩
      subst hv
      refine ⟨w', by simpa using hr, ⟨by simpa using ho, rfl⟩, by simpa using hg⟩
    · obtain ⟨g, rfl, _⟩ := hpa pa rfl
      obtain ⟨w', hr, ho, hg⟩ := run_append_fits (P := Try.prog) w B 31 ty 5 i0 1 Try.underlying31 hi hz1 g pb.length pc _ hp.1 xa ab.length ca (ab.map (Value.int .u8)) (by simp) (fun j u hj => by
          have hjl : j < ab.length := by simpa using (List.getElem?_eq_some_iff.1 hj).1
          rw [hxc xa rfl j hjl, ← hj]
          simp [List.getD, hjl]) (ints_oneCell _ _) hroom
      refine ⟨w', hr, ⟨?_, rfl⟩, hg⟩
      have e : (pb ++ ab).length = pb.length + ab.length := by simp
      simp only [e, List.map_append]
      exact ho

theorem step_fill {ops : Array Oper} {o : Oper} {a : Act} {w : World} {K : Act → World → Prop} {Q : Exit → Act → World → Prop} {E : Prop} (hgd : o.guard = none) (s x : Operand)
    (ho : o.op = .call { callee := .builtin .append, args := #[s, x], argTypes := #[31, 31] }) (B : Nat) (po xo : Option Addr) (pb ab : List Int) (fn m pc ca : Nat) (hfn : pb.length = fn) (hm : ab.length = m)
    (hs : a.eval s = .slice po fn pc) (hx : a.eval x = .slice xo m ca) (hp : OwnC w B (.slice po fn pc) (pb, pc)) (hq : OwnC w B (.slice xo m ca) (ab, ca)) (hroom : fn + m ≤ pc)
    (h : ∀ w', OwnC w' B (.slice po (fn + m) pc) (pb ++ ab, pc) → w.grownBy w' (Value.slice po fn pc).ownBlock → K (a.put o.dst (.slice po (fn + m) pc)) w') :
    if Region.wanted o (yielded ops a.tmps) = true then Oper.wp Try.prog o a w K Q else E := by
  have hw : Region.wanted o (yielded ops a.tmps) = true := by simp [Region.wanted, hgd]
  rw [if_pos hw]
  subst hfn hm
  obtain ⟨w', hr, h2, h3⟩ := run_fill w o.type B po xo pb ab pc ca hp hq hroom
  unfold Oper.wp execOp
  simp only [ho, resolve, invoke, builtin, Sem.run_bind, Sem.run_pure, Result.andThen_ok, List.map_toArray, List.map_cons, List.map_nil, hs, hx, hr]
  exact h w' h2 h3
/-- What is read behind the filling of a chunk. -/
theorem AS.fillCells {w2 : World} {gV capV' i : Nat} (s : AS w0 wc B bA T V0 V f h l L Rr S) (hV : V = .slice (some ⟨gV, 0, none⟩) L.length capV') (hi : i < L.length) (hg : wc.grownBy w2 (L.getD i (nilV, ([], 0))).1.ownBlock) :
    w2.cell? ⟨bA, 0, none⟩ = some V ∧ w2.cell? ⟨bA, 1, none⟩ = some (.int .i64 f) ∧ w2.cell? ⟨gV, i, none⟩ = some (L.getD i (nilV, ([], 0))).1 ∧ w2.frozen? ⟨gV, i, none⟩ = false ∧
      (∀ (k : Nat) (c : Array Value) (t : TypeId), wc.heap[k]? = some (Obj.cells c t (0, 0)) → t ≠ 5 → w2.heap[k]? = some (Obj.cells c t (0, 0))) ∧ bA ≠ gV := by
  have hmem : L.getD i (nilV, ([], 0)) ∈ L ++ Rr := by
    have e : L.getD i (nilV, ([], 0)) = L[i] := by simp [List.getD, hi]
    rw [e]; exact List.mem_append.2 (.inl (List.getElem_mem hi))
  have hcg : Chg wc w2 (fun k => (L.getD i (nilV, ([], 0))).1.ownBlock = some k) := (Chg.refl _ _).grown hg (fun k _ e => e)
  have hVb : V.ownBlock = some gV := by rw [hV]; rfl
  have hrow2 := hcg.row (fun e => (s.cblock hmem e).1 rfl) s.row
  have hown2 : w2.ownsRow B 31 1 V L.length (L.map (·.1)) := own_chg s.own hcg (fun k hk e => (s.cblock hmem e).2.2 hk)
  rw [hV] at hown2
  refine ⟨by rw [cell_of_row w2 _ 0 _ _ _ hrow2]; rfl, by rw [cell_of_row w2 _ 1 _ _ _ hrow2]; rfl, ?_, hown2.frozenAt i, fun k c t hk ht => hcg.row (fun e => ?_) hk, fun e => (s.vblock hVb).1 e.symm⟩
  · rw [hown2.cellAt i (by omega)]
    simp [List.getD, hi]
  · obtain ⟨cc, hcc⟩ := own_block (s.rows.1 _ hmem).1 e
    rw [hk] at hcc
    simp at hcc
    exact ht hcc.2
end

end Go.Proofs.Qxb6617183a.Ar
