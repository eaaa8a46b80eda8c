/-
  'ZZArenaAdd' as a contract.
-/
import Derived.Test.Qxb6617183aArAdd
import Derived.BigQuiet
namespace Go.Proofs.Qxb6617183a.Ar
open Go.RowKit

/-- What 'ZZArenaAdd' leaves. -/
def ZAdded (w : World) (B : Nat) (V : Value) (f h l : Int) (L Rr : Cs) (a : List Int × Nat) (e : Ending) (w' : World) : Prop :=
  ∃ V' L', e = .returned (.tuple #[V', .int .i64 (add ⟨L.map (·.2), f, h, l⟩ a).f, .int .i64 (add ⟨L.map (·.2), f, h, l⟩ a).h, .int .i64 (add ⟨L.map (·.2), f, h, l⟩ a).l,
      .int .u32 (refC ⟨L.map (·.2), f, h, l⟩ a : Nat), .int .u32 (refO ⟨L.map (·.2), f, h, l⟩ a : Nat), .int .i64 (a.1.length : Nat)]) ∧
    w'.ownsRow B 31 1 V' L'.length (L'.map (·.1)) ∧ L'.map (·.2) = (add ⟨L.map (·.2), f, h, l⟩ a).ck ∧ Rows w' B (L' ++ Rr) ∧
    Chg w w' (fun k => V.ownBlock = some k ∨ ∃ p ∈ L, p.1.ownBlock = some k) ∧ (V'.ownBlock = V.ownBlock ∨ ∀ k, V'.ownBlock = some k → w.heap.size ≤ k)

theorem ZAdded.keep {w : World} {B : Nat} {V : Value} {f h l : Int} {L Rr : Cs} {a : List Int × Nat} {e : Ending} {w1 w2 : World} (s : ZAdded w B V f h l L Rr a e w1) (hc : Chg w1 w2 (fun _ => False)) : ZAdded w B V f h l L Rr a e w2 := by
  obtain ⟨V', L', h1, h2, h3, h4, h5, h6⟩ := s
  exact ⟨V', L', h1, own_chg h2 hc (fun _ _ => id), h3, h4.chg hc (fun _ _ _ _ => id), h5.then hc (fun _ _ h => h.elim), h6⟩

set_option maxRecDepth 100000 in
set_option maxHeartbeats 2000000 in
theorem zz_add (w : World) (B : Nat) (V : Value) (f hh l : Int) (L Rr : Cs) (g : Value) (a : List Int × Nat)
    (hown : w.ownsRow B 31 1 V L.length (L.map (·.1))) (hR : Rows w B (L ++ (g, a) :: Rr)) (hBw : B ≤ w.heap.size)
    (hf1 : -1 ≤ f) (hf2 : f < (L.length : Int)) (bL : L.length ≤ 100000) (ba : a.2 ≤ 1048576) (bc : ∀ p ∈ L, p.2.2 ≤ 1048576) :
    Calls Try.prog 9 #[V, .int .i64 f, .int .i64 hh, .int .i64 l, g] w fun e w' => ZAdded w B V f hh l L Rr a e w' := by
  obtain ⟨va, vn, vc, rfl⟩ : ∃ va vn vc, V = .slice va vn vc := by
    rcases hown.2 with ⟨e, _⟩ | ⟨g, cap, cur, e, _⟩
    · exact ⟨_, _, _, e⟩
    · exact ⟨_, _, _, e⟩
  have hc : Chg w (w.alloc (.cells #[.slice va vn vc, .int .i64 f, .int .i64 hh, .int .i64 l] 40)) (fun _ => False) := (Chg.refl _ _).alloc _
  have J := hid (add_any (w.alloc (.cells #[.slice va vn vc, .int .i64 f, .int .i64 hh, .int .i64 l] 40)) B w.heap.size (.slice va vn vc) f hh l L Rr g a (heap_alloc_new w _) (own_chg hown hc (fun _ _ => id)) (hR.chg hc (fun _ _ _ _ => id)) (by simp; omega) hf1 hf2 bL ba bc)
  have HC := hid hc
  clear hc hR hf1 hf2 bL ba bc hown
  obtain ⟨s, Hs⟩ : ∃ s : St, Hid (s = ⟨L.map (·.2), f, hh, l⟩) := ⟨_, rfl⟩
  go_enter Try.func9, Try.ntmps9
  go_wp2_with fail
  refine J.out.mono ?_
  rintro e w1 ⟨V', L', rfl, hrow, hown, hck, hrows, hchg, hfar⟩
  clear J
  rw [← Hs.out] at hrow hck ⊢
  obtain ⟨T, HT⟩ : ∃ T, Hid (T = w1.heap.size) := ⟨_, rfl⟩
  have R : Hid (ZAdded w B (.slice va vn vc) f hh l L Rr a (.returned (.tuple #[V', .int .i64 (add s a).f, .int .i64 (add s a).h, .int .i64 (add s a).l, .int .u32 (refC s a : Nat), .int .u32 (refO s a : Nat), .int .i64 (a.1.length : Nat)])) w1) := by
    refine ⟨V', L', by rw [Hs.out], hown, by rw [← Hs.out]; exact hck, hrows, ?_, ?_⟩
    · refine (HC.out.mono (fun _ _ h => h.elim)).then hchg (fun i hi hs => ?_)
      rcases hs with h1 | h1 | h1
      · omega
      · exact .inl h1
      · exact .inr h1
    · rcases hfar with h1 | h1
      · exact .inl h1
      · refine .inr fun k hk => ?_
        have := h1 k hk
        simp at this
        omega
  clear hown hck hrows hchg hfar HC
  generalize (add s a).f = f' at *
  generalize (add s a).h = h' at *
  generalize (add s a).l = l' at *
  generalize refC s a = c' at *
  generalize refO s a = o' at *
  generalize a.1.length = k' at *
  have hA : w.heap.size < w1.heap.size := (Array.getElem?_eq_some_iff.1 hrow).1
  go_upto_region 3 with fail
  have d1 : (w1.alloc (.cells #[.int .u32 (c' : Int), .int .u32 (o' : Int), .int .i64 (k' : Int)] 42)).heap[w.heap.size]? = some (.cells #[V', .int .i64 f', .int .i64 h', .int .i64 l'] 40 (0, 0)) := (Below.heap_alloc _ _ _ hA).trans hrow
  have d2 := heap_alloc_new w1 (.cells #[.int .u32 (c' : Int), .int .u32 (o' : Int), .int .i64 (k' : Int)] 42)
  have R2 := hid (R.out.keep ((Chg.refl w1 _).alloc (.cells #[.int .u32 (c' : Int), .int .u32 (o' : Int), .int .i64 (k' : Int)] 42)))
  generalize w1.alloc (.cells #[.int .u32 (c' : Int), .int .u32 (o' : Int), .int .i64 (k' : Int)] 42) = w2 at d1 d2 R2 ⊢
  rw [← HT.out] at d2 ⊢
  clear hrow R
  have a0 : w2.cell? ⟨w.heap.size, 0, none⟩ = some V' := by rw [cell_of_row w2 _ 0 _ _ _ d1]; rfl
  have a1 : w2.cell? ⟨w.heap.size, 1, none⟩ = some (.int .i64 f') := by rw [cell_of_row w2 _ 1 _ _ _ d1]; rfl
  have a2 : w2.cell? ⟨w.heap.size, 2, none⟩ = some (.int .i64 h') := by rw [cell_of_row w2 _ 2 _ _ _ d1]; rfl
  have a3 : w2.cell? ⟨w.heap.size, 3, none⟩ = some (.int .i64 l') := by rw [cell_of_row w2 _ 3 _ _ _ d1]; rfl
  have b0 : w2.cell? ⟨T, 0, none⟩ = some (.int .u32 (c' : Int)) := by rw [cell_of_row w2 _ 0 _ _ _ d2]; rfl
  have b1 : w2.cell? ⟨T, 1, none⟩ = some (.int .u32 (o' : Int)) := by rw [cell_of_row w2 _ 1 _ _ _ d2]; rfl
  have b2 : w2.cell? ⟨T, 2, none⟩ = some (.int .i64 (k' : Int)) := by rw [cell_of_row w2 _ 2 _ _ _ d2]; rfl
  clear d1 d2 hA HT
  go_quiet (fail)
  go_wp2
  refine bodyPost_ret (v := .tuple #[V', .int .i64 f', .int .i64 h', .int .i64 l', .int .u32 (c' : Int), .int .u32 (o' : Int), .int .i64 (k' : Int)]) (by simp [results, Try.results9]) rfl (R2.out.keep ((Chg.refl _ _).drewN _))

end Go.Proofs.Qxb6617183a.Ar
