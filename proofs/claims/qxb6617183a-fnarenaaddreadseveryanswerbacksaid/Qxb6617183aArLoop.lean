/-
  THE LAWS' MEMORY while the answers are added: the chunks, the answers that were given, the three rows of names.
-/
import Derived.Test.Qxb6617183aArZZ
import Derived.Test.Qxb6617183aArPlain
namespace Go.Proofs.Qxb6617183a.Ar
open Go.RowKit

/-- A row of the call's own whose first i cells hold f's values. -/
def Cells (w : World) (B : Nat) (e : TypeId) (g n : Nat) (f : Nat → Value) (i : Nat) : Prop :=
  ∃ xs, w.ownsRow B e 1 (.slice (some ⟨g, 0, none⟩) n n) n xs ∧ ∀ j, j < i → xs[j]? = some (f j)
section
variable {w w' : World} {B : Nat} {e : TypeId} {g n : Nat} {f : Nat → Value} {i : Nat}
theorem Cells.lt (h : Cells w B e g n f i) : B ≤ g ∧ g < w.heap.size := by obtain ⟨xs, ho, _⟩ := h; exact ho.lt g rfl
theorem Cells.same (h : Cells w B e g n f i) (hb : w'.heap[g]? = w.heap[g]?) : Cells w' B e g n f i := by
  obtain ⟨xs, ho, hx⟩ := h
  exact ⟨xs, own_same ho (fun k hk => by have : g = k := by simpa [Value.ownBlock] using hk
                                         subst this; exact hb), hx⟩
theorem Cells.chg {S : Nat → Prop} (h : Cells w B e g n f i) (hc : Chg w w' S) (hs : ¬ S g) : Cells w' B e g n f i := h.same (hc.block g h.lt.2 hs)
theorem Cells.step (h : Cells w B e g n f i) (hi : i < n) : Cells (w.setCell ⟨g, i, none⟩ (f i)) B e g n f (i + 1) := by
  obtain ⟨xs, ho, hx⟩ := h
  have hl := ho.1
  refine ⟨_, (ho.stored i (f i)).1, fun j hj => ?_⟩
  by_cases e : j = i
  · subst e; rw [List.getElem?_set_self (by omega)]
  · rw [List.getElem?_set_ne (by omega)]; exact hx j (by omega)
theorem Cells.cell (h : Cells w B e g n f i) (hi : i ≤ n) {j : Nat} (hj : j < i) : w.cell? ⟨g, j, none⟩ = some (f j) := by
  obtain ⟨xs, ho, hx⟩ := h
  rw [ho.cellAt j (by omega)]; exact hx j hj
theorem Cells.any (h : Cells w B e g n f i) {j : Nat} (hj : j < n) : (∃ u, w.cell? ⟨g, j, none⟩ = some u) ∧ w.frozen? ⟨g, j, none⟩ = false := by
  obtain ⟨xs, ho, hx⟩ := h
  have hl := ho.1
  exact ⟨⟨xs[j]'(by omega), by rw [ho.cellAt j (by omega), List.getElem?_eq_getElem]⟩, ho.frozenAt j⟩
theorem Cells.ne {e' : TypeId} {v : Value} {m : Nat} {xs : List Value} {B' : Nat} (h : Cells w B e g n f i) (ho : w.ownsRow B' e' 1 v m xs) (he : e' ≠ e) : v.ownBlock ≠ some g := by
  obtain ⟨ys, hy, _⟩ := h
  intro hv
  exact own_types ho hy he g hv rfl
end

structure Lp (w wr : World) (B : Nat) (V G : Value) (L Gs : Cs) (gc go gl n : Nat) (fc fo fl : Nat → Value) (i ic io il : Nat) : Prop where
  own : wr.ownsRow B 31 1 V L.length (L.map (·.1))
  gown : wr.ownsRow B 31 1 G n (Gs.map (·.1))
  ne : ∀ k, V.ownBlock = some k → G.ownBlock ≠ some k
  rows : Rows wr B (L ++ Gs.drop i)
  cc : Cells wr B 28 gc n fc ic
  co : Cells wr B 28 go n fo io
  cl : Cells wr B 3 gl n fl il
  nco : gc ≠ go
  bel : Below B w wr

section
variable {w wr : World} {B : Nat} {V G : Value} {L Gs : Cs} {gc go gl n : Nat} {fc fo fl : Nat → Value} {i ic io il : Nat}

theorem Lp.nil_drop (s : Lp w wr B V G L Gs gc go gl n fc fo fl i ic io il) : Gs.length = n := by have := s.gown.1; simpa using this

theorem Lp.drewN (s : Lp w wr B V G L Gs gc go gl n fc fo fl i ic io il) (q : Nat) : Lp w (wr.drewN q) B V G L Gs gc go gl n fc fo fl i ic io il :=
  ⟨s.own, s.gown, s.ne, s.rows, s.cc, s.co, s.cl, s.nco, ⟨s.bel.os, s.bel.tape, s.bel.output, s.bel.size, s.bel.block⟩⟩

/-- A store into a row of names. -/
theorem Lp.stores (s : Lp w wr B V G L Gs gc go gl n fc fo fl i ic io il) {g k : Nat} {u : Value} (hg : B ≤ g) (hV : V.ownBlock ≠ some g) (hG : G.ownBlock ≠ some g) (hC : ∀ p ∈ L ++ Gs.drop i, p.1.ownBlock ≠ some g) {ic' io' il' : Nat}
    (hc : Cells (wr.setCell ⟨g, k, none⟩ u) B 28 gc n fc ic') (ho : Cells (wr.setCell ⟨g, k, none⟩ u) B 28 go n fo io') (hl : Cells (wr.setCell ⟨g, k, none⟩ u) B 3 gl n fl il') : Lp w (wr.setCell ⟨g, k, none⟩ u) B V G L Gs gc go gl n fc fo fl i ic' io' il' := by
  have hch : Chg wr (wr.setCell ⟨g, k, none⟩ u) (fun x => x = g) := Chg.setCell (S := fun x => x = g) (p := ⟨g, k, none⟩) (Chg.refl _ _) (fun _ => rfl) u
  exact ⟨own_chg s.own hch (fun x hx e => hV (by rw [← e]; exact hx)), own_chg s.gown hch (fun x hx e => hG (by rw [← e]; exact hx)), s.ne, s.rows.chg hch (fun p hp x hx e => hC p hp (by rw [← e]; exact hx)), hc, ho, hl, s.nco, s.bel.setCell hg u⟩

theorem Lp.apart (s : Lp w wr B V G L Gs gc go gl n fc fo fl i ic io il) : gc ≠ gl ∧ go ≠ gl := by
  obtain ⟨xs, ho, _⟩ := s.cl
  exact ⟨fun e => s.cc.ne ho (by decide) (by rw [e]; rfl), fun e => s.co.ne ho (by decide) (by rw [e]; rfl)⟩

theorem Lp.st1 (s : Lp w wr B V G L Gs gc go gl n fc fo fl i ic io il) (h : ic < n) : Lp w (wr.setCell ⟨gc, ic, none⟩ (fc ic)) B V G L Gs gc go gl n fc fo fl i (ic + 1) io il :=
  s.stores s.cc.lt.1 (s.cc.ne s.own (by decide)) (s.cc.ne s.gown (by decide)) (fun p hp => s.cc.ne (s.rows.1 p hp).1 (by decide)) (s.cc.step h)
    (s.co.same (Below.heap_setCell _ _ _ _ (Ne.symm s.nco))) (s.cl.same (Below.heap_setCell _ _ _ _ (Ne.symm s.apart.1)))
theorem Lp.st2 (s : Lp w wr B V G L Gs gc go gl n fc fo fl i ic io il) (h : io < n) : Lp w (wr.setCell ⟨go, io, none⟩ (fo io)) B V G L Gs gc go gl n fc fo fl i ic (io + 1) il :=
  s.stores s.co.lt.1 (s.co.ne s.own (by decide)) (s.co.ne s.gown (by decide)) (fun p hp => s.co.ne (s.rows.1 p hp).1 (by decide)) (s.cc.same (Below.heap_setCell _ _ _ _ s.nco))
    (s.co.step h) (s.cl.same (Below.heap_setCell _ _ _ _ (Ne.symm s.apart.2)))
theorem Lp.st3 (s : Lp w wr B V G L Gs gc go gl n fc fo fl i ic io il) (h : il < n) : Lp w (wr.setCell ⟨gl, il, none⟩ (fl il)) B V G L Gs gc go gl n fc fo fl i ic io (il + 1) :=
  s.stores s.cl.lt.1 (s.cl.ne s.own (by decide)) (s.cl.ne s.gown (by decide)) (fun p hp => s.cl.ne (s.rows.1 p hp).1 (by decide)) (s.cc.same (Below.heap_setCell _ _ _ _ s.apart.1))
    (s.co.same (Below.heap_setCell _ _ _ _ s.apart.2)) (s.cl.step h)

/-- What is handed to 'ZZArenaAdd'. -/
theorem Lp.given (s : Lp w wr B V G L Gs gc go gl n fc fo fl i ic io il) (hi : i < n) : ∃ gG cap g a, G = .slice (some ⟨gG, 0, none⟩) n cap ∧ wr.cell? ⟨gG, i, none⟩ = some g ∧ (g, a) ∈ Gs ∧ an (Gs.map (·.2)) i = a ∧ Rows wr B (L ++ (g, a) :: Gs.drop (i + 1)) := by
  have hl := s.nil_drop
  obtain ⟨gG, cap, hG, _, _⟩ := s.gown.form (by omega)
  have ho := s.gown
  rw [hG] at ho
  refine ⟨gG, cap, (Gs[i]'(by omega)).1, (Gs[i]'(by omega)).2, hG, ?_, List.getElem_mem _, ?_, ?_⟩
  · rw [ho.cellAt i (by omega)]; simp [show i < Gs.length by omega]
  · simp [an, List.getD, show i < Gs.length by omega]
  · have := s.rows
    rw [List.drop_eq_getElem_cons (by omega)] at this
    exact this

/-- One answer is added. -/
theorem Lp.added {f h l : Int} {a : Ck} {e : Ending} {w1 : World} (s : Lp w wr B V G L Gs gc go gl n fc fo fl i ic io il) (hz : ZAdded wr B V f h l L (Gs.drop (i + 1)) a e w1) :
    ∃ V' L' va vc, V' = .slice va L'.length vc ∧ e = .returned (.tuple #[V', .int .i64 (add ⟨L.map (·.2), f, h, l⟩ a).f, .int .i64 (add ⟨L.map (·.2), f, h, l⟩ a).h, .int .i64 (add ⟨L.map (·.2), f, h, l⟩ a).l,
      .int .u32 (refC ⟨L.map (·.2), f, h, l⟩ a : Nat), .int .u32 (refO ⟨L.map (·.2), f, h, l⟩ a : Nat), .int .i64 (a.1.length : Nat)]) ∧
      L'.map (·.2) = (add ⟨L.map (·.2), f, h, l⟩ a).ck ∧ Lp w w1 B V' G L' Gs gc go gl n fc fo fl (i + 1) ic io il := by
  obtain ⟨V', L', he, hown, hck, hrows, hchg, hfar⟩ := hz
  obtain ⟨va, vc, hV'⟩ : ∃ va vc, V' = .slice va L'.length vc := by
    rcases hown.2 with ⟨e, e0⟩ | ⟨g, cap, cur, e, _⟩
    · exact ⟨none, 0, by rw [e, e0]⟩
    · exact ⟨_, _, e⟩
  have hnS : ∀ g, V.ownBlock ≠ some g → (∀ p ∈ L, p.1.ownBlock ≠ some g) → ¬ (V.ownBlock = some g ∨ ∃ p ∈ L, p.1.ownBlock = some g) := fun g h1 h2 hs => by
    rcases hs with h3 | ⟨p, hp, h3⟩
    · exact h1 h3
    · exact h2 p hp h3
  have hL : ∀ p ∈ L, OwnC wr B p.1 p.2 := fun p hp => s.rows.1 p (List.mem_append.2 (.inl hp))
  refine ⟨V', L', va, vc, hV', he, hck, hown, own_chg s.gown hchg (fun g hg => hnS g (fun hv => s.ne g hv hg) (fun p hp hpg => own_types s.gown (hL p hp).1 (by decide) g hg hpg)), ?_, hrows,
    s.cc.chg hchg (hnS _ (s.cc.ne s.own (by decide)) (fun p hp => s.cc.ne (hL p hp).1 (by decide))), s.co.chg hchg (hnS _ (s.co.ne s.own (by decide)) (fun p hp => s.co.ne (hL p hp).1 (by decide))),
    s.cl.chg hchg (hnS _ (s.cl.ne s.own (by decide)) (fun p hp => s.cl.ne (hL p hp).1 (by decide))), s.nco, s.bel.trans (hchg.below B (by have := s.cc.lt; omega) ?_)⟩
  · intro k hk hg
    rcases hfar with h1 | h1
    · exact s.ne k (by rw [← h1]; exact hk) hg
    · have h2 := h1 k hk
      have h3 := (s.gown.lt k hg).2
      omega
  · intro k hk hs
    rcases hs with h1 | ⟨p, hp, h1⟩
    · have := (s.own.lt k h1).1; omega
    · have := ((hL p hp).1.lt k h1).1; omega

/-- The chunks, at the end. -/
theorem Lp.chunk (s : Lp w wr B V G L Gs gc go gl n fc fo fl i ic io il) {j : Nat} (hj : j < L.length) : ∃ gV cap pa, V = .slice (some ⟨gV, 0, none⟩) L.length cap ∧ wr.cell? ⟨gV, j, none⟩ = some (.slice pa ((L.map (·.2)).getD j ([], 0)).1.length ((L.map (·.2)).getD j ([], 0)).2) ∧
    ∀ t, t < ((L.map (·.2)).getD j ([], 0)).1.length → ∃ gp, pa = some ⟨gp, 0, none⟩ ∧ wr.cell? ⟨gp, t, none⟩ = some (.int .u8 (((L.map (·.2)).getD j ([], 0)).1.getD t 0)) := by
  obtain ⟨gV, cap, hV, _, _⟩ := s.own.form (by omega)
  have ho := s.own
  rw [hV] at ho
  have e : (L.map (·.2)).getD j ([], 0) = L[j].2 := by simp [List.getD, hj]
  have hm : L[j] ∈ L := List.getElem_mem hj
  have hoc := s.rows.1 _ (List.mem_append.2 (.inl hm))
  obtain ⟨pa, hpv, hple, _, hpn, hpx, hpc⟩ := hoc.form
  rw [e]
  refine ⟨gV, cap, pa, hV, ?_, fun t ht => ?_⟩
  · rw [ho.cellAt j (by omega), ← hpv]; simp [hj]
  · rcases pa with _ | x
    · have := (hpn rfl).1; omega
    · obtain ⟨gp, rfl, _⟩ := hpx x rfl
      refine ⟨gp, rfl, ?_⟩
      have := hpc _ rfl t ht
      simp [Addr.add] at this
      by_cases h0 : t = 0
      · subst h0; simpa using this
      · simpa [h0] using this
end

/-- At the start. -/
theorem lp_start {w wA wB wC wD wE : World} {V G : Value} {L Gs : Cs} {m n : Nat} {fc fo fl : Nat → Value} {c0 c1 c2 : List Value}
    (a1 : wA.ownsRow w.heap.size 31 1 V m (L.map (·.1))) (a2 : Rows wA w.heap.size L) (a3 : Below w.heap.size w wA)
    (b1 : wB.ownsRow wA.heap.size 31 1 G n (Gs.map (·.1))) (b2 : Rows wB wA.heap.size Gs) (b3 : Below wA.heap.size wA wB)
    (d1 : wC.ownsRow w.heap.size 28 1 (.slice (some ⟨wB.heap.size, 0, none⟩) n n) n c0) (d2 : wB.grownBy wC none)
    (e1 : wD.ownsRow w.heap.size 28 1 (.slice (some ⟨wC.heap.size, 0, none⟩) n n) n c1) (e2 : wC.grownBy wD none)
    (g1 : wE.ownsRow w.heap.size 3 1 (.slice (some ⟨wD.heap.size, 0, none⟩) n n) n c2) (g2 : wD.grownBy wE none) :
    Lp w wE w.heap.size V G L Gs wB.heap.size wC.heap.size wD.heap.size n fc fo fl 0 0 0 0 := by
  have hm : m = L.length := by have := a1.1; simp at this; exact this.symm
  subst hm
  have cN : ∀ {x y : World}, x.grownBy y none → Chg x y (fun _ => False) := fun h => (Chg.refl _ _).grown h (fun _ _ h => by cases h)
  have kAB := chg_of_below b3
  have kBE : Chg wB wE (fun _ => False) := ((cN d2).trans (cN e2)).trans (cN g2)
  have kAE := kAB.trans kBE
  have kCE : Chg wC wE (fun _ => False) := (cN e2).trans (cN g2)
  have hAw : w.heap.size ≤ wA.heap.size := a3.size
  have hsz : wB.heap.size < wC.heap.size := (d1.lt _ rfl).2
  refine ⟨own_chg a1 kAE (fun _ _ => id), own_chg (own_mono b1 hAw) kBE (fun _ _ => id), fun k hk hg => ?_, ?_, ⟨_, own_chg d1 kCE (fun _ _ => id), fun j hj => absurd hj (by omega)⟩, ⟨_, own_chg e1 (cN g2) (fun _ _ => id), fun j hj => absurd hj (by omega)⟩, ⟨_, g1, fun j hj => absurd hj (by omega)⟩, by omega, a3.trans (kAE.below _ hAw (fun _ _ => id))⟩
  · have h1 := (a1.lt k hk).2
    have h2 := (b1.lt k hg).1
    omega
  · have r1 := a2.chg kAE (fun _ _ _ _ => id)
    have r2 := (b2.mono hAw).chg kBE (fun _ _ _ _ => id)
    refine ⟨fun p hp => ?_, ?_⟩
    · rcases List.mem_append.1 hp with h | h
      · exact r1.1 p h
      · exact r2.1 p (by simpa using h)
    · rw [List.drop_zero, List.pairwise_append]
      refine ⟨r1.2, r2.2, fun p hp q hq g h1 h2 => ?_⟩
      have k1 := ((a2.1 p hp).1.lt g h1).2
      have k2 := ((b2.1 q hq).1.lt g h2).1
      omega

end Go.Proofs.Qxb6617183a.Ar
