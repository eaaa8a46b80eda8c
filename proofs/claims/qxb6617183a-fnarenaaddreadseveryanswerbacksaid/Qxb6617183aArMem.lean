/-
  MEMORY OF THE CALL's OWN FOR THE ARENA LAWS: what has changed between two worlds; slices of bytes that the call owns, each in a block of its own.
-/
import Derived.WalkKit
import Derived.BigQuiet
namespace Go.Proofs.Qxb6617183a.Ar
open Go.RowKit

theorem hid {p : Prop} (h : p) : Hid p := h

/-- Between w and w' blocks that were there have turned only where S says so. -/
structure Chg (w w' : World) (S : Nat → Prop) : Prop where
  os : w'.os = w.os
  tape : w'.tape = w.tape
  output : w'.output = w.output
  size : w.heap.size ≤ w'.heap.size
  block : ∀ k, k < w.heap.size → ¬ S k → w'.heap[k]? = w.heap[k]?

theorem Chg.refl (w : World) (S : Nat → Prop) : Chg w w S := ⟨rfl, rfl, rfl, Nat.le_refl _, fun _ _ _ => rfl⟩
theorem Chg.mono {w w' : World} {S S' : Nat → Prop} (h : Chg w w' S) (hs : ∀ k, k < w.heap.size → S k → S' k) : Chg w w' S' :=
  ⟨h.os, h.tape, h.output, h.size, fun k hk hn => h.block k hk (fun s => hn (hs k hk s))⟩
theorem Chg.trans {a b c : World} {S : Nat → Prop} (h : Chg a b S) (k : Chg b c S) : Chg a c S :=
  ⟨k.os.trans h.os, k.tape.trans h.tape, k.output.trans h.output, Nat.le_trans h.size k.size, fun i hi hs => (k.block i (Nat.lt_of_lt_of_le hi h.size) hs).trans (h.block i hi hs)⟩
/-- .. where the second step's own condition speaks of more. -/
theorem Chg.then {a b c : World} {S S' : Nat → Prop} (h : Chg a b S) (k : Chg b c S') (hs : ∀ i, i < a.heap.size → S' i → S i) : Chg a c S :=
  ⟨k.os.trans h.os, k.tape.trans h.tape, k.output.trans h.output, Nat.le_trans h.size k.size, fun i hi hn => (k.block i (Nat.lt_of_lt_of_le hi h.size) (fun s => hn (hs i hi s))).trans (h.block i hi hn)⟩
theorem Chg.alloc {a w : World} {S : Nat → Prop} (h : Chg a w S) (o : Obj) : Chg a (w.alloc o) S :=
  h.trans ⟨rfl, rfl, rfl, by simp, fun k hk _ => Below.heap_alloc _ _ _ hk⟩
theorem Chg.setCell {a w : World} {S : Nat → Prop} (h : Chg a w S) {p : Addr} (hp : p.block < a.heap.size → S p.block) (u : Value) : Chg a (w.setCell p u) S := by
  refine ⟨h.os, h.tape, h.output, by simpa [World.setCell] using h.size, fun k hk hn => ?_⟩
  rw [Below.heap_setCell _ _ _ _ (fun e => hn (by rw [e]; exact hp (by rw [← e]; exact hk)))]
  exact h.block k hk hn
theorem Chg.drewN {a w : World} {S : Nat → Prop} (h : Chg a w S) (q : Nat) : Chg a (w.drewN q) S := ⟨h.os, h.tape, h.output, h.size, h.block⟩
theorem Chg.drew {a w : World} {S : Nat → Prop} (h : Chg a w S) : Chg a w.drew S := ⟨h.os, h.tape, h.output, h.size, h.block⟩
theorem Chg.grown {a w w' : World} {S : Nat → Prop} {row : Option Nat} (h : Chg a w S) (hg : w.grownBy w' row) (hr : ∀ k, k < a.heap.size → row = some k → S k) : Chg a w' S :=
  h.then (S' := fun k => row = some k) ⟨hg.os, hg.tape, hg.output, hg.size, fun k hk hn => hg.block k hk (fun e => hn e.symm)⟩ hr
theorem Chg.below {w w' : World} {S : Nat → Prop} (h : Chg w w' S) (B : Nat) (hB : B ≤ w.heap.size) (hs : ∀ k, k < B → ¬ S k) : Below B w w' :=
  ⟨h.os, h.tape, h.output, h.size, fun k hk => h.block k (by omega) (hs k hk)⟩
theorem Chg.cell {w w' : World} {S : Nat → Prop} (h : Chg w w' S) {p : Addr} {v : Value} (hp : ¬ S p.block) (hc : w.cell? p = some v) : w'.cell? p = some v :=
  (World.cell?_of_block (h.block p.block (World.block_lt_of_cell? w p hc) hp)).trans hc
theorem Chg.row {w w' : World} {S : Nat → Prop} (h : Chg w w' S) {k : Nat} {o : Obj} (hp : ¬ S k) (hc : w.heap[k]? = some o) : w'.heap[k]? = some o :=
  (h.block k (Array.getElem?_eq_some_iff.1 hc).1 hp).trans hc

/-- What is owned stays owned where its own block has not turned. -/
theorem own_same {w w' : World} {B : Nat} {e : TypeId} {s : Nat} {v : Value} {n : Nat} {xs : List Value} (h : w.ownsRow B e s v n xs) (hb : ∀ g, v.ownBlock = some g → w'.heap[g]? = w.heap[g]?) : w'.ownsRow B e s v n xs := by
  refine ⟨h.1, ?_⟩
  rcases h.2 with hn | ⟨g, cap, cur, rfl, hbg, hgg, rest⟩
  · exact .inl hn
  · exact .inr ⟨g, cap, cur, rfl, hbg, by rw [hb g rfl]; exact hgg, rest⟩
theorem own_chg {w w' : World} {S : Nat → Prop} {B : Nat} {e : TypeId} {s : Nat} {v : Value} {n : Nat} {xs : List Value} (h : w.ownsRow B e s v n xs) (hc : Chg w w' S) (hs : ∀ g, v.ownBlock = some g → ¬ S g) : w'.ownsRow B e s v n xs :=
  own_same h (fun g hg => hc.block g (h.lt g hg).2 (hs g hg))
theorem own_mono {w : World} {B B' : Nat} {e : TypeId} {s : Nat} {v : Value} {n : Nat} {xs : List Value} (h : w.ownsRow B e s v n xs) (hB : B' ≤ B) : w.ownsRow B' e s v n xs := by
  refine ⟨h.1, ?_⟩
  rcases h.2 with hn | ⟨g, cap, cur, rfl, hbg, rest⟩
  · exact .inl hn
  · exact .inr ⟨g, cap, cur, rfl, by omega, rest⟩
/-- Rows of two element types lie in two blocks. -/
theorem own_types {w : World} {B B' : Nat} {e e' : TypeId} {s s' : Nat} {v v' : Value} {n n' : Nat} {xs xs' : List Value} (h : w.ownsRow B e s v n xs) (h' : w.ownsRow B' e' s' v' n' xs') (he : e ≠ e') (g : Nat) (hg : v.ownBlock = some g) : v'.ownBlock ≠ some g := by
  intro hg'
  rcases h.2 with ⟨rfl, _⟩ | ⟨g1, _, _, rfl, _, hh, _⟩
  · simp [Value.ownBlock] at hg
  rcases h'.2 with ⟨rfl, _⟩ | ⟨g2, _, _, rfl, _, hh', _⟩
  · simp [Value.ownBlock] at hg'
  simp [Value.ownBlock] at hg hg'
  subst hg hg'
  rw [hh] at hh'
  simp at hh'
  exact he hh'.2
/-- The type of an owned row's block. -/
theorem own_block {w : World} {B : Nat} {e : TypeId} {s : Nat} {v : Value} {n : Nat} {xs : List Value} (h : w.ownsRow B e s v n xs) {g : Nat} (hg : v.ownBlock = some g) : ∃ cur, w.heap[g]? = some (.cells cur e (0, 0)) := by
  rcases h.2 with ⟨rfl, _⟩ | ⟨g1, _, cur, rfl, _, hh, _⟩
  · simp [Value.ownBlock] at hg
  · simp [Value.ownBlock] at hg
    subst hg
    exact ⟨cur, hh⟩

/-! ### Chunks: a slice of bytes that the call owns: its bytes and its capacity -/
def nilV : Value := .slice none 0 0
def capV : Value → Nat
  | .slice _ _ c => c
  | _ => 0

def OwnC (w : World) (B : Nat) (v : Value) (c : List Int × Nat) : Prop := w.ownsRow B 5 1 v c.1.length (c.1.map (Value.int .u8)) ∧ capV v = c.2

theorem OwnC.form {w : World} {B : Nat} {v : Value} {c : List Int × Nat} (h : OwnC w B v c) :
    ∃ ao, v = .slice ao c.1.length c.2 ∧ c.1.length ≤ c.2 ∧ c.2 ≤ maxLen ∧ (ao = none → c.1.length = 0 ∧ c.2 = 0) ∧ (∀ x, ao = some x → ∃ g, x = ⟨g, 0, none⟩ ∧ B ≤ g ∧ v.ownBlock = some g ∧ g < w.heap.size) ∧
      ∀ x, ao = some x → ∀ j, j < c.1.length → w.cell? (x.add j) = some (.int .u8 (c.1.getD j 0)) := by
  obtain ⟨⟨hl, ho⟩, hc⟩ := h
  rcases ho with ⟨rfl, hn⟩ | ⟨g, cap, cur, rfl, hb, hg, hle, hm, hs, ht⟩
  · have hc' : c.2 = 0 := hc.symm
    refine ⟨none, by rw [hn, hc'], by omega, by omega, (fun _ => ⟨hn, hc'⟩), (fun x hx => (by cases hx)), (fun x hx => (by cases hx))⟩
  · have hc' : c.2 = cap := hc.symm
    subst hc'
    refine ⟨some ⟨g, 0, none⟩, rfl, hle, hm, (fun h => (by cases h)), (fun x hx => ⟨g, (Option.some.inj hx).symm, hb, rfl, (Array.getElem?_eq_some_iff.1 hg).1⟩), fun x hx j hj => ?_⟩
    obtain rfl := Option.some.inj hx
    rw [Addr.add_lit, Nat.zero_add, cell_of_row w g j cur 5 (0, 0) hg]
    have := congrArg (fun l => l[j]?) ht
    simp only [List.getElem?_take, List.getElem?_map] at this
    rw [if_pos (by omega)] at this
    simp only [Array.getElem?_toList] at this
    rw [this]
    simp [List.getD, hj]

/-- No block is shared. -/
def Apart (p q : Value × (List Int × Nat)) : Prop := ∀ g, p.1.ownBlock = some g → q.1.ownBlock ≠ some g
def Rows (w : World) (B : Nat) (L : List (Value × (List Int × Nat))) : Prop := (∀ p ∈ L, OwnC w B p.1 p.2) ∧ L.Pairwise Apart

theorem Rows.chg {w w' : World} {S : Nat → Prop} {B : Nat} {L : List (Value × (List Int × Nat))} (h : Rows w B L) (hc : Chg w w' S) (hs : ∀ p ∈ L, ∀ g, p.1.ownBlock = some g → ¬ S g) : Rows w' B L :=
  ⟨fun p hp => ⟨own_chg (h.1 p hp).1 hc (hs p hp), (h.1 p hp).2⟩, h.2⟩
theorem Rows.mono {w : World} {B B' : Nat} {L : List (Value × (List Int × Nat))} (h : Rows w B L) (hB : B' ≤ B) : Rows w B' L := ⟨fun p hp => ⟨own_mono (h.1 p hp).1 hB, (h.1 p hp).2⟩, h.2⟩
theorem Rows.nil (w : World) (B : Nat) : Rows w B [] := ⟨fun p hp => (by cases hp), List.Pairwise.nil⟩
theorem Rows.sub {w : World} {B : Nat} {L L' : List (Value × (List Int × Nat))} (h : Rows w B L) (hs : L'.Sublist L) : Rows w B L' := ⟨fun p hp => h.1 p (hs.subset hp), h.2.sublist hs⟩
/-- One chunk more, in a block that none of the others has. -/
theorem Rows.mid {w : World} {B : Nat} {L R : List (Value × (List Int × Nat))} {p : Value × (List Int × Nat)} (h : Rows w B (L ++ R)) (hp : OwnC w B p.1 p.2) (hf : ∀ q ∈ L ++ R, ∀ g, p.1.ownBlock = some g → q.1.ownBlock ≠ some g) : Rows w B (L ++ p :: R) := by
  refine ⟨fun q hq => ?_, ?_⟩
  · rcases List.mem_append.1 hq with h1 | h1
    · exact h.1 q (List.mem_append.2 (.inl h1))
    · rcases List.mem_cons.1 h1 with rfl | h2
      · exact hp
      · exact h.1 q (List.mem_append.2 (.inr h2))
  · have h2 := List.pairwise_append.1 h.2
    refine List.pairwise_append.2 ⟨h2.1, List.pairwise_cons.2 ⟨fun q hq g hg => hf q (List.mem_append.2 (.inr hq)) g hg, h2.2.1⟩, fun a ha b hb g hg => ?_⟩
    rcases List.mem_cons.1 hb with rfl | hb
    · exact fun e => hf a (List.mem_append.2 (.inl ha)) g e hg
    · exact h2.2.2 a ha b hb g hg

end Go.Proofs.Qxb6617183a.Ar
