/-
  A SLICE OF SLICES OF BYTES THAT CAME IN, as the walks read it.
-/
import Derived.Test.Qxb6617183aArGuard
import Derived.Deep.Matrix
namespace Go.Proofs.Qxb6617183a.Ar
open Go.RowKit Go.ChangeShapes Go.WideShapes

theorem getD_take' (l : List Int) (n t : Nat) (h : t < n) : (l.take n).getD t 0 = l.getD t 0 := by
  simp [List.getD, h]

theorem arg_ok {w : World} {A : Option Addr} {L C : Nat} {Z : List Int} (h1 : L ≤ C) (h2 : C ≤ maxLen) (h3 : Z.length = C) (h4 : A = none → C = 0)
    (h5 : ∀ a', A = some a' → ∀ c, c < C → w.cell? (a'.add c) = some (.int .u8 (Z.getD c 0))) : Arg.ok w ⟨A, Z.take L, C⟩ ∧ (⟨A, Z.take L, C⟩ : Arg).v = .slice A L C := by
  have hl : (Z.take L).length = L := by rw [List.length_take]; omega
  refine ⟨⟨?_, h2, h4, fun h0 => ?_⟩, ?_⟩
  · show (Z.take L).length ≤ C; omega
  · have h0 : 0 < (Z.take L).length := h0
    rcases A with _ | x
    · have := h4 rfl; omega
    · obtain ⟨b, off, spot⟩ := x
      have hspot : spot = none := by simpa [Addr.add] using World.cell?_spot (h5 _ rfl 0 (by omega))
      subst hspot
      refine ⟨b, off, rfl, fun t ht => ?_⟩
      have ht : t < (Z.take L).length := ht
      show w.cell? ⟨b, off + t, none⟩ = some (.int .u8 ((Z.take L).getD t 0))
      rw [getD_take' _ _ _ (by omega), ← Addr.add_lit]
      exact h5 _ rfl t (by omega)
  · show Value.slice A (Z.take L).length C = _; rw [hl]

theorem mat_open {H : Type} {enc : TypeId × Value → H} {w : World} {base fuel : Nat} {held : Bool} {a : Option Addr} {len cap : Nat} {x : DataW H × List MemPlace}
    (h : DataW.trod enc Try.prog w base (fun _ => true) held fuel 22 (Value.slice a len cap).cells.toList = some x) : ∃ R : List Arg, R.length = len ∧ len ≤ maxLen ∧ Mat w a R ∧ (a = none → len = 0) := by
  rcases Deep.open_int_rows Try.underlying22 Try.underlying31 Try.underlying5 (by kernel_rfl) (by kernel_rfl) h with ⟨hcs, _⟩ | ⟨a', len', cap', A, L, C, Z, hcs, _, hl, hm, _, hr⟩
  · simp [Value.cells] at hcs
    obtain ⟨rfl, rfl, rfl⟩ := hcs
    exact ⟨[], rfl, Nat.zero_le _, ⟨fun h => absurd h (by simp), fun r hr => by cases hr⟩, fun _ => rfl⟩
  · simp [Value.cells] at hcs
    obtain ⟨rfl, rfl, rfl⟩ := hcs
    have each : ∀ r, r < len → Arg.ok w ⟨A r, (Z r).take (L r), C r⟩ ∧ (⟨A r, (Z r).take (L r), C r⟩ : Arg).v = .slice (A r) (L r) (C r) := fun r hrl => by
      obtain ⟨q1, q2, q3, q4, q5, q6, q7⟩ := hr r (by omega)
      exact arg_ok q2 q3 q4 q6 (fun y hy => (q7 y hy).2)
    refine ⟨(List.range len).map fun r => ⟨A r, (Z r).take (L r), C r⟩, by simp, Nat.le_trans hl hm, ⟨fun h0 => ?_, fun r hr' => ?_⟩, fun h => by cases h⟩
    · have h0 : 0 < len := by simpa using h0
      obtain ⟨b, off, spot⟩ := a'
      have hspot : spot = none := by simpa [Addr.add] using World.cell?_spot (hr 0 (by omega)).1
      subst hspot
      refine ⟨b, off, rfl, fun t ht => ?_⟩
      have ht : t < len := by simpa using ht
      have e : ((List.range len).map fun r => (⟨A r, (Z r).take (L r), C r⟩ : Arg)).getD t noArg = ⟨A t, (Z t).take (L t), C t⟩ := by simp [List.getD, ht]
      rw [e, (each t ht).2, ← Addr.add_lit]
      exact (hr t (by omega)).1
    · obtain ⟨r', h1, rfl⟩ := List.mem_map.1 hr'
      exact (each r' (List.mem_range.1 h1)).1

end Go.Proofs.Qxb6617183a.Ar
