/-
  'zzReadsBack' as a contract.
-/
import Derived.Test.Qxb6617183aProg
import Derived.Test.Qxb6617183aArMem
import Derived.BigQuiet
import Derived.Deep.DeepCutAuto
import Derived.WalkSpells
import Derived.WalkLawsBesides
namespace Go.Proofs.Qxb6617183a.Ar
open Go.RowKit

/-- The first n bytes at the one place are those at the other. -/
def Same (w : World) (g o b p n : Nat) : Prop := ∀ t, t < n → ∃ x : Int, w.cell? ⟨g, o + t, none⟩ = some (.int .u8 x) ∧ w.cell? ⟨b, p + t, none⟩ = some (.int .u8 x)
theorem Same.drewN {w : World} {g o b p n : Nat} (h : Same w g o b p n) (q : Nat) : Same (w.drewN q) g o b p n := h

/-- It says yes, and has drawn at most. -/
def Backs (w : World) (e : Ending) (w' : World) : Prop := e = .returned (.bool true) ∧ ∃ z, w' = w.drewN z

set_option maxRecDepth 100000 in
set_option maxHeartbeats 1000000 in
theorem back10 (w : World) (gV m1 cap c o k pl pc rcap : Nat) (pa ra : Option Addr) (hc : c < m1) (bm : m1 ≤ 90000) (hch : w.cell? ⟨gV, c, none⟩ = some (.slice pa pl pc)) (h1 : o + k ≤ pl) (h2 : pl ≤ 1048576)
    (hs : 0 < k → ∃ g b p, pa = some ⟨g, 0, none⟩ ∧ ra = some ⟨b, p, none⟩ ∧ Same w g o b p k) :
    Calls Try.prog 10 #[.slice (some ⟨gV, 0, none⟩) m1 cap, .int .u32 (c : Nat), .int .u32 (o : Nat), .int .i64 (k : Nat), .slice ra k rcap] w fun e w' => Backs w e w' := by
  have HS := hid hs
  clear hs
  go_enter Try.func10, Try.ntmps10
  go_wp2
  go_loopw [13] (fun i wr => ∃ j : Nat, j ≤ k ∧ i = .int .i64 j ∧ Hid (∃ z, wr = w.drewN z)) (fun i _ => k - (intOf i).toNat)
  case atStart => exact ⟨0, Nat.zero_le _, rfl, ⟨0, rfl⟩⟩
  case round =>
    obtain ⟨j, hj, rfl, Hz⟩ := hrel
    by_cases hlt : j < k
    · obtain ⟨g, b, p, rfl, rfl, hsame⟩ := HS.out (by omega)
      obtain ⟨x, x1, x2⟩ := hsame j hlt
      have y1 : wr.cell? ⟨g, o + j, none⟩ = some (.int .u8 x) := by obtain ⟨z, e⟩ := Hz.out; rw [e]; exact x1
      have y2 : wr.cell? ⟨b, p + j, none⟩ = some (.int .u8 x) := by obtain ⟨z, e⟩ := Hz.out; rw [e]; exact x2
      clear hsame x1 x2 hch
      go_upto_region 12 with fail
      go_quiet (fail)
      go_wp2
      go_roundw
      case rel => exact ⟨j + 1, by omega, by go_num, by obtain ⟨z, e⟩ := Hz.out; exact ⟨_, by rw [e, World.drewN_drewN]⟩⟩
      case measure => simp [intOf]; omega
    · go_wp2
      go_ret
      exact ⟨rfl, Hz.out⟩

end Go.Proofs.Qxb6617183a.Ar
