/-
  THE CLONES: 'zzCloneBytes', 'zzCloneChunks', each as a contract.
-/
import Derived.Test.Qxb6617183aProg
import Derived.Test.Qxb6617183aArMem
import Derived.WalkSpells
import Derived.WalkLawsBesides
namespace Go.Proofs.Qxb6617183a.Ar
open Go.RowKit

theorem info5 : (Try.prog.info? 5).map (fun i => (i.zero, i.size, i.bytes)) = some (some (.int .u8 0), 1, 1) := by kernel_rfl
theorem info31 : (Try.prog.info? 31).map (fun i => (i.zero, i.size, i.bytes)) = some (some (.slice none 0 0), 1, 24) := by kernel_rfl

/-- A slice of bytes that came in: its header, its bytes, its capacity. -/
structure Arg where
  a : Option Addr
  bytes : List Int
  cap : Nat
def Arg.v (r : Arg) : Value := .slice r.a r.bytes.length r.cap
def Arg.ck (r : Arg) : List Int × Nat := (r.bytes, r.cap)
def Arg.ok (w : World) (r : Arg) : Prop := r.bytes.length ≤ r.cap ∧ r.cap ≤ maxLen ∧ (r.a = none → r.cap = 0) ∧
  (0 < r.bytes.length → ∃ b o, r.a = some ⟨b, o, none⟩ ∧ ∀ t, t < r.bytes.length → w.cell? ⟨b, o + t, none⟩ = some (.int .u8 (r.bytes.getD t 0)))

theorem Arg.ok.below {w w' : World} {r : Arg} (h : r.ok w) (hb : Below w.heap.size w w') : r.ok w' := by
  refine ⟨h.1, h.2.1, h.2.2.1, fun h0 => ?_⟩
  obtain ⟨b, o, ha, hc⟩ := h.2.2.2 h0
  exact ⟨b, o, ha, fun t ht => (hb.cell (World.block_lt_of_cell? w _ (hc t ht))).trans (hc t ht)⟩

/-- 'make([]T, n, c)', n AND c VARIABLES. -/
theorem wpList_make_lc {P : Program} (w : World) {ops : Array Oper} {rest : List Oper} {o : Oper} {a : Act} {Q : Exit → Act → World → Prop}
    (hg : o.guard = none) (l c : Operand) (t : TypeId) (hop : o.op = Op.makeSlice t l c)
    (base : Nat) (e : TypeId) (i : TypeInfo) (z : Value) (h1 : P.underlying t = some (.slice e)) (h2 : P.info? e = some i) (h3 : i.zero = some z) (h4 : i.size = 1)
    (kl kc : IntKind) (L C : Int) (n m : Nat) (hl : a.eval l = .int kl L) (hc : a.eval c = .int kc C) (hL : L = (n : Int)) (hC : C = (m : Int)) (hnm : n ≤ m) (b2 : i.bytes * m ≤ 281474976710656) (b3 : m ≤ maxLen) (b4 : base ≤ w.heap.size)
    (hK : ∀ w' xs, w'.ownsRow base e 1 (.slice (some ⟨w.heap.size, 0, none⟩) n m) n xs → w.grownBy w' none → wpList P ops Q rest (a.put o.dst (.slice (some ⟨w.heap.size, 0, none⟩) n m)) w') :
    wpList P ops Q (o :: rest) a w := by
  refine wpList_plain hg fun K hK' => ?_
  subst hL hC
  have h63 : (m : Int) ≤ 9223372036854775807 := by unfold maxLen at b3; omega
  have hb : (i.bytes : Int) * (m : Int) ≤ 281474976710656 := by rw [← Int.natCast_mul]; omega
  have hrun := run_make (P := P) w t e i z h1 h2 h3 kl kc (n : Int) (m : Int) (by omega) (by omega) hb h63
  rw [h4, Nat.mul_one] at hrun
  unfold Oper.wp
  simp only [Int.toNat_natCast] at hrun
  simp [execOp, hop, hl, hc, hrun, Result.andThen]
  refine hK' _ _ (hK _ ((madeCells z.cells m).toList.take n) ⟨?_, .inr ⟨w.heap.size, m, madeCells z.cells m, rfl, b4, heap_alloc_new w _, hnm, b3, by rw [size_madeCells]; omega, by rw [Nat.mul_one]⟩⟩ (World.grownBy_alloc w _ none))
  rw [List.length_take, Array.length_toList, size_madeCells]; omega

/-- A row of the call's own at block g, made in the world W: its first k cells hold L's numbers. -/
def Filled (W wr : World) (g N C : Nat) (L : List Int) (k : Nat) : Prop :=
  ∃ xs, wr.ownsRow W.heap.size 5 1 (.slice (some ⟨g, 0, none⟩) N C) N xs ∧ (∀ t, t < k → xs[t]? = some (.int .u8 (L.getD t 0))) ∧ Below W.heap.size W wr

theorem Filled.cell {W wr : World} {g N C k : Nat} {L : List Int} (h : Filled W wr g N C L k) (j : Nat) (hj : j < N) : ∃ v, wr.cell? ⟨g, j, none⟩ = some v := by
  obtain ⟨xs, hown, _, _⟩ := h
  have hl := hown.1
  refine ⟨xs[j]'(by omega), ?_⟩
  rw [hown.cellAt j (by omega), List.getElem?_eq_getElem]
theorem Filled.free {W wr : World} {g N C k : Nat} {L : List Int} (h : Filled W wr g N C L k) (j : Nat) : wr.frozen? ⟨g, j, none⟩ = false := by
  obtain ⟨xs, hown, _, _⟩ := h
  exact hown.frozenAt j
theorem Filled.step {W wr : World} {g N C k : Nat} {L : List Int} (h : Filled W wr g N C L k) (hk : k < N) : Filled W (wr.setCell ⟨g, k, none⟩ (.int .u8 (L.getD k 0))) g N C L (k + 1) := by
  obtain ⟨xs, hown, hx, hB⟩ := h
  have hb := (hown.lt g rfl).1
  have hl := hown.1
  refine ⟨_, (hown.stored k _).1, fun t ht => ?_, hB.setCell hb _⟩
  by_cases e : t = k
  · subst e
    rw [List.getElem?_set_self (by omega)]
  · rw [List.getElem?_set_ne (by omega)]
    exact hx t (by omega)
theorem Filled.below {W wr : World} {g N C k : Nat} {L : List Int} (h : Filled W wr g N C L k) : Below W.heap.size W wr := by
  obtain ⟨xs, _, _, hB⟩ := h
  exact hB
theorem Filled.own {W wr : World} {g N C : Nat} {L : List Int} (h : Filled W wr g N C L N) (hL : L.length = N) : OwnC wr W.heap.size (.slice (some ⟨g, 0, none⟩) N C) (L, C) := by
  obtain ⟨xs, hown, hx, _⟩ := h
  subst hL
  refine ⟨?_, rfl⟩
  have e : xs = L.map (Value.int .u8) := by
    apply List.ext_getElem?
    intro j
    by_cases hj : j < L.length
    · rw [hx j hj]; simp [List.getD, hj]
    · have hl := hown.1
      rw [List.getElem?_eq_none (by omega), List.getElem?_eq_none (by simp; omega)]
  rw [e] at hown
  exact hown

set_option maxRecDepth 100000 in
set_option maxHeartbeats 1000000 in
theorem clone_bytes (r : Arg) (w : World) (hr : r.ok w) (hcap : r.cap ≤ 1048576) :
    Calls Try.prog 15 #[r.v] w fun e w' => ∃ v, e = .returned v ∧ OwnC w' w.heap.size v r.ck ∧ Below w.heap.size w w' := by
  obtain ⟨a, L, c⟩ := r
  obtain ⟨h1, h2, h3, h4⟩ := hr
  clear h2
  simp only [] at h1 h3 h4 hcap
  show Calls Try.prog 15 #[.slice a L.length c] w _
  obtain ⟨i0, hi, hz0, hz1, hz2⟩ := info_parts info5
  obtain ⟨n, hn⟩ : ∃ n, L.length = n := ⟨_, rfl⟩
  rw [hn] at h1 h4 ⊢
  have HN := hid hn
  clear hn
  have heq := fun w => @Lib.run_eql_slice_nil Try.prog w 31 5 a n c 0 0 Try.underlying31
  rcases a with _ | x
  · have hc0 := h3 rfl
    obtain rfl : n = 0 := by omega
    subst hc0
    clear h4 h3
    go_enter Try.func15, Try.ntmps15
    go_wp2
    go_ret
    exact ⟨_, rfl, ⟨⟨by rw [show (Arg.ck ⟨none, L, 0⟩).1 = L from rfl]; simp [HN.out], .inl ⟨rfl, HN.out⟩⟩, rfl⟩, Below.refl _ _⟩
  · have H4 := hid h4
    clear h4 h3
    go_enter Try.func15, Try.ntmps15
    go_wp2_with (at_make; refine wpList_make_lc _ rfl _ _ 31 rfl w.heap.size 5 i0 (.int .u8 0) Try.underlying31 hi hz0 hz1 _ _ _ _ n c rfl rfl rfl rfl h1 (by rw [hz2]; omega) (by unfold maxLen; omega) (Nat.le_refl _) ?_)
    intro w1 xs hown hgrow
    have HF0 : Hid (Filled w w1 w.heap.size n c L 0) := ⟨xs, hown, fun t ht => absurd ht (by omega), (Below.refl _ _).grown hgrow (Nat.le_refl _) (fun k h => by cases h)⟩
    clear hown hgrow heq
    go_wp2
    go_loopw [4] (fun i wr => ∃ k : Nat, k ≤ n ∧ i = .int .i64 k ∧ Filled w wr w.heap.size n c L k) (fun i _ => n - (intOf i).toNat)
    case atStart => exact ⟨0, Nat.zero_le _, rfl, HF0.out⟩
    case round =>
      obtain ⟨k, hk, rfl, hF⟩ := hrel
      have JF := hid hF
      clear hF HF0
      by_cases hlt : k < n
      · obtain ⟨b, o, hx, hcA⟩ := H4.out (by omega)
        cases hx
        obtain ⟨u, HU⟩ : ∃ u, Hid (u = L.getD k 0) := ⟨_, rfl⟩
        have hcu : wr.cell? ⟨b, o + k, none⟩ = some (.int .u8 u) := by rw [HU.out, ← hcA k hlt]; exact JF.out.below.cell (World.block_lt_of_cell? w _ (hcA k hlt))
        obtain ⟨v, hcv⟩ := JF.out.cell k hlt
        have hfv := JF.out.free k
        have R : Hid (Filled w (wr.setCell ⟨w.heap.size, k, none⟩ (.int .u8 u)) w.heap.size n c L (k + 1)) := by
          have := JF.out.step hlt
          rw [← HU.out] at this; exact this
        clear hcA
        go_wp2
        go_roundw
        case rel => exact ⟨k + 1, by omega, by go_num, R.out⟩
        case measure => simp [intOf]; omega
      · obtain rfl : k = n := by omega
        go_wp2
        go_ret
        exact ⟨_, rfl, JF.out.own HN.out, JF.out.below⟩

/-! ### A slice of slices -/
def noArg : Arg := ⟨none, [], 0⟩
/-- At the address a lie the headers of R, each of them of bytes that can be read. -/
def Mat (w : World) (a : Option Addr) (R : List Arg) : Prop :=
  (0 < R.length → ∃ b o, a = some ⟨b, o, none⟩ ∧ ∀ r, r < R.length → w.cell? ⟨b, o + r, none⟩ = some (R.getD r noArg).v) ∧ ∀ r ∈ R, r.ok w
theorem Mat.below {w w' : World} {a : Option Addr} {R : List Arg} (h : Mat w a R) (hb : Below w.heap.size w w') : Mat w' a R := by
  refine ⟨fun h0 => ?_, fun r hr => (h.2 r hr).below hb⟩
  obtain ⟨b, o, ha, hc⟩ := h.1 h0
  exact ⟨b, o, ha, fun t ht => (hb.cell (World.block_lt_of_cell? w _ (hc t ht))).trans (hc t ht)⟩
theorem Mat.mem {w : World} {a : Option Addr} {R : List Arg} (h : Mat w a R) {k : Nat} (hk : k < R.length) : (R.getD k noArg).ok w ∧ R.getD k noArg ∈ R := by
  have e : R.getD k noArg = R[k] := by simp [List.getD, hk]
  rw [e]
  exact ⟨h.2 _ (List.getElem_mem hk), List.getElem_mem hk⟩

theorem chg_of_below {w w' : World} (h : Below w.heap.size w w') : Chg w w' (fun _ => False) := ⟨h.os, h.tape, h.output, h.size, fun k hk _ => h.block k hk⟩

/-- The clone's row while it is filled. -/
def Half (w wr : World) (g n : Nat) (R : List Arg) (k : Nat) : Prop :=
  ∃ (L : List (Value × (List Int × Nat))) (xs : List Value), L.length = k ∧ wr.ownsRow w.heap.size 31 1 (.slice (some ⟨g, 0, none⟩) n n) n xs ∧ (∀ t, t < k → xs[t]? = (L.map (·.1))[t]?) ∧
    L.map (·.2) = (R.take k).map Arg.ck ∧ Rows wr w.heap.size L ∧ Below w.heap.size w wr

theorem Half.step {w wr w1 : World} {g n k : Nat} {R : List Arg} {v : Value} (h : Half w wr g n R k) (hk : k < n) (hR : R.length = n) (hv : OwnC w1 wr.heap.size v (R.getD k noArg).ck) (hb : Below wr.heap.size wr w1) :
    Half w (w1.setCell ⟨g, k, none⟩ v) g n R (k + 1) := by
  obtain ⟨L, xs, hL, hown, hx, hc, hRows, hB⟩ := h
  have hgl := hown.lt g rfl
  have hown1 : w1.ownsRow w.heap.size 31 1 (.slice (some ⟨g, 0, none⟩) n n) n xs := own_same hown (fun g' hg' => hb.block g' (hown.lt g' hg').2)
  have hst := hown1.stored k v
  have hB1 : Below w.heap.size w w1 := hB.trans (hb.mono hB.size)
  have hch : Chg wr (w1.setCell ⟨g, k, none⟩ v) (fun i => i = g) := Chg.setCell (S := fun i => i = g) (p := ⟨g, k, none⟩) ((chg_of_below hb).mono (fun _ _ h => h.elim)) (fun _ => rfl) v
  have hne : ∀ p ∈ L, ∀ g', p.1.ownBlock = some g' → ¬ g' = g := fun p hp g' hg' e => by
    have := own_types (hRows.1 p hp).1 hown (by decide) g' hg'
    rw [e] at this
    exact this rfl
  have hRows' := hRows.chg hch hne
  have hvn : ∀ g', v.ownBlock = some g' → ¬ g' = g := fun g' hg' e => by
    have := (hv.1.lt g' hg').1
    omega
  have hv' : OwnC (w1.setCell ⟨g, k, none⟩ v) w.heap.size v (R.getD k noArg).ck :=
    ⟨own_mono (own_same hv.1 (fun g' hg' => Below.heap_setCell _ _ _ _ (hvn g' hg'))) hB.size, hv.2⟩
  refine ⟨L ++ [(v, (R.getD k noArg).ck)], _, by simp [hL], hst.1, fun t ht => ?_, ?_, ?_, hB1.setCell hgl.1 v⟩
  · have hxl := hown.1
    by_cases e : t = k
    · subst e
      rw [List.getElem?_set_self (by omega)]
      simp [hL]
    · rw [List.getElem?_set_ne (by omega), hx t (by omega)]
      simp only [List.map_append]
      rw [List.getElem?_append_left (by simp; omega)]
  · rw [List.map_append, hc, List.take_succ_eq_append_getElem (by omega), List.map_append]
    simp [List.getD, show k < R.length by omega]
  · have := Rows.mid (L := L) (R := []) (p := (v, (R.getD k noArg).ck)) (by simpa using hRows') hv' (fun q hq g' hg' e => by
      have h1 := (hv.1.lt g' hg').1
      have h2 := ((hRows.1 q (by simpa using hq)).1.lt g' e).2
      omega)
    exact this

set_option maxRecDepth 100000 in
set_option maxHeartbeats 1000000 in
theorem clone_chunks (a : Option Addr) (n c : Nat) (R : List Arg) (w : World) (hn : R.length = n) (bn : n ≤ 50000) (hM : Mat w a R) (hcap : ∀ r ∈ R, r.cap ≤ 1048576) (ha : a = none → n = 0) :
    Calls Try.prog 8 #[.slice a n c] w fun e w' => ∃ V L, e = .returned V ∧ w'.ownsRow w.heap.size 31 1 V n (L.map (·.1)) ∧ L.map (·.2) = R.map Arg.ck ∧ Rows w' w.heap.size L ∧ Below w.heap.size w w' := by
  obtain ⟨i0, hi, hz0, hz1, hz2⟩ := info_parts info31
  have HN := hid hn; have HM := hid hM; have HC := hid hcap
  clear hn hM hcap
  have heq := fun w => @Lib.run_eql_slice_nil Try.prog w 22 31 a n c 0 0 Try.underlying22
  rcases a with _ | x
  · obtain rfl : n = 0 := ha rfl
    clear ha
    go_enter Try.func8, Try.ntmps8
    go_wp2
    go_ret
    obtain rfl : R = [] := List.eq_nil_of_length_eq_zero HN.out
    exact ⟨_, [], rfl, World.ownsRow_nil _ _ _ _, rfl, Rows.nil _ _, Below.refl _ _⟩
  · clear ha
    go_enter Try.func8, Try.ntmps8
    go_wp2_with (at_make; refine wpList_make_full _ rfl _ _ 22 rfl w.heap.size 31 i0 (.slice none 0 0) 1 Try.underlying22 hi hz0 hz1 _ _ _ _ n rfl rfl rfl rfl (by rw [hz2]; omega) (by unfold maxLen; omega) (Nat.le_refl _) ?_)
    intro w1 hown hgrow
    have HF0 : Hid (Half w w1 w.heap.size n R 0) := ⟨[], _, rfl, hown, fun t ht => absurd ht (by omega), rfl, Rows.nil _ _, (Below.refl _ _).grown hgrow (Nat.le_refl _) (fun k h => by cases h)⟩
    clear hown hgrow heq
    go_wp2
    go_loopw [4] (fun i wr => ∃ k : Nat, k ≤ n ∧ i = .int .i64 k ∧ Half w wr w.heap.size n R k) (fun i _ => n - (intOf i).toNat)
    case atStart => exact ⟨0, Nat.zero_le _, rfl, HF0.out⟩
    case round =>
      obtain ⟨k, hk, rfl, hF⟩ := hrel
      have JF := hid hF
      clear hF HF0
      by_cases hlt : k < n
      · have hB : Below w.heap.size w wr := by obtain ⟨_, _, _, _, _, _, _, hB⟩ := JF.out; exact hB
        have hMr := HM.out.below hB
        obtain ⟨b, o, hx, hcA⟩ := hMr.1 (by rw [HN.out]; omega)
        cases hx
        have hck := hcA k (by rw [HN.out]; exact hlt)
        obtain ⟨r, Hr⟩ : ∃ r, Hid (r = R.getD k noArg) := ⟨_, rfl⟩
        rw [← Hr.out] at hck
        have hmem := hMr.mem (k := k) (by rw [HN.out]; exact hlt)
        rw [← Hr.out] at hmem
        have J15 := hid (clone_bytes r wr hmem.1 (HC.out r hmem.2))
        obtain ⟨ra, rn, rc, hrv⟩ : ∃ ra rn rc, r.v = .slice ra rn rc := ⟨_, _, _, rfl⟩
        rw [hrv] at hck J15
        have Hrv := hid hrv
        clear hMr hcA hmem hB hrv
        go_wp2_with fail
        refine J15.out.mono ?_
        rintro e w1 ⟨v, rfl, hv, hb⟩
        obtain ⟨ao, hvf, _⟩ := hv.form
        have R1 : Hid (Half w (w1.setCell ⟨w.heap.size, k, none⟩ v) w.heap.size n R (k + 1)) := by
          rw [Hr.out] at hv
          exact JF.out.step hlt HN.out hv hb
        have hex : ∃ u, w1.cell? ⟨w.heap.size, k, none⟩ = some u ∧ w1.frozen? ⟨w.heap.size, k, none⟩ = false := by
          obtain ⟨L, xs, _, hown, _⟩ := JF.out
          have hown1 : w1.ownsRow w.heap.size 31 1 (.slice (some ⟨w.heap.size, 0, none⟩) n n) n xs := own_same hown (fun g' hg' => hb.block g' (hown.lt g' hg').2)
          have hl := hown1.1
          exact ⟨xs[k]'(by omega), by rw [hown1.cellAt k (by omega), List.getElem?_eq_getElem], hown1.frozenAt k⟩
        obtain ⟨u, hcu, hfu⟩ := hex
        rw [hvf] at R1 ⊢
        generalize (Arg.ck r).1.length = vn at R1 ⊢
        generalize (Arg.ck r).2 = vc at R1 ⊢
        clear hv hb hvf J15 hck
        go_wp2
        go_roundw
        case rel => exact ⟨k + 1, by omega, by go_num, R1.out⟩
        case measure => simp [intOf]; omega
      · obtain rfl : k = n := by omega
        go_wp2
        go_ret
        obtain ⟨L, xs, hL, hown, hx, hc, hRows, hB⟩ := JF.out
        have e : xs = L.map (·.1) := by
          apply List.ext_getElem?
          intro j
          by_cases hj : j < k
          · exact hx j hj
          · have hl := hown.1
            rw [List.getElem?_eq_none (by omega), List.getElem?_eq_none (by simp; omega)]
        rw [e] at hown
        rw [List.take_of_length_le (by rw [HN.out]; exact Nat.le_refl _)] at hc
        exact ⟨_, L, rfl, hown, hc, hRows, hB⟩

end Go.Proofs.Qxb6617183a.Ar
