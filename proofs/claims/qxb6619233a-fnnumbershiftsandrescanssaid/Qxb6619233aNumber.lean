/-
  THE WALK OF 'number'.
-/
import Derived.Test.Qxb6619233aScan
import Derived.Deep.DeepCutAuto
import Derived.RegionTactic
namespace Go.Proofs.Qxb6619233a.Num
open Go.RowKit

/-- The scanner has read n bytes. -/
def St (w0 w : World) (b : Nat) (s : ByteArray) (o : Nat) (c : Int) (n : Nat) : Prop := Scan w0 w b s (o + n) (wrap64 (c + (n : Nat)))

theorem st_digits {w0 wx : World} {b : Nat} {s : ByteArray} {o : Nat} {c : Int} {n : Nat} (L : List UInt8) (hL : L = s.data.toList.drop o) (bs : s.size ≤ 1048576) (hn : o + n ≤ s.size) (h : St w0 wx b s o c n) :
    Calls Try.prog 21 #[.pointer (some ⟨b, 0, none⟩)] wx fun e w' => e = .returned (.tuple #[]) ∧ St w0 w' b s o c (n + dl (L.drop n)) := by
  have := skipDigits_any w0 wx b s (o + n) (c + (n : Nat)) h bs hn
  rw [← List.drop_drop, ← hL] at this
  refine this.mono fun e w' ⟨h1, h2⟩ => ⟨h1, ?_⟩
  have e1 : o + n + dl (L.drop n) = o + (n + dl (L.drop n)) := by omega
  have e2 : c + (n : Nat) + (dl (L.drop n) : Nat) = c + ((n + dl (L.drop n) : Nat) : Int) := by omega
  rw [e1, e2] at h2
  exact h2

theorem st_peek {w0 wx : World} {b : Nat} {s : ByteArray} {o : Nat} {c : Int} {n : Nat} (L : List UInt8) (hL : L = s.data.toList.drop o) (h : St w0 wx b s o c n) :
    Calls Try.prog 22 #[.pointer (some ⟨b, 0, none⟩)] wx fun e w' => e = .returned (.int .u8 (hd (L.drop n))) ∧ St w0 w' b s o c n := by
  have := peek_any w0 wx b s (o + n) _ h
  rw [← List.drop_drop, ← hL] at this
  exact this

theorem st_skip {w0 wx : World} {b : Nat} {s : ByteArray} {o : Nat} {c : Int} {n : Nat} (hn : o + n ≤ 1048576) (h : St w0 wx b s o c n) :
    Calls Try.prog 23 #[.pointer (some ⟨b, 0, none⟩), .int .i64 1] wx fun e w' => e = .returned (.tuple #[]) ∧ St w0 w' b s o c (n + 1) := by
  refine (skip_any w0 wx b s (o + n) _ h hn).mono fun e w' ⟨h1, h2⟩ => ⟨h1, ?_⟩
  rw [wrap_more] at h2
  exact h2

/-- Where a byte is read that is not 0 there is one. -/
theorem lt_of_hd {L : List UInt8} {n : Nat} {x : Int} (h : hd (L.drop n) = x) (h0 : x ≠ 0) : n < L.length := by
  have := pos_of_hd h h0
  rw [List.length_drop] at this
  omega

/-- The text of an invalid token. -/
def noDigits : ByteArray := { data := #[101, 120, 112, 111, 110, 101, 110, 116, 32, 119, 105, 116, 104, 111, 117, 116, 32, 100, 105, 103, 105, 116, 115] }
/-- A token's text and column, off its kind and length. -/
def txt (k : Nat) (s : ByteArray) (o n : Nat) : ByteArray := if k = 1 then noDigits else s.extract o (o + n)
def tcol (k : Nat) (c : Int) (n : Nat) : Int := if k = 1 then wrap64 (c + (n : Nat)) else wrap64 c

/-- What 'number' leaves. -/
def Left (w : World) (b : Nat) (s : ByteArray) (o : Nat) (c : Int) (k n : Nat) (e : Ending) (w' : World) : Prop :=
  e = .returned (.agg #[.int .u8 k, .string (txt k s o n), .int .i64 (tcol k c n)]) ∧ w'.heap[b]? = some (.cells #[.string s, .int .i64 ((o + n : Nat) : Int), .int .i64 (wrap64 (c + (n : Nat)))] 35 (0, 0)) ∧ Below b w w'

theorem tok_set {w w0 wc : World} {b : Nat} {s : ByteArray} {p : Nat} {c : Int} (X : Obj) (hW : w0 = w.alloc X) (hb : b < w.heap.size) (hS : Scan w0 wc b s p c) {a0 a1 a2 : Value} (hT : wc.heap[w.heap.size]? = some (.cells #[a0, a1, a2] 38 (0, 0))) (k t v : Value) :
    let wf := ((wc.setCell ⟨w.heap.size, 0, none⟩ k).setCell ⟨w.heap.size, 1, none⟩ t).setCell ⟨w.heap.size, 2, none⟩ v
    wf.heap[w.heap.size]? = some (.cells #[k, t, v] 38 (0, 0)) ∧ wf.heap[b]? = some (.cells #[.string s, .int .i64 p, .int .i64 c] 35 (0, 0)) ∧ Below b w wf := by
  have h1 := heap_setCell_same wc w.heap.size 0 _ _ k hT
  have h2 := heap_setCell_same _ w.heap.size 1 _ _ t h1
  have h3 := heap_setCell_same _ w.heap.size 2 _ _ v h2
  have ho : ∀ j, j ≠ w.heap.size → (((wc.setCell ⟨w.heap.size, 0, none⟩ k).setCell ⟨w.heap.size, 1, none⟩ t).setCell ⟨w.heap.size, 2, none⟩ v).heap[j]? = wc.heap[j]? := fun j hj => by
    rw [Below.heap_setCell _ _ _ _ hj, Below.heap_setCell _ _ _ _ hj, Below.heap_setCell _ _ _ _ hj]
  refine ⟨by rw [h3]; rfl, by rw [ho b (by omega)]; exact hS.row, ⟨hS.os.trans (by rw [hW]; rfl), hS.tape.trans (by rw [hW]; rfl), hS.output.trans (by rw [hW]; rfl), ?_, fun j hj => ?_⟩⟩
  · have := hS.size
    rw [hW] at this
    simp [World.setCell] at this ⊢
    omega
  · rw [ho j (by omega), hS.other j (by omega), hW]
    exact Below.heap_alloc _ _ _ (by omega)

set_option maxRecDepth 100000 in
set_option maxHeartbeats 1000000 in
theorem number_any (w : World) (b : Nat) (s : ByteArray) (o : Nat) (c : Int) (hrow : w.heap[b]? = some (.cells #[.string s, .int .i64 o, .int .i64 (wrap64 c)] 35 (0, 0))) (bs : s.size ≤ 1048576) (bo : o ≤ s.size) :
    Calls Try.prog 19 #[.pointer (some ⟨b, 0, none⟩)] w fun e w' => ∃ k n, numL (s.data.toList.drop o) = (k, n) ∧ Left w b s o c k n e w' := by
  have hb : b < w.heap.size := (Array.getElem?_eq_some_iff.1 hrow).1
  obtain ⟨cv, HC⟩ : ∃ cv, Hid (cv = wrap64 c) := ⟨_, rfl⟩
  rw [← HC.out] at hrow
  have hc1 : w.cell? ⟨b, 1, none⟩ = some (.int .i64 o) := by rw [cell_of_row w b 1 _ _ _ hrow]; rfl
  have hc2 : w.cell? ⟨b, 2, none⟩ = some (.int .i64 cv) := by rw [cell_of_row w b 2 _ _ _ hrow]; rfl
  have HR := hid hrow
  clear hrow
  obtain ⟨L, HL⟩ : ∃ L, Hid (L = s.data.toList.drop o) := ⟨_, rfl⟩
  have hlen : Hid (o + L.length = s.size) := by
    have h1 : L.length = s.data.toList.length - o := by rw [HL.out, List.length_drop]
    have h2 : s.data.toList.length = s.size := rfl
    have h3 : o + L.length = s.size := by omega
    exact h3
  go_enter Try.func19, Try.ntmps19
  go_wp2
  go_quiet (fail)
  obtain ⟨w0, HW⟩ : ∃ w0, Hid (w0 = w.alloc (Obj.cells #[Value.int IntKind.u8 0, Value.string { data := #[] }, Value.int IntKind.i64 0] 38)) := ⟨_, rfl⟩
  rw [← HW.out]
  have JS0 : Hid (St w0 (w0.drewN nq) b s o c 0) := by
    have h : Scan w0 w0 b s o (wrap64 c) := ⟨by rw [HW.out, Below.heap_alloc _ _ _ hb, HR.out, HC.out], rfl, fun _ _ => rfl, rfl, rfl, rfl⟩
    have h' := h.drewN nq
    have : St w0 (w0.drewN nq) b s o c 0 := by unfold St; simpa using h'
    exact this
  have e0 : Hid (0 + dl (L.drop 0) = dl L) := by
    have h : 0 + dl (L.drop 0) = dl L := by simp
    exact h
  have bd1 := dl_le L
  obtain ⟨d1, HD1⟩ : ∃ d, Hid (d = dl L) := ⟨_, rfl⟩
  obtain ⟨x1, HX1⟩ : ∃ x, Hid (hd (L.drop d1) = x) := ⟨_, rfl⟩
  rw [← HD1.out] at bd1
  have Jb := hid bd1
  clear bd1
  go_upto_if 20 with (first
    | (go_at_call 21; refine (st_digits L HL.out bs bo JS0.out).mono ?_; rintro e w1 ⟨rfl, hw1⟩; rw [e0.out, ← HD1.out] at hw1; have JS1 := hid hw1; clear hw1)
    | (go_at_call 22; refine (st_peek L HL.out JS1.out).mono ?_; rw [HX1.out]; rintro e w2 ⟨rfl, hw2⟩; have JS2 := hid hw2; clear hw2))
  go_cut [5] (fun s5 w3 => ∃ k n : Nat, frac L = (k, n) ∧ n ≤ L.length ∧ s5 = .int .u8 k ∧ St w0 w3 b s o c n)
  case first => as_aux_lemma =>
    by_cases h46 : x1 = 46
    · subst h46
      have hlt := lt_of_hd HX1.out (by decide)
      have b1 : o + d1 ≤ 1048576 := by have := hlen.out; omega
      have b2 : o + (d1 + 1) ≤ s.size := by have := hlen.out; omega
      have hfr : Hid (frac L = (3, d1 + 1 + dl (L.drop (d1 + 1)))) := by
        have h : frac L = (3, dl L + 1 + dl (L.drop (dl L + 1))) := by unfold frac; rw [← HD1.out, HX1.out]; rfl
        rw [HD1.out]; exact h
      have hle : d1 + 1 + dl (L.drop (d1 + 1)) ≤ L.length := by have := dl_le (L.drop (d1 + 1)); rw [List.length_drop] at this; omega
      have Hle := hid hle
      clear hle
      go_wp2_with (first
        | (go_at_call 23; refine (st_skip b1 JS2.out).mono ?_; rintro e w3 ⟨rfl, hw3⟩; have JS3 := hid hw3; clear hw3)
        | (go_at_call 21; refine (st_digits L HL.out bs b2 JS3.out).mono ?_; rintro e w4 ⟨rfl, hw4⟩; have JS4 := hid hw4; clear hw4))
      go_meet
      case rel => exact ⟨3, _, hfr.out, Hle.out, rfl, JS4.out⟩
    · have hfr : Hid (frac L = (2, d1)) := by
        have h : frac L = (2, d1) := by unfold frac; rw [← HD1.out, HX1.out, if_neg h46]
        exact h
      go_wp2
      go_meet
      case rel => exact ⟨2, d1, hfr.out, Jb.out, rfl, JS2.out⟩
  case rest =>
    obtain ⟨k, n, hfr, hn, rfl, hS⟩ := hcut
    have HF := hid hfr; have JS := hid hS; have Hn := hid hn
    clear hfr hS hn JS0 JS1 JS2 HX1 HD1 e0 Jb
    obtain ⟨x2, HX2⟩ : ∃ x, Hid (hd (L.drop n) = x) := ⟨_, rfl⟩
    go_upto_region 9 with (go_at_call 22; refine (st_peek L HL.out JS.out).mono ?_; rw [HX2.out]; rintro e w2 ⟨rfl, hw2⟩; have JS2 := hid hw2; clear hw2)
    obtain ⟨be, HBE⟩ : ∃ q, Hid (q = decide (x2 = 101 ∨ x2 = 69)) := ⟨_, rfl⟩
    go_cut [32] (fun q w3 => q = .bool be ∧ w2 = w3)
    case first => as_aux_lemma =>
      by_cases h1 : x2 = 101
      · subst h1
        go_wp2
        go_meet
        case rel => exact ⟨by rw [HBE.out]; rfl, rfl⟩
      · by_cases h2 : x2 = 69
        · subst h2
          go_wp2
          go_meet
          case rel => exact ⟨by rw [HBE.out]; rfl, rfl⟩
        · go_wp2
          go_meet
          case rel => exact ⟨by rw [HBE.out]; simp [h1, h2], rfl⟩
    case rest =>
    obtain ⟨rfl, rfl⟩ := hcut
    go_upto_if 32 with fail
    go_cut [5] (fun s5 w3 => ∃ k n : Nat, numL L = (k, n) ∧ n ≤ L.length ∧ (k = 2 ∨ k = 3) ∧ s5 = .int .u8 k ∧ St w0 w3 b s o c n)
    case first => as_aux_lemma =>
      by_cases he : x2 = 101 ∨ x2 = 69
      · obtain rfl : be = true := by rw [HBE.out]; exact decide_eq_true he
        have hlt := lt_of_hd HX2.out (by rcases he with h | h <;> rw [h] <;> decide)
        have b1 : o + n ≤ 1048576 := by have := hlen.out; omega
        obtain ⟨x3, HX3⟩ : ∃ x, Hid (hd (L.drop (n + 1)) = x) := ⟨_, rfl⟩
        obtain ⟨m, HM⟩ : ∃ m, Hid (m = sgn L (n + 1)) := ⟨_, rfl⟩
        obtain ⟨x4, HX4⟩ : ∃ x, Hid (hd (L.drop m) = x) := ⟨_, rfl⟩
        have hnum : Hid (numL L = (if dg x4 = true then (3, m + dl (L.drop m)) else (1, m))) := by
          have h : numL L = (if dg x4 = true then (3, m + dl (L.drop m)) else (1, m)) := by
            unfold numL; rw [HF.out]; simp only []; rw [HX2.out, if_pos he, ← HM.out, HX4.out]
          exact h
        have hm : Hid (m ≤ L.length) := by
          have h : m ≤ L.length := by
            rw [HM.out]; unfold sgn
            split
            · rename_i h
              rcases h with h | h
              · have := lt_of_hd h (by decide); omega
              · have := lt_of_hd h (by decide); omega
            · omega
          exact h
        have HE := hid he
        clear he
        go_upto_region 13 with (first
            | (go_at_call 23; refine (st_skip b1 JS2.out).mono ?_; rintro e w3 ⟨rfl, hw3⟩; have JS3 := hid hw3; clear hw3)
            | (go_at_call 22; refine (st_peek L HL.out JS3.out).mono ?_; rw [HX3.out]; rintro e w4 ⟨rfl, hw4⟩; have JS4 := hid hw4; clear hw4))
        obtain ⟨bg, HBG⟩ : ∃ q, Hid (q = decide (x3 = 43 ∨ x3 = 45)) := ⟨_, rfl⟩
        go_cut [42] (fun q w5 => q = .bool bg ∧ w4 = w5)
        case first =>
          by_cases h1 : x3 = 43
          · subst h1
            go_wp2
            go_meet
            case rel => exact ⟨by rw [HBG.out]; rfl, rfl⟩
          · by_cases h2 : x3 = 45
            · subst h2
              go_wp2
              go_meet
              case rel => exact ⟨by rw [HBG.out]; rfl, rfl⟩
            · go_wp2
              go_meet
              case rel => exact ⟨by rw [HBG.out]; simp [h1, h2], rfl⟩
        case rest =>
          obtain ⟨rfl, rfl⟩ := hcut
          go_upto_if 42 with fail
          go_cut [] (fun w5 => St w0 w5 b s o c m)
          case first =>
            by_cases hsg : x3 = 43 ∨ x3 = 45
            · obtain rfl : bg = true := by rw [HBG.out]; exact decide_eq_true hsg
              have hlt3 := lt_of_hd HX3.out (by rcases hsg with h | h <;> rw [h] <;> decide)
              have b3 : o + (n + 1) ≤ 1048576 := by have := hlen.out; omega
              have hmm : Hid (m = n + 1 + 1) := by
                have h : m = n + 1 + 1 := by rw [HM.out]; unfold sgn; rw [HX3.out, if_pos hsg]
                exact h
              clear hsg
              go_wp2_with (go_at_call 23; refine (st_skip b3 JS4.out).mono ?_; rintro e w5 ⟨rfl, hw5⟩; have JS5 := hid hw5; clear hw5)
              go_meet
              case rel => rw [hmm.out]; exact JS5.out
            · obtain rfl : bg = false := by rw [HBG.out]; exact decide_eq_false hsg
              have hmm : Hid (m = n + 1) := by
                have h : m = n + 1 := by rw [HM.out]; unfold sgn; rw [HX3.out, if_neg hsg]
                exact h
              clear hsg
              go_wp2
              go_meet
              case rel => rw [hmm.out]; exact JS4.out
          case rest =>
            have JS5 := hid hcut
            clear hcut JS4 JS3 JS2 HX3 HM
            cases hdx : dg x4 with
            | true =>
              have C2 : ∀ wx, Calls Try.prog 24 #[.int .u8 x4] wx fun e w' => e = .returned (.bool true) ∧ wx = w' := fun wx => by have := dig_any x4 wx; rw [hdx] at this; exact this
              have hnum2 : Hid (numL L = (3, m + dl (L.drop m))) := by
                have h := hnum.out
                rw [hdx, if_pos rfl] at h; exact h
              have J2 := hid C2
              have b5 : o + m ≤ s.size := by have := hlen.out; have := hm.out; omega
              have hle : m + dl (L.drop m) ≤ L.length := by have h := dl_le (L.drop m); rw [List.length_drop] at h; have := hm.out; omega
              have Hle := hid hle
              clear hdx C2 hnum hle
              go_wp2_with (first
                | (go_at_call 22; refine (st_peek L HL.out JS5.out).mono ?_; rw [HX4.out]; rintro e w6 ⟨rfl, hw6⟩; have JS6 := hid hw6; clear hw6)
                | (go_at_call 24; refine (J2.out _).mono ?_; rintro e w' ⟨rfl, rfl⟩)
                | (go_at_call 21; refine (st_digits L HL.out bs b5 JS6.out).mono ?_; rintro e w7 ⟨rfl, hw7⟩; have JS7 := hid hw7; clear hw7))
              go_meet
              case rel => exact ⟨3, _, hnum2.out, Hle.out, .inr rfl, rfl, JS7.out⟩
            | false =>
              have C2 : ∀ wx, Calls Try.prog 24 #[.int .u8 x4] wx fun e w' => e = .returned (.bool false) ∧ wx = w' := fun wx => by have := dig_any x4 wx; rw [hdx] at this; exact this
              have hnum2 : Hid (numL L = (1, m)) := by
                have h := hnum.out
                rw [hdx, if_neg (by decide)] at h; exact h
              have J2 := hid C2
              clear hdx C2 hnum
              obtain ⟨cq, HQ⟩ : ∃ q, Hid (q = wrap64 (c + (m : Nat))) := ⟨_, rfl⟩
              go_upto_region 16 with (first
                | (go_at_call 22; refine (st_peek L HL.out JS5.out).mono ?_; rw [HX4.out]; rintro e w6 ⟨rfl, hw6⟩; have JS6 := hid hw6; clear hw6)
                | (go_at_call 24; refine (J2.out _).mono ?_; rintro e w' ⟨rfl, rfl⟩))
              have hS' : Scan w0 w6 b s (o + m) cq := by rw [HQ.out]; exact JS6.out
              have hc2' := hS'.c2
              have hT : w6.heap[w.heap.size]? = some (.cells #[.int .u8 0, .string { data := #[] }, .int .i64 0] 38 (0, 0)) := by
                rw [hS'.other _ (by omega), HW.out]; exact heap_alloc_new w _
              have t0 : w6.cell? ⟨w.heap.size, 0, none⟩ = some (.int .u8 0) := by rw [cell_of_row w6 _ 0 _ _ _ hT]; rfl
              have t1 : w6.cell? ⟨w.heap.size, 1, none⟩ = some (.string { data := #[] }) := by rw [cell_of_row w6 _ 1 _ _ _ hT]; rfl
              have t2 : w6.cell? ⟨w.heap.size, 2, none⟩ = some (.int .i64 0) := by rw [cell_of_row w6 _ 2 _ _ _ hT]; rfl
              have f0 := frozen_of_row w6 _ 0 _ _ hT
              have f1 := frozen_of_row w6 _ 1 _ _ hT
              have f2 := frozen_of_row w6 _ 2 _ _ hT
              have JT := hid hT; have JS' := hid hS'
              clear hT hS'
              obtain ⟨r1, r2, r3⟩ := tok_set _ HW.out hb JS'.out JT.out (.int .u8 1) (.string noDigits) (.int .i64 cq)
              have R1 := hid r1; have R2 := hid r2; have R3 := hid r3
              clear r1 r2 r3
              go_wp2
              clear t0 t1 t2 f0 f1 f2 hc2' hc1 hc2
              rw [show ({ data := #[101, 120, 112, 111, 110, 101, 110, 116, 32, 119, 105, 116, 104, 111, 117, 116, 32, 100, 105, 103, 105, 116, 115] } : ByteArray) = noDigits from rfl]
              generalize ((w6.setCell ⟨w.heap.size, 0, none⟩ (.int .u8 1)).setCell ⟨w.heap.size, 1, none⟩ (.string noDigits)).setCell ⟨w.heap.size, 2, none⟩ (.int .i64 cq) = wf at R1 R2 R3 ⊢
              have q0 : wf.cell? ⟨w.heap.size, 0, none⟩ = some (.int .u8 1) := by rw [cell_of_row wf _ 0 _ _ _ R1.out]; rfl
              have q1 : wf.cell? ⟨w.heap.size, 1, none⟩ = some (.string noDigits) := by rw [cell_of_row wf _ 1 _ _ _ R1.out]; rfl
              have q2 : wf.cell? ⟨w.heap.size, 2, none⟩ = some (.int .i64 cq) := by rw [cell_of_row wf _ 2 _ _ _ R1.out]; rfl
              refine bodyPost_ret (v := .agg #[.int .u8 1, .string noDigits, .int .i64 cq]) (by simp [results, Try.results19, go_sem, q0, q1, q2]) rfl ⟨1, m, by rw [← HL.out]; exact hnum2.out, ?_, by rw [← HQ.out]; exact R2.out, R3.out⟩
              unfold txt tcol
              rw [if_pos rfl, if_pos rfl, ← HQ.out]
              rfl
      · obtain rfl : be = false := by rw [HBE.out]; exact decide_eq_false he
        have hnum : Hid (numL L = (k, n)) := by
          have h : numL L = (k, n) := by unfold numL; rw [HF.out]; simp only []; rw [HX2.out, if_neg he]
          exact h
        clear he
        have hk : k = 2 ∨ k = 3 := by
          have := HF.out; unfold frac at this; split at this <;> simp at this <;> omega
        go_wp2
        go_meet
        case rel => exact ⟨k, n, hnum.out, Hn.out, hk, rfl, JS2.out⟩
    case rest =>
      obtain ⟨k, n, hnum, hn, hk, rfl, hS⟩ := hcut
      obtain ⟨p, Hp⟩ : ∃ p, Hid (p = o + n) := ⟨_, rfl⟩
      have hop : o ≤ p := by rw [Hp.out]; omega
      have hps : p ≤ s.size := by rw [Hp.out]; have := hlen.out; omega
      have hS' : Scan w0 wc b s p (wrap64 (c + (n : Nat))) := by rw [Hp.out]; exact hS
      have hc0 := hS'.c0
      have hc1 := hS'.c1
      have hT : wc.heap[w.heap.size]? = some (.cells #[.int .u8 0, .string { data := #[] }, .int .i64 0] 38 (0, 0)) := by
        rw [hS'.other _ (by omega), HW.out]; exact heap_alloc_new w _
      have t0 : wc.cell? ⟨w.heap.size, 0, none⟩ = some (.int .u8 0) := by rw [cell_of_row wc _ 0 _ _ _ hT]; rfl
      have t1 : wc.cell? ⟨w.heap.size, 1, none⟩ = some (.string { data := #[] }) := by rw [cell_of_row wc _ 1 _ _ _ hT]; rfl
      have t2 : wc.cell? ⟨w.heap.size, 2, none⟩ = some (.int .i64 0) := by rw [cell_of_row wc _ 2 _ _ _ hT]; rfl
      have f0 := frozen_of_row wc _ 0 _ _ hT
      have f1 := frozen_of_row wc _ 1 _ _ hT
      have f2 := frozen_of_row wc _ 2 _ _ hT
      have JT := hid hT; have JS' := hid hS'; have Jnum := hid hnum; have Jk := hid hk
      clear hT hS' hS hnum hk hn
      go_wp2
      go_region
      obtain ⟨r1, r2, r3⟩ := tok_set _ HW.out hb JS'.out JT.out (.int .u8 k) (.string (s.extract o p)) (.int .i64 cv)
      clear t0 t1 t2 f0 f1 f2 hc0
      generalize ((wc.setCell ⟨w.heap.size, 0, none⟩ (.int .u8 k)).setCell ⟨w.heap.size, 1, none⟩ (.string (s.extract o p))).setCell ⟨w.heap.size, 2, none⟩ (.int .i64 cv) = wf at r1 r2 r3 ⊢
      have q0 : wf.cell? ⟨w.heap.size, 0, none⟩ = some (.int .u8 k) := by rw [cell_of_row wf _ 0 _ _ _ r1]; rfl
      have q1 : wf.cell? ⟨w.heap.size, 1, none⟩ = some (.string (s.extract o p)) := by rw [cell_of_row wf _ 1 _ _ _ r1]; rfl
      have q2 : wf.cell? ⟨w.heap.size, 2, none⟩ = some (.int .i64 cv) := by rw [cell_of_row wf _ 2 _ _ _ r1]; rfl
      clear r1
      have R2 := hid r2; have R3 := hid r3
      clear r2 r3
      go_wp2
      refine bodyPost_ret (v := .agg #[.int .u8 k, .string (s.extract o p), .int .i64 cv]) (by simp [results, Try.results19, go_sem, q0, q1, q2]) rfl ⟨k, n, by rw [← HL.out]; exact Jnum.out, ?_, by rw [← Hp.out]; exact R2.out, R3.out.drew⟩
      have hk1 : ¬ k = 1 := by rcases Jk.out with h | h <;> omega
      unfold txt tcol
      rw [if_neg hk1, if_neg hk1, ← Hp.out, ← HC.out]

end Go.Proofs.Qxb6619233a.Num
