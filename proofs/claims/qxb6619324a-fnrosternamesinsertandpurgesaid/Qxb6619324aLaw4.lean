import Derived.Test.Qxb6619324aPrevIds
namespace Go.Proofs.Qxb6619324a.Base
open Go.ChangeShapes Go.WideShapes Go.ChangeAt Go.RowKit
set_option linter.unusedVariables false

theorem In.below {w w' : World} {a : Option Addr} {len cap : Nat} {xs : List Int} (h : In w a len cap xs) (hb : Below w.heap.size w w') : In w' a len cap xs :=
  ⟨h.byt.below (Nat.le_refl _) hb, h.le, h.max, h.nil⟩

theorem Sls.below {w w' : World} {a : Option Addr} {len cap : Nat} {A : Nat → Option Addr} {L C : Nat → Nat} {X : Nat → List Int} (h : Sls w a len cap A L C X) (hb : Below w.heap.size w w') : Sls w' a len cap A L C X := by
  refine ⟨h.le, h.max, fun i hi => (h.inner i hi).below hb, fun h0 => ?_⟩
  obtain ⟨b, off, rfl, hc⟩ := h.cells h0
  refine ⟨b, off, rfl, fun i hi => ?_⟩
  have := hc i hi
  rw [hb.cell (World.block_lt_of_cell? w _ this), this]

theorem Str.below {w w' : World} {a : Option Addr} {len : Nat} {S : Nat → ByteArray} (h : Str w a len S) (hb : Below w.heap.size w w') : Str w' a len S := by
  refine ⟨h.1, fun h0 => ?_⟩
  obtain ⟨g, rfl, hc⟩ := h.2 h0
  refine ⟨g, rfl, fun i hi => ?_⟩
  have := hc i hi
  rw [hb.cell (World.block_lt_of_cell? w _ this), this]

/-- Some slice lies in the slot. -/
def SomeSlice (s : Value) : Prop := ∃ a l c, s = .slice a l c

set_option maxRecDepth 100000 in
set_option maxHeartbeats 2000000 in
theorem law4 {a0 a1 a2 : Option Addr} {l0 c0 l1 c1 l2 c2 : Nat} {x0 x1 x2 : List Int} {a : Option Addr} {len cap : Nat} {A : Nat → Option Addr} {L C : Nat → Nat} {X : Nat → List Int} {a' : Option Addr} {len' cap' : Nat} {A' : Nat → Option Addr} {L' C' : Nat → Nat} {X' : Nat → List Int} {w : World}
    (h0 : In w a0 l0 c0 x0) (h1 : In w a1 l1 c1 x1) (h2 : In w a2 l2 c2 x2) (h : Sls w a len cap A L C X) (h' : Sls w a' len' cap' A' L' C' X') (st bb : Int) (q : ByteArray) (hq : q.size ≤ 9223372036854775807) :
    Calls Try.prog 6 #[.slice a0 l0 c0, .slice a1 l1 c1, .slice a2 l2 c2, .slice a len cap, .slice a' len' cap', .int .u64 st, .int .i64 bb, .string q] w fun e w' => e = .returned (.bool true) ∧ Below w.heap.size w w' := by
  have m0 := Nat.le_trans h0.le h0.max
  have m1 := Nat.le_trans h1.le h1.max
  have m2 := Nat.le_trans h2.le h2.max
  have hne := fun (w : World) (a : Option Addr) (n c : Nat) => run_neq_slice_nil_any (P := Try.prog) w 22 5 a n c 0 0 Try.underlying22
  go_enter Try.func6, Try.ntmps6
  go_wp2_with fail
  refine (zzBytes4_any m0 m1 m2 h h' st bb q hq).mono ?_
  rintro e w' ⟨t, rfl, rfl, ht⟩
  cases t with
  | false =>
    go_wp2_with fail
    go_ret
    exact ⟨rfl, Below.refl _ _⟩
  | true =>
  obtain ⟨k0, k1, k2, kl, kl'⟩ := ht rfl
  clear ht
  go_wp2_with fail
  refine (roomWire_le h h' 1048576 (by omega)).mono ?_
  rintro e w' ⟨r, rfl, rfl, hr⟩
  go_wp2_with fail
  refine (roomString_le q r _ hr).mono ?_
  rintro e w' ⟨r2, rfl, rfl, hr2⟩
  by_cases hneg : r2 < 0
  · go_wp2_with fail
    go_ret
    exact ⟨rfl, Below.refl _ _⟩
  have hB0 : Below w.heap.size w w := Below.refl _ _
  go_upto_if 45 with fail
  go_cut [0] (fun s wx => SomeSlice s ∧ Below w.heap.size w wx)
  case first =>
    have hi := h0.below hB0
    cases a0 with
    | none =>
      go_wp2_with fail
      go_meet
      case rel => exact ⟨⟨_, _, _, rfl⟩, hB0⟩
    | some x =>
      obtain rfl : x0.length = l0 := hi.byt.1
      have hmk := run_make_bytes w x0.length (by omega)
      have hcp := run_copy_new w (madeCells #[.int .u8 0] x0.length).toList 0 x0.length (some ⟨w.heap.size, 0, none⟩) x0.length x0.length (some x) c0 x0 hi.byt (by simp [size_madeCells]) (fun _ => rfl) (Nat.le_refl _)
      rw [splice_all _ _ (by simp [size_madeCells])] at hcp
      simp only [Array.toArray_toList] at hcp
      go_wp2_with fail
      go_meet
      case rel => exact ⟨⟨_, _, _, rfl⟩, hB0.alloc hB0.size _⟩
  case rest =>
  obtain ⟨w1, rfl⟩ : ∃ w1, w1 = wc := ⟨_, rfl⟩
  obtain ⟨⟨b1, m1, d1, rfl⟩, hB1⟩ := hcut
  go_upto_if 54 with fail
  go_cut [1] (fun s wx => SomeSlice s ∧ Below w.heap.size w wx)
  case first =>
    have hi := h1.below hB1
    cases a1 with
    | none =>
      go_wp2_with fail
      go_meet
      case rel => exact ⟨⟨_, _, _, rfl⟩, hB1⟩
    | some x =>
      obtain rfl : x1.length = l1 := hi.byt.1
      have hmk := run_make_bytes w1 x1.length (by omega)
      have hcp := run_copy_new w1 (madeCells #[.int .u8 0] x1.length).toList 0 x1.length (some ⟨w1.heap.size, 0, none⟩) x1.length x1.length (some x) c1 x1 hi.byt (by simp [size_madeCells]) (fun _ => rfl) (Nat.le_refl _)
      rw [splice_all _ _ (by simp [size_madeCells])] at hcp
      simp only [Array.toArray_toList] at hcp
      go_wp2_with fail
      go_meet
      case rel => exact ⟨⟨_, _, _, rfl⟩, hB1.alloc hB1.size _⟩
  case rest =>
  obtain ⟨w2, rfl⟩ : ∃ w2, w2 = wc := ⟨_, rfl⟩
  obtain ⟨⟨b2, m2, d2, rfl⟩, hB2⟩ := hcut
  go_upto_if 63 with fail
  go_cut [2] (fun s wx => SomeSlice s ∧ Below w.heap.size w wx)
  case first =>
    have hi := h2.below hB2
    cases a2 with
    | none =>
      go_wp2_with fail
      go_meet
      case rel => exact ⟨⟨_, _, _, rfl⟩, hB2⟩
    | some x =>
      obtain rfl : x2.length = l2 := hi.byt.1
      have hmk := run_make_bytes w2 x2.length (by omega)
      have hcp := run_copy_new w2 (madeCells #[.int .u8 0] x2.length).toList 0 x2.length (some ⟨w2.heap.size, 0, none⟩) x2.length x2.length (some x) c2 x2 hi.byt (by simp [size_madeCells]) (fun _ => rfl) (Nat.le_refl _)
      rw [splice_all _ _ (by simp [size_madeCells])] at hcp
      simp only [Array.toArray_toList] at hcp
      go_wp2_with fail
      go_meet
      case rel => exact ⟨⟨_, _, _, rfl⟩, hB2.alloc hB2.size _⟩
  case rest =>
  obtain ⟨w3, rfl⟩ : ∃ w3, w3 = wc := ⟨_, rfl⟩
  obtain ⟨⟨b3, m3, d3, rfl⟩, hB3⟩ := hcut
  clear hB0 hB1 hB2 hne h0 h1 h2 hr hr2 hneg
  go_wp2_with fail
  go_loopg [20, 21] len (fun gk z i wr => ∃ k : Nat, k ≤ len ∧ Hid (gk = len - k) ∧ i = .int .i64 k ∧ z = .bool (anyB X q k) ∧ Below w.heap.size w wr)
  case atStart => exact ⟨0, Nat.zero_le _, rfl, rfl, rfl, hB3⟩
  case round =>
  clear hB3
  obtain ⟨k, hk, hg, rfl, rfl, hB⟩ := hrel
  by_cases hlt : k < len
  · obtain ⟨b, off, rfl, hc⟩ := h.cells (by omega)
    have hck := hc k hlt
    rw [← hB.cell (World.block_lt_of_cell? w _ hck)] at hck
    go_wp2_with fail
    refine (same_any ((h.inner k hlt).below hB) hq).mono ?_
    rintro e w5 ⟨rfl, hD⟩
    have hB5 := hB.trans (hD.below _)
    clear hck hB hD
    obtain ⟨t, ht⟩ : ∃ t, sameB (X k) q = t := ⟨_, rfl⟩
    have HT : Hid (sameB (X k) q = t) := ht
    rw [ht]
    clear ht
    cases t with
    | true =>
      go_wp2_with fail
      go_roundg (len - (k + 1))
      case measure => have := hg.out; omega
      case rel => exact ⟨k + 1, by omega, rfl, by go_num, (by simp [anyB, HT.out]), hB5⟩
    | false =>
      go_wp2_with fail
      go_roundg (len - (k + 1))
      case measure => have := hg.out; omega
      case rel => exact ⟨k + 1, by omega, rfl, by go_num, (by simp [anyB, HT.out]), hB5⟩
  obtain rfl : k = len := by omega
  clear hg hlt
  go_wp2_with fail
  refine (zzPrevIDs_any (h.below hB) kl).mono ?_
  rintro e w6 ⟨ao, rfl, hS, hB6⟩
  have hBw := hB.trans (hB6.mono hB.size)
  clear hB6 hB
  go_wp2_with fail
  go_loopg [23, 24] k (fun gk z i wr => ∃ j : Nat, j ≤ k ∧ Hid (gk = k - j) ∧ i = .int .i64 j ∧ z = .bool (anyB X q j) ∧ w6 = wr)
  case atStart => exact ⟨0, Nat.zero_le _, rfl, rfl, rfl, rfl⟩
  case round =>
  obtain ⟨j, hj, hg, rfl, rfl, rfl⟩ := hrel
  by_cases hlt : j < k
  · obtain ⟨g, rfl, hc⟩ := hS.2 (by omega)
    have hcj := hc j hlt
    clear hc
    obtain ⟨t, ht⟩ : ∃ t, sameB (X j) q = t := ⟨_, rfl⟩
    have HT : Hid (sameB (X j) q = t) := ht
    unfold sameB at ht
    cases t with
    | true =>
      go_wp2_with fail
      go_roundg (k - (j + 1))
      case measure => have := hg.out; omega
      case rel => exact ⟨j + 1, by omega, rfl, by go_num, (by simp [anyB, HT.out]), rfl⟩
    | false =>
      go_wp2_with fail
      go_roundg (k - (j + 1))
      case measure => have := hg.out; omega
      case rel => exact ⟨j + 1, by omega, rfl, by go_num, (by simp [anyB, HT.out]), rfl⟩
  obtain rfl : j = k := by omega
  clear hg hlt hS
  go_wp2_with fail
  refine (zzNames_any (h.below hBw)).mono ?_
  rintro e w7 ⟨rfl, rfl⟩
  generalize anyB X q j = t
  cases t with
  | true =>
    go_wp2_with fail
    go_ret
    exact ⟨rfl, hBw⟩
  | false =>
    go_wp2_with fail
    go_ret
    exact ⟨rfl, hBw⟩
end Go.Proofs.Qxb6619324a.Base
