import Derived.Test.Qxb6619324aLaw4
namespace Go.Proofs.Qxb6619324a.Base
open Go.ChangeShapes Go.WideShapes Go.ChangeAt Go.RowKit
set_option linter.unusedVariables false

theorem Sls.left {w : World} {a : Option Addr} {len cap : Nat} {A : Nat → Option Addr} {L C : Nat → Nat} {X : Nat → List Int} (h : Sls w a len cap A L C X) {k : Nat} (hk : k ≤ len) : Sls w a k cap A L C X := by
  refine ⟨Nat.le_trans hk h.le, h.max, fun i hi => h.inner i (by omega), fun h0 => ?_⟩
  obtain ⟨b, off, rfl, hc⟩ := h.cells (by omega)
  exact ⟨b, off, rfl, fun i hi => hc i (by omega)⟩

theorem Sls.right {w : World} {a : Option Addr} {len cap : Nat} {A : Nat → Option Addr} {L C : Nat → Nat} {X : Nat → List Int} (h : Sls w a len cap A L C X) {k : Nat} (hk : k ≤ len) :
    (cap = k → Sls w a (len - k) 0 (fun i => A (k + i)) (fun i => L (k + i)) (fun i => C (k + i)) (fun i => X (k + i))) ∧
    (¬ cap = k → Sls w (Option.map (fun x => x.add k) a) (len - k) (cap - k) (fun i => A (k + i)) (fun i => L (k + i)) (fun i => C (k + i)) (fun i => X (k + i))) := by
  have hl := h.le
  have hm := h.max
  constructor
  · intro e
    exact ⟨by omega, Nat.zero_le _, fun i hi => absurd hi (by omega), fun h0 => absurd h0 (by omega)⟩
  · intro e
    refine ⟨by omega, by omega, fun i hi => h.inner (k + i) (by omega), fun h0 => ?_⟩
    obtain ⟨b, off, rfl, hc⟩ := h.cells (by omega)
    refine ⟨b, off + k, by simp [Addr.add_lit], fun i hi => ?_⟩
    rw [Nat.add_assoc]
    exact hc (k + i) (by omega)

theorem isNone_of {a : Option Addr} {n : Nat} {x y : Int} (h : a = none ↔ n = 0) (hxy : n = 0 ↔ x = y) : a.isNone = (x == y) := by
  rw [Bool.eq_iff_iff, Option.isNone_iff_eq_none, beq_iff_eq, h, hxy]

set_option maxRecDepth 100000 in
set_option maxHeartbeats 2000000 in
theorem law3 {a0 a1 a2 : Option Addr} {l0 c0 l1 c1 l2 c2 : Nat} {x0 x1 x2 : List Int} {a : Option Addr} {len cap : Nat} {A : Nat → Option Addr} {L C : Nat → Nat} {X : Nat → List Int} {a' : Option Addr} {len' cap' : Nat} {A' : Nat → Option Addr} {L' C' : Nat → Nat} {X' : Nat → List Int} {w : World}
    (h0 : In w a0 l0 c0 x0) (h1 : In w a1 l1 c1 x1) (h2 : In w a2 l2 c2 x2) (h : Sls w a len cap A L C X) (h' : Sls w a' len' cap' A' L' C' X') (st bb kk : Int) :
    Calls Try.prog 5 #[.slice a0 l0 c0, .slice a1 l1 c1, .slice a2 l2 c2, .slice a len cap, .slice a' len' cap', .int .u64 st, .int .i64 bb, .int .i64 kk] w fun e w' => e = .returned (.bool true) ∧ Below w.heap.size w w' := by
  have m0 := Nat.le_trans h0.le h0.max
  have m1 := Nat.le_trans h1.le h1.max
  have m2 := Nat.le_trans h2.le h2.max
  have hne := fun (w : World) (a : Option Addr) (n c : Nat) => run_neq_slice_nil_any (P := Try.prog) w 22 5 a n c 0 0 Try.underlying22
  go_enter Try.func5, Try.ntmps5
  go_wp2_with fail
  refine (zzBytes3_any m0 m1 m2 h h' st bb kk).mono ?_
  rintro e w' ⟨t, rfl, rfl, ht⟩
  cases t with
  | false =>
    go_wp2_with fail
    go_ret
    exact ⟨rfl, Below.refl _ _⟩
  | true =>
  obtain ⟨k0, k1, k2, kl, kl'⟩ := ht rfl
  clear ht
  go_wp2_with fail
  refine (roomWire_le h h' 1048576 (by omega)).mono ?_
  rintro e w' ⟨r2, rfl, rfl, hr2⟩
  by_cases hneg : r2 < 0
  · go_wp2_with fail
    go_ret
    exact ⟨rfl, Below.refl _ _⟩
  by_cases hk0 : kk < 0
  · go_wp2_with fail
    go_ret
    exact ⟨rfl, Below.refl _ _⟩
  by_cases hk1 : (len : Int) < kk
  · go_wp2_with fail
    go_ret
    exact ⟨rfl, Below.refl _ _⟩
  obtain ⟨k, rfl⟩ := Int.eq_ofNat_of_zero_le (Int.not_lt.1 hk0)
  have hk : k ≤ len := by omega
  have hki : (k : Int) ≤ len := by omega
  have hki2 : (0 : Int) ≤ k := by omega
  have hkc : (k : Int) ≤ cap := by have := h.le; omega
  have hkl : ¬ len < k := by omega
  clear hk0 hk1
  have hB0 : Below w.heap.size w w := Below.refl _ _
  go_upto_if 50 with fail
  go_cut [0] (fun s wx => SomeSlice s ∧ Below w.heap.size w wx)
  case first =>
    have hi := h0.below hB0
    cases a0 with
    | none =>
      go_wp2_with fail
      go_meet
      case rel => exact ⟨⟨_, _, _, rfl⟩, hB0⟩
    | some x =>
      obtain rfl : x0.length = l0 := hi.byt.1
      have hmk := run_make_bytes w x0.length (by omega)
      have hcp := run_copy_new w (madeCells #[.int .u8 0] x0.length).toList 0 x0.length (some ⟨w.heap.size, 0, none⟩) x0.length x0.length (some x) c0 x0 hi.byt (by simp [size_madeCells]) (fun _ => rfl) (Nat.le_refl _)
      rw [splice_all _ _ (by simp [size_madeCells])] at hcp
      simp only [Array.toArray_toList] at hcp
      go_wp2_with fail
      go_meet
      case rel => exact ⟨⟨_, _, _, rfl⟩, hB0.alloc hB0.size _⟩
  case rest =>
  obtain ⟨w1, rfl⟩ : ∃ w1, w1 = wc := ⟨_, rfl⟩
  obtain ⟨⟨b1, m1, d1, rfl⟩, hB1⟩ := hcut
  go_upto_if 59 with fail
  go_cut [1] (fun s wx => SomeSlice s ∧ Below w.heap.size w wx)
  case first =>
    have hi := h1.below hB1
    cases a1 with
    | none =>
      go_wp2_with fail
      go_meet
      case rel => exact ⟨⟨_, _, _, rfl⟩, hB1⟩
    | some x =>
      obtain rfl : x1.length = l1 := hi.byt.1
      have hmk := run_make_bytes w1 x1.length (by omega)
      have hcp := run_copy_new w1 (madeCells #[.int .u8 0] x1.length).toList 0 x1.length (some ⟨w1.heap.size, 0, none⟩) x1.length x1.length (some x) c1 x1 hi.byt (by simp [size_madeCells]) (fun _ => rfl) (Nat.le_refl _)
      rw [splice_all _ _ (by simp [size_madeCells])] at hcp
      simp only [Array.toArray_toList] at hcp
      go_wp2_with fail
      go_meet
      case rel => exact ⟨⟨_, _, _, rfl⟩, hB1.alloc hB1.size _⟩
  case rest =>
  obtain ⟨w2, rfl⟩ : ∃ w2, w2 = wc := ⟨_, rfl⟩
  obtain ⟨⟨b2, m2, d2, rfl⟩, hB2⟩ := hcut
  go_upto_if 68 with fail
  go_cut [2] (fun s wx => SomeSlice s ∧ Below w.heap.size w wx)
  case first =>
    have hi := h2.below hB2
    cases a2 with
    | none =>
      go_wp2_with fail
      go_meet
      case rel => exact ⟨⟨_, _, _, rfl⟩, hB2⟩
    | some x =>
      obtain rfl : x2.length = l2 := hi.byt.1
      have hmk := run_make_bytes w2 x2.length (by omega)
      have hcp := run_copy_new w2 (madeCells #[.int .u8 0] x2.length).toList 0 x2.length (some ⟨w2.heap.size, 0, none⟩) x2.length x2.length (some x) c2 x2 hi.byt (by simp [size_madeCells]) (fun _ => rfl) (Nat.le_refl _)
      rw [splice_all _ _ (by simp [size_madeCells])] at hcp
      simp only [Array.toArray_toList] at hcp
      go_wp2_with fail
      go_meet
      case rel => exact ⟨⟨_, _, _, rfl⟩, hB2.alloc hB2.size _⟩
  case rest =>
  obtain ⟨w3, rfl⟩ : ∃ w3, w3 = wc := ⟨_, rfl⟩
  obtain ⟨⟨b3, m3, d3, rfl⟩, hB3⟩ := hcut
  clear hB0 hB1 hB2 hne h0 h1 h2 hr2 hneg
  go_wp2_with fail
  refine (zzPrevIDs_any (h.below hB3) kl).mono ?_
  rintro e w4 ⟨ao, rfl, hS, hB4⟩
  have hB4w := hB3.trans (hB4.mono hB3.size)
  clear hB4 hB3
  go_wp2_with fail
  refine (zzPrevIDs_any ((h.left hk).below hB4w) (by omega)).mono ?_
  rintro e w5 ⟨ao1, rfl, hS1, hB5⟩
  have hS' := hS.below hB5
  have hB5w := hB4w.trans (hB5.mono hB4w.size)
  clear hB5 hB4w hS
  obtain ⟨m, hkm1, hkm2⟩ : ∃ m, k + m ≤ len ∧ len ≤ k + m := ⟨len - k, by omega, by omega⟩
  go_upto_region 21 with fail
  go_cut [22] (fun s wx => ∃ ao2, s = .slice ao2 m m ∧ Str wx ao2 m (fun i => strOfNums (X (k + i))) ∧ Str wx ao len (fun i => strOfNums (X i)) ∧ Str wx ao1 k (fun i => strOfNums (X i)) ∧ Below w.heap.size w wx)
  case first =>
    by_cases hc : cap = k
    · have hR := (h.right hk).1 hc
      subst hc
      go_wp2_with fail
      refine (zzPrevIDs_any (hR.below hB5w) (by omega)).mono ?_
      rintro e w6 ⟨ao2, rfl, hS2, hB6⟩
      go_wp2_with fail
      go_meet
      case rel =>
        rw [show len - cap = m by omega] at hS2 ⊢
        exact ⟨ao2, rfl, hS2, hS'.below hB6, hS1.below hB6, hB5w.trans (hB6.mono hB5w.size)⟩
    · go_wp2_with fail
      refine (zzPrevIDs_any (((h.right hk).2 hc).below hB5w) (by omega)).mono ?_
      rintro e w6 ⟨ao2, rfl, hS2, hB6⟩
      go_wp2_with fail
      go_meet
      case rel =>
        have em : len - k = m := by omega
        rw [em] at hS2 ⊢
        exact ⟨ao2, rfl, hS2, hS'.below hB6, hS1.below hB6, hB5w.trans (hB6.mono hB5w.size)⟩
  case rest =>
  clear hS1 hS' hB5w
  obtain ⟨w6, rfl⟩ : ∃ w6, w6 = wc := ⟨_, rfl⟩
  obtain ⟨ao2, rfl, hS2, hS, hS1, hB⟩ := hcut
  have e1 : ao.isNone = ((len : Int) == 0) := isNone_of hS.1 (by omega)
  have e2 : ao1.isNone = ((k : Int) == 0) := isNone_of hS1.1 (by omega)
  have e3 : ao2.isNone = ((k : Int) == (len : Int)) := isNone_of hS2.1 (by omega)
  have heq := fun (w : World) (a : Option Addr) (n c : Nat) => Lib.run_eql_slice_nil (P := Try.prog) w 31 9 a n c 0 0 Try.underlying31
  go_upto_region 26 with fail
  clear heq e1 e2 e3
  go_cut [23] (fun s wx => s = .int .i64 0 ∧ w6 = wx)
  case first =>
    go_wp2_with fail
    go_meet
    case rel => exact ⟨rfl, rfl⟩
  case rest =>
  obtain ⟨rfl, rfl⟩ := hcut
  go_wp2_with fail
  go_loopg [23] len (fun gk i wr => ∃ j : Nat, j ≤ len ∧ Hid (gk = len - j) ∧ i = .int .i64 j ∧ Drawn w6 wr)
  case atStart => exact ⟨0, Nat.zero_le _, rfl, rfl, Drawn.refl _⟩
  case round =>
  obtain ⟨j, hj, hg, rfl, hD⟩ := hrel
  have hB7 := hB.trans (hD.below _)
  by_cases hlt : j < len
  · obtain ⟨b, off, rfl, hc⟩ := h.cells (by omega)
    have hcj := hc j hlt
    rw [← hB7.cell (World.block_lt_of_cell? w _ hcj)] at hcj
    obtain ⟨g, rfl, hg1⟩ := hS.2 (by omega)
    have hgj : w6.cell? ⟨g, j, none⟩ = some (.string (strOfNums (X j))) := hg1 j hlt
    rw [← hD.cell] at hgj
    have hi := (h.inner j hlt).below hB7
    have hsz : (strOfNums (X j)).size ≤ 9223372036854775807 := by
      rw [strOfNums_size, (h.inner j hlt).byt.1]; exact h.maxL hlt
    have hcall0 := fun n => same_any (hi.below (below_drewN (Below.refl _ _) n)) hsz
    rw [show sameB (X j) (strOfNums (X j)) = true from beq_self_eq_true _] at hcall0
    have hcall := fun n => Calls.quiet_of (hcall0 n)
    clear hcall0
    have i1 : (j : Int) < len := by omega
    have i2 : (0 : Int) ≤ j := by omega
    clear hc hg1 hi
    by_cases hjk : j < k
    · obtain ⟨g1, rfl, hg2⟩ := hS1.2 (by omega)
      have hgk : w6.cell? ⟨g1, j, none⟩ = some (.string (strOfNums (X j))) := hg2 j hjk
      rw [← hD.cell] at hgk
      generalize strOfNums (X j) = sj at *
      have i3 : (j : Int) < k := by omega
      clear hg2
      go_wp2_with fail
      go_quiet ((go_at_call 16; exact hcall _))
      clear hcall
      go_wp2_with fail
      go_quiet (fail)
      go_wp2_with fail
      go_roundg (len - (j + 1))
      case measure => have := hg.out; omega
      case rel => exact ⟨j + 1, by omega, rfl, by go_num, hD.drewN _⟩
    · obtain ⟨g1, rfl, hg2⟩ := hS2.2 (by omega)
      have hgk : w6.cell? ⟨g1, j - k, none⟩ = some (.string (strOfNums (X (k + (j - k))))) := hg2 (j - k) (by omega)
      rw [← hD.cell, show k + (j - k) = j by omega] at hgk
      generalize strOfNums (X j) = sj at *
      have i3 : ¬ (j : Int) < k := by omega
      have i4 : (j : Int) - k < m := by omega
      have i5 : (0 : Int) ≤ (j : Int) - k := by omega
      have i6 : ((j : Int) - k).toNat = j - k := by omega
      clear hg2
      go_wp2_with fail
      go_quiet ((go_at_call 16; exact hcall _))
      clear hcall
      go_wp2_with fail
      go_quiet (fail)
      go_wp2_with fail
      go_roundg (len - (j + 1))
      case measure => have := hg.out; omega
      case rel => exact ⟨j + 1, by omega, rfl, by go_num, hD.drewN _⟩
  go_wp2_with fail
  go_ret
  exact ⟨rfl, hB7⟩
end Go.Proofs.Qxb6619324a.Base
