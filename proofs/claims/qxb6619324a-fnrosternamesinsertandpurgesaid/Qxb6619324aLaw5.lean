import Derived.Test.Qxb6619324aInsert
namespace Go.Proofs.Qxb6619324a.Base
open Go.ChangeShapes Go.WideShapes Go.ChangeAt Go.RowKit
set_option linter.unusedVariables false

theorem Mems.nil {w : World} {a : Option Addr} {len : Nat} {ms : List (ByteArray × ByteArray)} (h : Mems w a len ms) (ha : a = none) : len = 0 := by
  subst ha
  by_cases h0 : 0 < len
  · obtain ⟨b, off, he, _⟩ := h.cells h0
    cases he
  · omega

theorem mems_none (w : World) : Mems w none 0 [] := ⟨rfl, by simp, fun h => absurd h (by omega)⟩

/-- A slot that holds a slice of these bytes, ready for zzSameBytesString. -/
def HoldsIn (xs : List Int) (s : Value) (w : World) : Prop := ∃ a cap, s = .slice a xs.length cap ∧ In w a xs.length cap xs

theorem in_new (w : World) (xs : List Int) (h : xs.length ≤ 1048576) (hb : ∀ x ∈ xs, 0 ≤ x ∧ x ≤ 255) : In (w.alloc (.cells (xs.map (Value.int .u8)).toArray 5)) (some ⟨w.heap.size, 0, none⟩) xs.length xs.length xs :=
  ⟨byt_new w xs _ rfl hb, Nat.le_refl _, by unfold maxLen; omega, fun h => by cases h⟩

theorem any_take_succ (p : ByteArray × ByteArray → Bool) (ms : List (ByteArray × ByteArray)) (k : Nat) (h : k < ms.length) : (ms.take (k + 1)).any p = ((ms.take k).any p || p (gI ms k, gJ ms k)) := by
  rw [take_snocM ms k h]; simp

theorem anyM_any (xs : List Int) (ms : List (ByteArray × ByteArray)) : ∀ n, n ≤ ms.length → anyM xs ms n = (ms.take n).any fun m => sameB xs m.1
  | 0, _ => by simp [anyM]
  | n + 1, h => by
    rw [any_take_succ _ ms n (by omega), anyM, anyM_any xs ms n (by omega)]

theorem anyM_all (xs : List Int) (ms : List (ByteArray × ByteArray)) (n : Nat) (h : ms.length = n) : anyM xs ms n = ms.any fun m => sameB xs m.1 := by
  rw [anyM_any xs ms n (by omega), List.take_of_length_le (by omega)]

set_option maxRecDepth 100000 in
set_option maxHeartbeats 2000000 in
theorem law5 {a0 : Option Addr} {l0 c0 : Nat} {ms0 : List (ByteArray × ByteArray)} {a1 : Option Addr} {l1 c1 : Nat} {ms1 : List (ByteArray × ByteArray)} {a2 : Option Addr} {l2 c2 : Nat} {S2 : Nat → ByteArray} {a3 : Option Addr} {l3 c3 : Nat} {S3 : Nat → ByteArray} {a : Option Addr} {len cap : Nat} {xs : List Int} {w : World}
    (h0 : MemsIn w a0 l0 c0 ms0) (h1 : MemsIn w a1 l1 c1 ms1) (h2 : StrsIn w a2 l2 c2 S2) (h3 : StrsIn w a3 l3 c3 S3) (h : In w a len cap xs) :
    Calls Try.prog 7 #[.slice a0 l0 c0, .slice a1 l1 c1, .slice a2 l2 c2, .slice a3 l3 c3, .slice a len cap] w fun e w' => e = .returned (.bool true) ∧ Below w.heap.size w w' := by
  have m := Nat.le_trans h.le h.max
  have hne := fun (w : World) (a : Option Addr) (n c : Nat) => run_neq_slice_nil_any (P := Try.prog) w 22 5 a n c 0 0 Try.underlying22
  go_enter Try.func7, Try.ntmps7
  go_wp2_with fail
  refine (zzBytes5_any h0 h1 h2 h3 m).mono ?_
  rintro e w' ⟨t, rfl, rfl, ht⟩
  cases t with
  | false =>
    go_wp2_with fail
    go_ret
    exact ⟨rfl, Below.refl _ _⟩
  | true =>
  obtain ⟨n0, n1, n4⟩ := ht rfl
  clear ht
  go_wp2_with fail
  refine (roomRoster_le h0 h1 h2 h3 1048576 (by omega)).mono ?_
  rintro e w' ⟨r, rfl, rfl, hr⟩
  by_cases hneg : r < 0
  · go_wp2_with fail
    go_ret
    exact ⟨rfl, Below.refl _ _⟩
  go_upto_if 33 with fail
  go_cut [4] (fun s wx => HoldsIn xs s wx ∧ Below w.heap.size w wx)
  case first =>
    obtain rfl : xs.length = len := h.byt.1
    cases a with
    | none =>
      go_wp2_with fail
      go_meet
      case rel => exact ⟨⟨none, cap, rfl, h⟩, Below.refl _ _⟩
    | some x =>
      have hmk := run_make_bytes w xs.length (by omega)
      have hcp := run_copy_new w (madeCells #[.int .u8 0] xs.length).toList 0 xs.length (some ⟨w.heap.size, 0, none⟩) xs.length xs.length (some x) cap xs h.byt (by simp [size_madeCells]) (fun _ => rfl) (Nat.le_refl _)
      rw [splice_all _ _ (by simp [size_madeCells])] at hcp
      simp only [Array.toArray_toList] at hcp
      go_wp2_with fail
      go_meet
      case rel => exact ⟨⟨_, _, rfl, in_new w xs (by omega) h.byt.2.1⟩, (Below.refl _ _).alloc (Nat.le_refl _) _⟩
  case rest =>
  obtain ⟨w1, rfl⟩ : ∃ w1, w1 = wc := ⟨_, rfl⟩
  obtain ⟨⟨b1, d1, rfl, hI1⟩, hB1⟩ := hcut
  clear hne hr hneg h2 h3
  go_wp2_with fail
  go_loopg [12, 13] l0 (fun gk z i wr => ∃ k : Nat, k ≤ l0 ∧ Hid (gk = l0 - k) ∧ i = .int .i64 k ∧ z = .bool (anyM xs ms0 k) ∧ Below w.heap.size w wr ∧ In wr b1 xs.length d1 xs)
  case atStart => exact ⟨0, Nat.zero_le _, rfl, rfl, rfl, hB1, hI1⟩
  case round =>
  clear hB1 hI1
  obtain ⟨k, hk, hg, rfl, rfl, hB, hI⟩ := hrel
  by_cases hlt : k < l0
  · obtain ⟨b, off, rfl, hc⟩ := h0.mems.cells (by omega)
    have hck := (hc k hlt).1
    rw [← hB.cell (World.block_lt_of_cell? w _ hck)] at hck
    have hsz := gI_size h0.mems hlt
    have i1 : (k : Int) < l0 := by omega
    go_wp2_with fail
    refine (same_any hI hsz).mono ?_
    rintro e w5 ⟨rfl, hD⟩
    have hB5 := hB.trans (hD.below _)
    have hI5 := hI.below (hD.below _)
    clear hck hB hD hc hI
    obtain ⟨t, ht⟩ : ∃ t, sameB xs (gI ms0 k) = t := ⟨_, rfl⟩
    have HT : Hid (sameB xs (gI ms0 k) = t) := ht
    rw [ht]
    clear ht
    cases t with
    | true =>
      go_wp2_with fail
      go_roundg (l0 - (k + 1))
      case measure => have := hg.out; omega
      case rel => exact ⟨k + 1, by omega, rfl, by go_num, (by simp [anyM, HT.out]), hB5, hI5⟩
    | false =>
      go_wp2_with fail
      go_roundg (l0 - (k + 1))
      case measure => have := hg.out; omega
      case rel => exact ⟨k + 1, by omega, rfl, by go_num, (by simp [anyM, HT.out]), hB5, hI5⟩
  obtain rfl : k = l0 := by omega
  clear hg hlt
  go_wp2_with fail
  go_loopg [12, 14] l1 (fun gk z i wr => ∃ j : Nat, j ≤ l1 ∧ Hid (gk = l1 - j) ∧ i = .int .i64 j ∧ z = .bool (anyM xs ms0 k || anyM xs ms1 j) ∧ Below w.heap.size w wr ∧ In wr b1 xs.length d1 xs)
  case atStart => exact ⟨0, Nat.zero_le _, rfl, rfl, by simp [anyM], hB, hI⟩
  case round =>
  clear hB hI
  obtain ⟨j, hj, hg, rfl, rfl, hB, hI⟩ := hrel
  by_cases hlt : j < l1
  · obtain ⟨b, off, rfl, hc⟩ := h1.mems.cells (by omega)
    have hck := (hc j hlt).1
    rw [← hB.cell (World.block_lt_of_cell? w _ hck)] at hck
    have hsz := gI_size h1.mems hlt
    have i1 : (j : Int) < l1 := by omega
    go_wp2_with fail
    refine (same_any hI hsz).mono ?_
    rintro e w5 ⟨rfl, hD⟩
    have hB5 := hB.trans (hD.below _)
    have hI5 := hI.below (hD.below _)
    clear hck hB hD hc hI
    obtain ⟨t, ht⟩ : ∃ t, sameB xs (gI ms1 j) = t := ⟨_, rfl⟩
    have HT : Hid (sameB xs (gI ms1 j) = t) := ht
    rw [ht]
    clear ht
    cases t with
    | true =>
      go_wp2_with fail
      go_roundg (l1 - (j + 1))
      case measure => have := hg.out; omega
      case rel => exact ⟨j + 1, by omega, rfl, by go_num, (by simp [anyM, HT.out]), hB5, hI5⟩
    | false =>
      go_wp2_with fail
      go_roundg (l1 - (j + 1))
      case measure => have := hg.out; omega
      case rel => exact ⟨j + 1, by omega, rfl, by go_num, (by simp [anyM, HT.out]), hB5, hI5⟩
  obtain rfl : j = l1 := by omega
  clear hg hlt
  have M0 := h0.mems
  have M1 := h1.mems
  have q0 := h0.le
  have q1 := h1.le
  obtain ⟨W0, rfl⟩ : ∃ W0, W0 = wr := ⟨_, rfl⟩
  clear h0 h1
  go_wp2_with fail
  refine (members_any (M0.below hB) (by omega) (M0.nil)).mono ?_
  rintro e W1 ⟨p0, rfl, N0, hS⟩
  have hB1 := hB.trans (hS.mono hB.size)
  have hI1 := hI.below hS
  clear hB hI hS
  go_wp2_with fail
  refine (members_any (M1.below hB1) (by omega) (M1.nil)).mono ?_
  rintro e W2 ⟨p1, rfl, N1, hS⟩
  have hB2 := hB1.trans (hS.mono hB1.size)
  have hI2 := hI1.below hS
  have N0' := N0.below hS
  clear hB1 hI1 hS N0
  go_wp2_with fail
  refine (zzRosterNames_any N0' N1 hI2.byt (by omega) (by omega)).mono ?_
  rintro e W3 ⟨rfl, hS⟩
  have hB3 := hB2.trans (hS.mono hB2.size)
  have hI3 := hI2.below hS
  clear hB2 hI2 hS N0' N1
  go_wp2_with fail
  refine (members_any (M1.below hB3) (by omega) (M1.nil)).mono ?_
  rintro e W4 ⟨p2, rfl, N2, hS⟩
  have hB4 := hB3.trans (hS.mono hB3.size)
  have hI4 := hI3.below hS
  clear hB3 hI3 hS
  go_wp2_with fail
  refine (members_any (M0.below hB4) (by omega) (M0.nil)).mono ?_
  rintro e W5 ⟨p3, rfl, N3, hS⟩
  have hB5 := hB4.trans (hS.mono hB4.size)
  have hI5 := hI4.below hS
  have N2' := N2.below hS
  clear hB4 hI4 hS N2
  go_wp2_with fail
  refine (zzRosterNames_any N2' N3 hI5.byt (by omega) (by omega)).mono ?_
  rintro e W6 ⟨rfl, hS⟩
  have hB6 := hB5.trans (hS.mono hB5.size)
  have hI6 := hI5.below hS
  clear hB5 hI5 hS N2' N3
  go_wp2_with fail
  refine (join_any (M1.below hB6) (M0.below hB6) (by omega) (by omega) q1 q0).mono ?_
  rintro e W7 ⟨p4, rfl, _, N4, hS⟩
  have hB7 := hB6.trans (hS.mono hB6.size)
  have hI7 := hI6.below hS
  clear hB6 hI6 hS
  go_wp2_with fail
  refine (members_any N4 (by omega) N4.nil).mono ?_
  rintro e W8 ⟨p5, rfl, N5, hS⟩
  have hB8 := hB7.trans (hS.mono hB7.size)
  have hI8 := hI7.below hS
  clear hB7 hI7 hS N4
  go_wp2_with fail
  refine (zzRosterNames_any (mems_none W8) N5 hI8.byt (by omega) (by omega)).mono ?_
  rintro e W9 ⟨rfl, hS⟩
  have hB9 := hB8.trans (hS.mono hB8.size)
  have e1 : anyM xs ms0 k = ms0.any fun m => sameB xs m.1 := anyM_all xs ms0 k M0.hlen
  have e2 : anyM xs ms1 j = ms1.any fun m => sameB xs m.1 := anyM_all xs ms1 j M1.hlen
  have e3 : anyM xs (ms1 ++ ms0) (j + k) = (anyM xs ms1 j || anyM xs ms0 k) := by
    rw [anyM_all xs _ _ N5.hlen, e1, e2, List.any_append]
  rw [e3]
  clear e1 e2 e3 hB8 hI8 hS N5 M0 M1
  generalize anyM xs ms0 k = t0 at *
  generalize anyM xs ms1 j = t1 at *
  cases t0 <;> cases t1 <;> (go_wp2_with fail; go_ret; exact ⟨rfl, hB9⟩)
end Go.Proofs.Qxb6619324a.Base
