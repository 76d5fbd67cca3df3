import Derived.Test.Qxb6619324aLaw5
namespace Go.Proofs.Qxb6619324a.Base
open Go.ChangeShapes Go.WideShapes Go.ChangeAt Go.RowKit
set_option linter.unusedVariables false

theorem dropM_any (xs : List Int) (ms : List (ByteArray × ByteArray)) : ((dropM xs ms).any fun m => sameB xs m.1) = false := by
  rw [List.any_eq_false]
  intro m hm
  have := (List.mem_filter.1 hm).2
  simpa using this

theorem dropM_len : ∀ (xs : List Int) (ms : List (ByteArray × ByteArray)), (dropM xs ms).length ≤ ms.length ∧ ((ms.any fun m => sameB xs m.1) = true ↔ (dropM xs ms).length < ms.length)
  | xs, [] => by simp [dropM]
  | xs, m :: ms => by
    obtain ⟨h1, h2⟩ := dropM_len xs ms
    cases hs : sameB xs m.1 with
    | true =>
      have e : dropM xs (m :: ms) = dropM xs ms := by simp [dropM, hs]
      rw [e]
      simp only [List.length_cons, List.any_cons, hs, Bool.true_or, true_iff]
      omega
    | false =>
      have e : dropM xs (m :: ms) = m :: dropM xs ms := by simp [dropM, hs]
      rw [e]
      simp only [List.length_cons, List.any_cons, hs, Bool.false_or, h2]
      omega

theorem dropped_eq (xs : List Int) (ms ns : List (ByteArray × ByteArray)) (l0 l1 : Nat) (h0 : ms.length = l0) (h1 : ns.length = l1) :
    decide ((dropM xs ms).length + (dropM xs ns).length < l0 + l1) = (anyM xs ms l0 || anyM xs ns l1) := by
  rw [anyM_all xs ms l0 h0, anyM_all xs ns l1 h1, Bool.eq_iff_iff, decide_eq_true_iff, Bool.or_eq_true, (dropM_len xs ms).2, (dropM_len xs ns).2]
  have := (dropM_len xs ms).1
  have := (dropM_len xs ns).1
  omega

theorem insert_has (xs : List Int) (ms : List (ByteArray × ByteArray)) (s : ByteArray) (k n : Nat) (h : (ms.take k ++ (strOfNums xs, s) :: ms.drop k).length = n) : anyM xs (ms.take k ++ (strOfNums xs, s) :: ms.drop k) n = true := by
  rw [anyM_all xs _ n h, List.any_append, List.any_cons, show sameB xs (strOfNums xs) = true from beq_self_eq_true _]
  simp

set_option maxRecDepth 100000 in
set_option maxHeartbeats 2000000 in
theorem law6 {a0 : Option Addr} {l0 c0 : Nat} {ms0 : List (ByteArray × ByteArray)} {a1 : Option Addr} {l1 c1 : Nat} {ms1 : List (ByteArray × ByteArray)} {a2 : Option Addr} {l2 c2 : Nat} {S2 : Nat → ByteArray} {a3 : Option Addr} {l3 c3 : Nat} {S3 : Nat → ByteArray} {a : Option Addr} {len cap : Nat} {xs : List Int} {w : World}
    (h0 : MemsIn w a0 l0 c0 ms0) (h1 : MemsIn w a1 l1 c1 ms1) (h2 : StrsIn w a2 l2 c2 S2) (h3 : StrsIn w a3 l3 c3 S3) (h : In w a len cap xs) (ad : ByteArray) (had : ad.size ≤ maxLen) (kk : Int) (bb : Bool) :
    Calls Try.prog 8 #[.slice a0 l0 c0, .slice a1 l1 c1, .slice a2 l2 c2, .slice a3 l3 c3, .slice a len cap, .string ad, .int .i64 kk, .bool bb] w fun e w' => e = .returned (.bool true) ∧ Below w.heap.size w w' := by
  have m := Nat.le_trans h.le h.max
  have hne := fun (w : World) (a : Option Addr) (n c : Nat) => run_neq_slice_nil_any (P := Try.prog) w 22 5 a n c 0 0 Try.underlying22
  unfold maxLen at had
  go_enter Try.func8, Try.ntmps8
  go_wp2_with fail
  refine (zzBytes6_any h0 h1 h2 h3 m ad had kk bb).mono ?_
  rintro e w' ⟨t, rfl, rfl, ht⟩
  cases t with
  | false =>
    go_wp2_with fail
    go_ret
    exact ⟨rfl, Below.refl _ _⟩
  | true =>
  obtain ⟨n0, n1, n4⟩ := ht rfl
  clear ht
  go_wp2_with fail
  refine (roomRoster_le h0 h1 h2 h3 1048576 (by omega)).mono ?_
  rintro e w' ⟨r, rfl, rfl, hr⟩
  go_wp2_with fail
  refine (roomString_le ad r _ hr).mono ?_
  rintro e w' ⟨r2, rfl, rfl, hr2⟩
  by_cases hneg : r2 < 0
  · go_wp2_with fail
    go_ret
    exact ⟨rfl, Below.refl _ _⟩
  go_upto_if 48 with fail
  go_cut [4] (fun s wx => HoldsIn xs s wx ∧ Below w.heap.size w wx)
  case first =>
    obtain rfl : xs.length = len := h.byt.1
    cases a with
    | none =>
      go_wp2_with fail
      go_meet
      case rel => exact ⟨⟨none, cap, rfl, h⟩, Below.refl _ _⟩
    | some x =>
      have hmk := run_make_bytes w xs.length (by omega)
      have hcp := run_copy_new w (madeCells #[.int .u8 0] xs.length).toList 0 xs.length (some ⟨w.heap.size, 0, none⟩) xs.length xs.length (some x) cap xs h.byt (by simp [size_madeCells]) (fun _ => rfl) (Nat.le_refl _)
      rw [splice_all _ _ (by simp [size_madeCells])] at hcp
      simp only [Array.toArray_toList] at hcp
      go_wp2_with fail
      go_meet
      case rel => exact ⟨⟨_, _, rfl, in_new w xs (by omega) h.byt.2.1⟩, (Below.refl _ _).alloc (Nat.le_refl _) _⟩
  case rest =>
  obtain ⟨w1, rfl⟩ : ∃ w1, w1 = wc := ⟨_, rfl⟩
  obtain ⟨⟨b1, d1, rfl, hI1⟩, hB1⟩ := hcut
  clear hne hr hr2 hneg h2 h3
  have M0 := h0.mems
  have M1 := h1.mems
  have q0 := h0.le
  have q1 := h1.le
  have hsx : (strOfNums xs).size ≤ 9223372036854775807 := by
    rw [strOfNums_size]; have := h.byt.1; omega
  clear h0 h1
  go_upto_if 58 with fail
  go_cut [18] (fun s wx => w1 = wx ∧ ∃ tt : Nat, s = .int .i64 tt ∧ Hid (tt = if bb then l1 else l0) ∧ tt ≤ 1048576)
  case first =>
    cases bb with
    | true =>
      go_wp2_with fail
      go_meet
      case rel => exact ⟨rfl, l1, rfl, rfl, n1⟩
    | false =>
      go_wp2_with fail
      go_meet
      case rel => exact ⟨rfl, l0, rfl, rfl, n0⟩
  case rest =>
  obtain ⟨rfl, tt, rfl, htt, ht1⟩ := hcut
  by_cases hk0 : kk < 0
  · go_wp2_with fail
    go_ret
    exact ⟨rfl, hB1⟩
  by_cases hk1 : (tt : Int) < kk
  · go_wp2_with fail
    go_ret
    exact ⟨rfl, hB1⟩
  obtain ⟨k, rfl⟩ := Int.eq_ofNat_of_zero_le (Int.not_lt.1 hk0)
  have hk : k ≤ tt := by omega
  go_wp2_with fail
  clear hk0 hk1
  refine (members_any (M0.below hB1) (by omega) (M0.nil)).mono ?_
  rintro e W1 ⟨p0, rfl, N0, hS⟩
  have hB2 := hB1.trans (hS.mono hB1.size)
  have hI2 := hI1.below hS
  clear hB1 hI1 hS
  go_wp2_with fail
  refine (members_any (M1.below hB2) (by omega) (M1.nil)).mono ?_
  rintro e W2 ⟨p1, rfl, N1, hS⟩
  have hB3 := hB2.trans (hS.mono hB2.size)
  have hI3 := hI2.below hS
  have N0' := N0.below hS
  clear hB2 hI2 hS N0
  go_wp2_with fail
  refine (zzRosterNames_any N0' N1 hI3.byt (by omega) (by omega)).mono ?_
  rintro e W3 ⟨rfl, hS⟩
  have hB4 := hB3.trans (hS.mono hB3.size)
  have hI4 := hI3.below hS
  clear hB3 hI3 hS N0' N1
  have hdr := dropped_eq xs ms0 ms1 l0 l1 M0.hlen M1.hlen
  obtain ⟨T, hT⟩ : ∃ T, (anyM xs ms0 l0 || anyM xs ms1 l1) = T := ⟨_, rfl⟩
  rw [hT] at hdr ⊢
  have HD : Hid (decide ((dropM xs ms0).length + (dropM xs ms1).length < l0 + l1) = T) := hdr
  clear hdr hT
  go_wp2_with fail
  refine (without_any (M0.below hB4) (by omega) hI4).mono ?_
  rintro e W4 ⟨p2, r2', rfl, _, _, N2, hS⟩
  have hB5 := hB4.trans (hS.mono hB4.size)
  have hI5 := hI4.below hS
  clear hB4 hI4 hS
  go_wp2_with fail
  refine (without_any (M1.below hB5) (by omega) hI5).mono ?_
  rintro e W5 ⟨p3, r3', rfl, _, _, N3, hS⟩
  have hB6 := hB5.trans (hS.mono hB5.size)
  have hI6 := hI5.below hS
  have N2' := N2.below hS
  clear hB5 hI5 hS N2
  have z0 := (dropM_len xs ms0).1
  have z1 := (dropM_len xs ms1).1
  rw [M0.hlen] at z0
  rw [M1.hlen] at z1
  have f0 : anyM xs (dropM xs ms0) (dropM xs ms0).length = false := by rw [anyM_all xs _ _ rfl, dropM_any]
  have f1 : anyM xs (dropM xs ms1) (dropM xs ms1).length = false := by rw [anyM_all xs _ _ rfl, dropM_any]
  have HF : Hid ((anyM xs (dropM xs ms0) (dropM xs ms0).length || anyM xs (dropM xs ms1) (dropM xs ms1).length) = false) := by rw [f0, f1]; rfl
  clear f0 f1
  generalize dropM xs ms0 = D0 at *
  generalize dropM xs ms1 = D1 at *
  obtain ⟨d0', hd0⟩ : ∃ n, D0.length = n := ⟨_, rfl⟩
  obtain ⟨d1', hd1⟩ : ∃ n, D1.length = n := ⟨_, rfl⟩
  rw [hd0] at HF HD N2' z0 ⊢
  rw [hd1] at HF HD N3 z1 ⊢
  clear hd0 hd1
  go_upto_region 17 with fail
  go_cut [22] (fun s wx => s = .bool T ∧ W5 = wx)
  case first =>
    go_wp2_with fail
    go_meet
    case rel =>
      refine ⟨?_, rfl⟩
      rw [← HD.out]
      refine congrArg Value.bool ?_
      rw [Bool.eq_iff_iff, decide_eq_true_iff, decide_eq_true_iff]
      omega
  case rest =>
  obtain ⟨rfl, rfl⟩ := hcut
  go_wp2_with fail
  refine (members_any N2' (by omega) (N2'.nil)).mono ?_
  rintro e W6 ⟨p4, rfl, N4, hS⟩
  have hB7 := hB6.trans (hS.mono hB6.size)
  have hI7 := hI6.below hS
  have N3' := N3.below hS
  clear hB6 hI6 hS N3 N2'
  go_wp2_with fail
  refine (members_any N3' (by omega) (N3'.nil)).mono ?_
  rintro e W7 ⟨p5, rfl, N5, hS⟩
  have hB8 := hB7.trans (hS.mono hB7.size)
  have hI8 := hI7.below hS
  have N4' := N4.below hS
  clear hB7 hI7 hS N3' N4
  go_wp2_with fail
  refine (zzRosterNames_any N4' N5 hI8.byt (by omega) (by omega)).mono ?_
  rintro e W8 ⟨rfl, hS⟩
  have hB9 := hB8.trans (hS.mono hB8.size)
  have hI9 := hI8.below hS
  clear hB8 hI8 hS N4' N5
  rw [HF.out]
  have hcv := run_convert_byt hI9.byt d1
  go_upto_if 109 with fail
  clear hcv HF
  have hal := (Below.refl W8.heap.size W8).alloc (Nat.le_refl _) (.cells #[.string (strOfNums xs), .string ad] 41)
  have hB10 := hB9.trans (hal.mono hB9.size)
  have hI10 := hI9.below hal
  clear hal hB9 hI9
  go_cut [7, 25, 26] (fun s7 s25 s26 wx => s7 = .bool bb ∧ ∃ ai li ci mi aj lj cj mj, s25 = .slice ai li ci ∧ s26 = .slice aj lj cj ∧ Mems wx ai li mi ∧ Mems wx aj lj mj ∧ li ≤ 2097152 ∧ lj ≤ 2097152 ∧ Hid ((anyM xs mi li || anyM xs mj lj) = true) ∧ Below w.heap.size w wx ∧ In wx b1 xs.length d1 xs)
  case first =>
    cases bb with
    | true =>
      have hkl : k ≤ l1 := by have := htt.out; simp at this; omega
      go_wp2_with fail
      refine (insert_any (M1.below hB10) (by omega) q1 k hkl (strOfNums xs) ad hsx had).mono ?_
      rintro e W9 ⟨p6, r6, rfl, _, N6, hS⟩
      have hB11 := hB10.trans (hS.mono hB10.size)
      have hI11 := hI10.below hS
      go_wp2_with fail
      go_meet
      case rel => exact ⟨rfl, a0, l0, c0, ms0, p6, l1 + 1, r6, _, rfl, rfl, M0.below hB11, N6, by omega, by omega, (show _ = _ by rw [insert_has xs ms1 ad k _ N6.hlen]; simp), hB11, hI11⟩
    | false =>
      have hkl : k ≤ l0 := by have := htt.out; simp at this; omega
      go_wp2_with fail
      refine (insert_any (M0.below hB10) (by omega) q0 k hkl (strOfNums xs) ad hsx had).mono ?_
      rintro e W9 ⟨p6, r6, rfl, _, N6, hS⟩
      have hB11 := hB10.trans (hS.mono hB10.size)
      have hI11 := hI10.below hS
      go_wp2_with fail
      go_meet
      case rel => exact ⟨rfl, p6, l0 + 1, r6, _, a1, l1, c1, ms1, rfl, rfl, N6, M1.below hB11, by omega, by omega, (show _ = _ by rw [insert_has xs ms0 ad k _ N6.hlen]; simp), hB11, hI11⟩
  case rest =>
  clear hB10 hI10 M0 M1
  obtain ⟨W9, rfl⟩ : ∃ W9, W9 = wc := ⟨_, rfl⟩
  obtain ⟨rfl, ai, li, ci, mi, aj, lj, cj, mj, rfl, rfl, E0, E1, y0, y1, HW, hB, hI⟩ := hcut
  go_wp2_with fail
  refine (members_any E0 (by omega) E0.nil).mono ?_
  rintro e V1 ⟨p7, rfl, E2, hS⟩
  have hB' := hB.trans (hS.mono hB.size)
  have hI' := hI.below hS
  have E1' := E1.below hS
  clear hB hI hS E0 E1
  go_wp2_with fail
  refine (members_any E1' (by omega) E1'.nil).mono ?_
  rintro e V2 ⟨p8, rfl, E3, hS⟩
  have hB := hB'.trans (hS.mono hB'.size)
  have hI := hI'.below hS
  have E2' := E2.below hS
  clear hB' hI' hS E2 E1'
  go_wp2_with fail
  refine (zzRosterNames_any E2' E3 hI.byt (by omega) (by omega)).mono ?_
  rintro e V3 ⟨rfl, hS⟩
  have hB' := hB.trans (hS.mono hB.size)
  rw [HW.out]
  clear HW hB hI hS E2' E3
  cases T <;> (go_wp2_with fail; go_ret; exact ⟨rfl, hB'⟩)
end Go.Proofs.Qxb6619324a.Base
