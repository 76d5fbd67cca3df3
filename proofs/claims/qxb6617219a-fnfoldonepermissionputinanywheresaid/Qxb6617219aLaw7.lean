import Derived.Test.Qxb6617219aVerdict
namespace Go.Proofs.Qxb6617219a.Base
open Go.ChangeShapes Go.WideShapes Go.ChangeAt Go.RowKit
set_option linter.unusedVariables false

/-- A slice of permissions that came in. -/
structure PmsIn (w : World) (a : Option Addr) (len cap : Nat) (ps : List Pm) : Prop where
  pms : Pms w a len ps
  le : len ≤ cap
  max : cap ≤ maxLen

theorem Pms.nil {w : World} {a : Option Addr} {len : Nat} {ps : List Pm} (h : Pms w a len ps) (ha : a = none) : len = 0 := by
  subst ha
  by_cases h0 : 0 < len
  · obtain ⟨b, off, he, _⟩ := h.cells h0
    cases he
  · omega

theorem gP_take {ps : List Pm} {k i : Nat} (h : i < k) : gP (ps.take k) i = gP ps i := by
  simp [gP, List.getD, h]
theorem gP_drop {ps : List Pm} {k i : Nat} : gP (ps.drop k) i = gP ps (k + i) := by
  simp [gP, List.getD, List.getElem?_drop]

theorem Pms.left {w : World} {a : Option Addr} {len : Nat} {ps : List Pm} (h : Pms w a len ps) {k : Nat} (hk : k ≤ len) : Pms w a k (ps.take k) := by
  refine ⟨by simp [h.hlen]; omega, fun p hp => h.ok p (List.mem_of_mem_take hp), fun h0 => ?_⟩
  obtain ⟨b, off, rfl, hc⟩ := h.cells (by omega)
  refine ⟨b, off, rfl, fun i hi => ?_⟩
  rw [gP_take hi]
  exact hc i (by omega)

theorem Pms.right {w : World} {a : Option Addr} {len : Nat} {ps : List Pm} (h : Pms w a len ps) {k : Nat} (hk : k ≤ len) : Pms w (Option.map (fun x => x.add (k * 21)) a) (len - k) (ps.drop k) := by
  refine ⟨by simp [h.hlen], fun p hp => h.ok p (List.mem_of_mem_drop hp), fun h0 => ?_⟩
  obtain ⟨b, off, rfl, hc⟩ := h.cells (by omega)
  refine ⟨b, off + k * 21, by simp [Addr.add_lit], fun i hi => ?_⟩
  rw [gP_drop]
  have := hc (k + i) (by omega)
  rwa [show off + (k + i) * 21 = off + k * 21 + i * 21 by omega] at this

theorem pms_none (w : World) (a : Option Addr) : Pms w a 0 [] := ⟨rfl, by simp, fun h => absurd h (by omega)⟩

theorem obj_new (w : World) (ty : ByteArray) (ptr : Option Addr) (oid : Option (List Int)) (rest : List Value) (t : TypeId) (ho : OId w ptr oid) : Obj6 (w.alloc (.cells (.string ty :: .pointer ptr :: rest).toArray t)) w.heap.size ty ptr oid :=
  ⟨by rw [World.cell?_alloc_at (hn := rfl)]; rfl, by rw [World.cell?_alloc_at (hn := rfl)]; rfl, ho.below ((Below.refl _ _).alloc (Nat.le_refl _) _)⟩

set_option maxRecDepth 100000 in
set_option maxHeartbeats 2000000 in
theorem law7 {e : Int} {a : Option Addr} {len cap : Nat} {ps : List Pm} {act ty : ByteArray} {ptr : Option Addr} {oid : Option (List Int)} {w : World} (h : PmsIn w a len cap ps) (ha : act.size ≤ maxLen) (hy : ty.size ≤ maxLen) (ho : OId w ptr oid) (kk : Int) :
    Calls Try.prog 3 #[.int .u8 e, .slice a len cap, .string act, .string ty, .pointer ptr, .int .i64 kk] w fun r w' => r = .returned (.bool true) ∧ Below w.heap.size w w' := by
  have hm := Nat.le_trans h.le h.max
  unfold maxLen at hm ha hy
  by_cases g1 : (len : Int) > 65536
  · go_enter Try.func3, Try.ntmps3
    go_wp2_with fail
    go_ret
    exact ⟨rfl, Below.refl _ _⟩
  by_cases g2 : (act.size : Int) > 1048576
  · go_enter Try.func3, Try.ntmps3
    go_wp2_with fail
    go_ret
    exact ⟨rfl, Below.refl _ _⟩
  by_cases g3 : (ty.size : Int) > 1048576
  · go_enter Try.func3, Try.ntmps3
    go_wp2_with fail
    go_ret
    exact ⟨rfl, Below.refl _ _⟩
  go_enter Try.func3, Try.ntmps3
  go_wp2_with fail
  refine (permBytes_any h.pms hm _ (by omega) (by omega)).mono ?_
  rintro r w1 ⟨n, rfl, hD⟩
  have hB1 := hD.below w.heap.size
  clear hD
  by_cases g4 : n > 1048576
  · go_wp2_with fail
    go_ret
    exact ⟨rfl, hB1⟩
  by_cases g5 : kk < 0
  · go_wp2_with fail
    go_ret
    exact ⟨rfl, hB1⟩
  by_cases g6 : (len : Int) < kk
  · go_wp2_with fail
    go_ret
    exact ⟨rfl, hB1⟩
  obtain ⟨k, rfl⟩ := Int.eq_ofNat_of_zero_le (Int.not_lt.1 g5)
  have hk : k ≤ len := by omega
  have hk1 : (k : Int) ≤ len := by omega
  have hk0 : (0 : Int) ≤ k := by omega
  clear g5 g6
  have hP := h.pms
  go_wp2_with fail
  refine (toPerms_any (hP.below hB1) (by omega) hP.nil).mono ?_
  rintro r w2 ⟨ao, rfl, N2, hS⟩
  have hB2 := hB1.trans (hS.mono hB1.size)
  clear hB1 hS
  go_upto_region 9 with fail
  have hal := (Below.refl w2.heap.size w2).alloc (Nat.le_refl _) (.cells #[.string ty, .pointer ptr, .pointer none, .pointer none, .map none, .map none] 30)
  have O3 := obj_new w2 ty ptr oid [.pointer none, .pointer none, .map none, .map none] 30 (ho.below hB2)
  have N3 := N2.below hal
  have hB3 := hB2.trans (hal.mono hB2.size)
  generalize w2.alloc (.cells #[.string ty, .pointer ptr, .pointer none, .pointer none, .map none, .map none] 30) = W3 at *
  generalize w2.heap.size = g at *
  clear hal N2 hB2
  have HV : Hid (∀ e qs, foldE (fun p => isFor p act ty oid) e qs = verdictP (fun p => isFor p act ty oid) e qs) := fun e qs => foldE_eq _ e qs
  have HC : Hid (verdictP (fun p => isFor p act ty oid) (verdictP (fun p => isFor p act ty oid) e (ps.take k)) (ps.drop k) = verdictP (fun p => isFor p act ty oid) e ps) := by
    show _ = _; rw [verdict_chain, List.take_append_drop]
  have HS : Hid (verdictP (fun p => isFor p act ty oid) (verdictP (fun p => isFor p act ty oid) e (ps.drop k)) (ps.take k) = verdictP (fun p => isFor p act ty oid) e ps) := by
    show _ = _; rw [verdict_swap, List.take_append_drop]
  go_wp2_with fail
  refine (zzFold_any N3 (by omega) O3).mono ?_
  rintro r W4 ⟨rfl, hS⟩
  have hB4 := hB3.trans (hS.mono hB3.size)
  have N4 := N3.below hS
  have O4 := O3.below hS
  clear hB3 N3 O3 hS
  rw [HV.out]
  go_wp2_with fail
  refine (zzFold_any (N4.left hk) (by omega) O4).mono ?_
  rintro r W5 ⟨rfl, hS⟩
  have hB5 := hB4.trans (hS.mono hB4.size)
  have N5 := N4.below hS
  have O5 := O4.below hS
  clear hB4 N4 O4 hS
  rw [HV.out]
  by_cases hlk : len = k
  · subst hlk
    have hdr : ps.drop len = [] := List.drop_eq_nil_of_le (by rw [hP.hlen]; exact Nat.le_refl _)
    have HDR : Hid (ps.drop len = []) := hdr
    rw [hdr] at HC HS
    clear hdr
    go_wp2_with fail
    refine (zzFold_any (pms_none _ _) (by omega) O5).mono ?_
    rintro r W6 ⟨rfl, hS⟩
    have hB6 := hB5.trans (hS.mono hB5.size)
    have N6 := N5.below hS
    have O6 := O5.below hS
    clear hB5 N5 O5 hS
    rw [HV.out, HC.out]
    clear HC
    go_wp2_with fail
    refine (zzFold_any (pms_none _ _) (by omega) O6).mono ?_
    rintro r W7 ⟨rfl, hS⟩
    have hB7 := hB6.trans (hS.mono hB6.size)
    have N7 := N6.below hS
    have O7 := O6.below hS
    clear hB6 N6 O6 hS
    rw [HV.out]
    go_wp2_with fail
    refine (zzFold_any (N7.left hk) (by omega) O7).mono ?_
    rintro r W8 ⟨rfl, hS⟩
    have hB8 := hB7.trans (hS.mono hB7.size)
    clear hB7 N7 O7 hS
    rw [HV.out, HS.out]
    clear HS HV
    go_wp2_with fail
    refine (verdict_any (hP.below hB8) (by omega) (ho.below hB8)).mono ?_
    rintro r W9 ⟨rfl, hS⟩
    have hB9 := hB8.trans (hS.mono hB8.size)
    clear hB8 hS
    generalize verdictP (fun p => isFor p act ty oid) e ps = V at *
    go_wp2_with fail
    go_ret
    exact ⟨rfl, hB9⟩
  · skip
    go_wp2_with fail
    refine (zzFold_any (N5.right hk) (by omega) O5).mono ?_
    rintro r W6 ⟨rfl, hS⟩
    have hB6 := hB5.trans (hS.mono hB5.size)
    have N6 := N5.below hS
    have O6 := O5.below hS
    clear hB5 N5 O5 hS
    rw [HV.out, HC.out]
    clear HC
    go_wp2_with fail
    refine (zzFold_any (N6.right hk) (by omega) O6).mono ?_
    rintro r W7 ⟨rfl, hS⟩
    have hB7 := hB6.trans (hS.mono hB6.size)
    have N7 := N6.below hS
    have O7 := O6.below hS
    clear hB6 N6 O6 hS
    rw [HV.out]
    go_wp2_with fail
    refine (zzFold_any (N7.left hk) (by omega) O7).mono ?_
    rintro r W8 ⟨rfl, hS⟩
    have hB8 := hB7.trans (hS.mono hB7.size)
    clear hB7 N7 O7 hS
    rw [HV.out, HS.out]
    clear HS HV
    go_wp2_with fail
    refine (verdict_any (hP.below hB8) (by omega) (ho.below hB8)).mono ?_
    rintro r W9 ⟨rfl, hS⟩
    have hB9 := hB8.trans (hS.mono hB8.size)
    clear hB8 hS
    generalize verdictP (fun p => isFor p act ty oid) e ps = V at *
    go_wp2_with fail
    go_ret
    exact ⟨rfl, hB9⟩
end Go.Proofs.Qxb6617219a.Base
