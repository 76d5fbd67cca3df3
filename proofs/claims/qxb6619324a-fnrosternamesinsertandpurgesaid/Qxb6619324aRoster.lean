import Derived.Test.Qxb6619324aMembers
namespace Go.Proofs.Qxb6619324a.Base
open Go.ChangeShapes Go.WideShapes Go.ChangeAt Go.RowKit
set_option linter.unusedVariables false

/-- Has one of the first n members the id xs? -/
def anyM (xs : List Int) (ms : List (ByteArray × ByteArray)) : Nat → Bool
  | 0 => false
  | n + 1 => anyM xs ms n || sameB xs (gI ms n)

theorem anyM_true (xs : List Int) (ms : List (ByteArray × ByteArray)) (k : Nat) (h : sameB xs (gI ms k) = true) : ∀ n, k < n → anyM xs ms n = true
  | 0, hn => by omega
  | n + 1, hn => by
    by_cases e : k = n
    · subst e; simp [anyM, h]
    · simp [anyM, anyM_true xs ms k h n (by omega)]

/-- Has a member of the first k of the two lists the id xs? -/
def preM (xs : List Int) (ms0 : List (ByteArray × ByteArray)) (l0 : Nat) (ms1 : List (ByteArray × ByteArray)) (l1 : Nat) : Nat → Bool
  | 0 => false
  | 1 => anyM xs ms0 l0
  | _ => anyM xs ms0 l0 || anyM xs ms1 l1

theorem Mems.below {w w' : World} {a : Option Addr} {len : Nat} {ms : List (ByteArray × ByteArray)} (h : Mems w a len ms) (hb : Below w.heap.size w w') : Mems w' a len ms := by
  refine ⟨h.hlen, h.size, fun h0 => ?_⟩
  obtain ⟨b, off, rfl, hc⟩ := h.cells h0
  refine ⟨b, off, rfl, fun i hi => ?_⟩
  obtain ⟨h1, h2⟩ := hc i hi
  rw [hb.cell (World.block_lt_of_cell? w _ h1), hb.cell (World.block_lt_of_cell? w _ h2)]
  exact ⟨h1, h2⟩

set_option maxRecDepth 100000 in
set_option maxHeartbeats 1000000 in
theorem rosterNames_any {a0 a1 : Option Addr} {l0 c0 l1 c1 : Nat} {ms0 ms1 : List (ByteArray × ByteArray)} {v2 v3 : Value} {a : Option Addr} {len cap : Nat} {xs : List Int} {w : World}
    (h0 : Mems w a0 l0 ms0) (h1 : Mems w a1 l1 ms1) (h : Byt w a len xs) (hn0 : l0 ≤ 2097152) (hn1 : l1 ≤ 2097152) :
    Calls Try.prog 34 #[.agg #[.slice a0 l0 c0, .slice a1 l1 c1, v2, v3], .slice a len cap] w fun e w' => e = .returned (.bool (anyM xs ms0 l0 || anyM xs ms1 l1)) ∧ Below w.heap.size w w' := by
  go_enter Try.func34, Try.ntmps34
  go_upto_region 1 with fail
  go_cut [13, 14, 15] (fun s13 s14 s15 wx => ∃ g, s13 = .slice (some ⟨g, 0, none⟩) 2 2 ∧ s14 = .int .i64 2 ∧ s15 = .int .i64 0 ∧ wx.cell? ⟨g, 0, none⟩ = some (.slice a0 l0 c0) ∧ wx.cell? ⟨g, 1, none⟩ = some (.slice a1 l1 c1) ∧ Below w.heap.size w wx)
  case first =>
    go_wp2_with fail
    go_meet
    case rel =>
      refine ⟨w.heap.size + 1, rfl, rfl, rfl, ?_, ?_, ((Below.refl _ _).alloc (Nat.le_refl _) _).alloc (by simp) _⟩
      · rw [World.cell?_alloc_at (hn := by simp)]; rfl
      · rw [World.cell?_alloc_at (hn := by simp)]; rfl
  case rest =>
  obtain ⟨W, rfl⟩ : ∃ W, W = wc := ⟨_, rfl⟩
  obtain ⟨g, rfl, rfl, rfl, hg0, hg1, hB⟩ := hcut
  have bid := h.below (Nat.le_refl _) hB
  go_wp2_with fail
  go_loopg [15] 2 (fun gk i wr => ∃ k : Nat, k ≤ 2 ∧ Hid (gk = 2 - k) ∧ i = .int .i64 k ∧ Hid (preM xs ms0 l0 ms1 l1 k = false) ∧ Below W.heap.size W wr)
  case atStart => exact ⟨0, by omega, rfl, rfl, rfl, Below.refl _ _⟩
  case round =>
  obtain ⟨k, hk, hgk, rfl, hP, hBr⟩ := hrel
  by_cases hk2 : k < 2
  · obtain ⟨ac, lc, cc, msc, hcell, hM, hPn, hlc, hT⟩ : ∃ ac lc cc msc, W.cell? ⟨g, k, none⟩ = some (.slice ac lc cc) ∧ Mems w ac lc msc ∧ preM xs ms0 l0 ms1 l1 (k + 1) = (preM xs ms0 l0 ms1 l1 k || anyM xs msc lc) ∧ lc ≤ 2097152 ∧ (anyM xs msc lc = true → (anyM xs ms0 l0 || anyM xs ms1 l1) = true) := by
      rcases (show k = 0 ∨ k = 1 by omega) with rfl | rfl
      · exact ⟨a0, l0, c0, ms0, hg0, h0, by simp [preM], hn0, fun e => by simp [e]⟩
      · exact ⟨a1, l1, c1, ms1, hg1, h1, by simp [preM], hn1, fun e => by simp [e]⟩
    rw [← hBr.cell (World.block_lt_of_cell? W _ hcell)] at hcell
    have HP : Hid (preM xs ms0 l0 ms1 l1 (k + 1) = (preM xs ms0 l0 ms1 l1 k || anyM xs msc lc)) := hPn
    have HT : Hid (anyM xs msc lc = true → (anyM xs ms0 l0 || anyM xs ms1 l1) = true) := hT
    clear hPn hT hg0 hg1
    have i1 : (k : Int) < 2 := by omega
    have hMW := hM.below hB
    go_wp2_with fail
    clear hcell
    go_loopg [21] lc (fun gk i ww => ∃ j : Nat, j ≤ lc ∧ Hid (gk = lc - j) ∧ i = .int .i64 j ∧ Hid (anyM xs msc j = false) ∧ Below W.heap.size W ww)
    case atStart => exact ⟨0, Nat.zero_le _, rfl, rfl, rfl, hBr⟩
    case round =>
    clear hBr
    obtain ⟨j, hj, hgj, rfl, hQ, hBj⟩ := hrel
    by_cases hlt : j < lc
    · obtain ⟨b, off, rfl, hc⟩ := hMW.cells (by omega)
      obtain ⟨hc1, hc2⟩ := hc j hlt
      rw [← hBj.cell (World.block_lt_of_cell? W _ hc1)] at hc1
      rw [← hBj.cell (World.block_lt_of_cell? W _ hc2)] at hc2
      have hcv := run_convert_byt ((bid.below (Nat.le_refl _) hBj).alloc (.cells #[.string (gI msc j), .string (gJ msc j)] 59)) cap
      obtain ⟨t, ht⟩ : ∃ t, sameB xs (gI msc j) = t := ⟨_, rfl⟩
      have HS : Hid (sameB xs (gI msc j) = t) := ht
      unfold sameB at ht
      have hal := hBj.alloc hBj.size (.cells #[.string (gI msc j), .string (gJ msc j)] 59)
      have i2 : (j : Int) < lc := by omega
      clear hc
      cases t with
      | true =>
        have hf := HT.out (anyM_true xs msc j HS.out lc hlt)
        have HF : Hid ((anyM xs ms0 l0 || anyM xs ms1 l1) = true) := hf
        clear hf
        go_wp2_with fail
        go_ret
        exact ⟨ret_bool HF.out.symm, hB.trans (hal.mono hB.size)⟩
      | false =>
        go_wp2_with fail
        go_roundg (lc - (j + 1))
        case measure => have := hgj.out; omega
        case rel => exact ⟨j + 1, by omega, rfl, by go_num, (show anyM xs msc (j + 1) = false by simp [anyM, hQ.out, HS.out]), hal⟩
    · obtain rfl : j = lc := by omega
      clear hgj
      go_wp2_with fail
      go_roundg (2 - (k + 1))
      case measure => have := hgk.out; omega
      case rel => exact ⟨k + 1, by omega, rfl, by go_num, (show preM xs ms0 l0 ms1 l1 (k + 1) = false by rw [HP.out, hP.out, hQ.out]; rfl), hBj⟩
  obtain rfl : k = 2 := by omega
  clear hgk
  go_wp2_with fail
  go_ret
  exact ⟨ret_bool hP.out.symm, hB.trans (hBr.mono hB.size)⟩

set_option maxRecDepth 100000 in
set_option maxHeartbeats 400000 in
theorem zzRosterNames_any {a0 a1 a2 a3 : Option Addr} {l0 c0 l1 c1 l2 c2 l3 c3 : Nat} {ms0 ms1 : List (ByteArray × ByteArray)} {a : Option Addr} {len cap : Nat} {xs : List Int} {w : World}
    (h0 : Mems w a0 l0 ms0) (h1 : Mems w a1 l1 ms1) (h : Byt w a len xs) (hn0 : l0 ≤ 2097152) (hn1 : l1 ≤ 2097152) :
    Calls Try.prog 22 #[.agg #[.slice a0 l0 c0, .slice a1 l1 c1, .slice a2 l2 c2, .slice a3 l3 c3], .slice a len cap] w fun e w' => e = .returned (.bool (anyM xs ms0 l0 || anyM xs ms1 l1)) ∧ Below w.heap.size w w' := by
  have hal := (Below.refl w.heap.size w).alloc (Nat.le_refl _) (.cells #[.slice a0 l0 c0, .slice a1 l1 c1, .slice a2 l2 c2, .slice a3 l3 c3] 46)
  go_enter Try.func22, Try.ntmps22
  go_wp2_with fail
  refine (rosterNames_any (h0.below hal) (h1.below hal) (h.below (Nat.le_refl _) hal) hn0 hn1).mono ?_
  rintro e w' ⟨rfl, hB⟩
  go_wp2_with fail
  go_ret
  exact ⟨rfl, hal.trans (hB.mono (by simp))⟩

end Go.Proofs.Qxb6619324a.Base
