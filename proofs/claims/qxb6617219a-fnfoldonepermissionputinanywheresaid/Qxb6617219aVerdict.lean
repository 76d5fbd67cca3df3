import Derived.Test.Qxb6617219aPerms
namespace Go.Proofs.Qxb6617219a.Base
open Go.ChangeShapes Go.WideShapes Go.ChangeAt Go.RowKit
set_option linter.unusedVariables false

/-- How many of the permissions are for it and deny ¦ allow. -/
def cntD (f : Pm → Bool) (ps : List Pm) : Nat := (ps.filter fun p => f p && p.neg).length
def cntA (f : Pm → Bool) (ps : List Pm) : Nat := (ps.filter fun p => f p && !p.neg).length
def verdictP (f : Pm → Bool) (e : Int) (ps : List Pm) : Int := if e = 2 then 2 else if 0 < cntD f ps then 2 else if 0 < cntA f ps then 1 else e

theorem take_gP {ps : List Pm} {k : Nat} (h : k < ps.length) : ps.take (k + 1) = ps.take k ++ [gP ps k] := by
  have e : gP ps k = ps[k] := by simp [gP, List.getD, h]
  rw [e, List.take_succ_eq_append_getElem h]
theorem cntD_succ (f : Pm → Bool) {ps : List Pm} {k : Nat} (h : k < ps.length) : cntD f (ps.take (k + 1)) = cntD f (ps.take k) + if (f (gP ps k) && (gP ps k).neg) = true then 1 else 0 := by
  rw [take_gP h]
  unfold cntD
  rw [List.filter_append, List.length_append]
  cases hb : (f (gP ps k) && (gP ps k).neg) <;> simp [hb]
theorem cntA_succ (f : Pm → Bool) {ps : List Pm} {k : Nat} (h : k < ps.length) : cntA f (ps.take (k + 1)) = cntA f (ps.take k) + if (f (gP ps k) && !(gP ps k).neg) = true then 1 else 0 := by
  rw [take_gP h]
  unfold cntA
  rw [List.filter_append, List.length_append]
  cases hb : (f (gP ps k) && !(gP ps k).neg) <;> simp [hb]

set_option maxRecDepth 100000 in
set_option maxHeartbeats 1000000 in
theorem count_any {a : Option Addr} {len cap : Nat} {ps : List Pm} {act ty : ByteArray} {ptr : Option Addr} {oid : Option (List Int)} {w : World} (h : Pms w a len ps) (hn : len ≤ 2097152) (ho : OId w ptr oid) :
    Calls Try.prog 16 #[.slice a len cap, .string act, .string ty, .pointer ptr] w fun r w' => r = .returned (.tuple #[.int .i64 (cntD (fun p => isFor p act ty oid) ps), .int .i64 (cntA (fun p => isFor p act ty oid) ps)]) ∧ Below w.heap.size w w' := by
  have HN : Hid (ps.length = len) := h.hlen
  go_enter Try.func16, Try.ntmps16
  go_wp2_with fail
  go_loopg [10, 11, 15] len (fun gk s t i wr => ∃ k x y : Nat, k ≤ len ∧ x ≤ k ∧ y ≤ k ∧ Hid (gk = len - k) ∧ i = .int .i64 k ∧ s = .int .i64 x ∧ t = .int .i64 y ∧ Hid (cntD (fun p => isFor p act ty oid) (ps.take k) = x) ∧ Hid (cntA (fun p => isFor p act ty oid) (ps.take k) = y) ∧ Below w.heap.size w wr)
  case atStart => exact ⟨0, 0, 0, Nat.zero_le _, Nat.zero_le _, Nat.zero_le _, rfl, rfl, rfl, rfl, rfl, rfl, Below.refl _ _⟩
  case round =>
  obtain ⟨k, x, y, hk, hx, hy, hg, rfl, rfl, rfl, hX, hY, hB⟩ := hrel
  by_cases hlt : k < len
  · have hkl : k < ps.length := by rw [HN.out]; exact hlt
    have hp := h.ok _ (gP_mem hkl)
    have eD := cntD_succ (fun p => isFor p act ty oid) hkl
    have eA := cntA_succ (fun p => isFor p act ty oid) hkl
    obtain ⟨b, off, rfl, hc⟩ := h.cells (by omega)
    have r1 := rangeAt_below (hc k hlt) hB
    have hbl : b < w.heap.size := World.block_lt_of_cell? w _ (hc k hlt 0 _ (pc0 _))
    have hc0 := hc k hlt 0 _ (pc0 _)
    rw [hX.out] at eD
    rw [hY.out] at eA
    generalize gP ps k = p at *
    have R1 : Hid (wr.rangeAt b (off + k * 21) (pc p)) := r1
    have S0 : Hid ((Try.prog.info? 37).map (·.size) = some (pc p).length) := by show _ = _; rw [size37, pc_len hp]
    have i1 : (k : Int) < len := by omega
    have ED : Hid (cntD (fun p => isFor p act ty oid) (ps.take (k + 1)) = x + if (isFor p act ty oid && p.neg) = true then 1 else 0) := eD
    have EA : Hid (cntA (fun p => isFor p act ty oid) (ps.take (k + 1)) = y + if (isFor p act ty oid && !p.neg) = true then 1 else 0) := eA
    clear hc r1 eD eA
    go_wp2_with (refine wpList_load_mid (by rfl) 37 (.tmp 20) (by rfl) b (off + k * 21) (by rfl) (pc p) _ R1.out Try.underlying37 rfl S0.out ?_)
    refine (permFor_any p hp act ty ptr oid _ (ho.below hB)).mono ?_
    rintro r w5 ⟨rfl, hS⟩
    have hB5 := hB.trans (hS.mono hB.size)
    have c0 : w5.cell? ⟨b, off + k * 21, none⟩ = some (.bool p.neg) := by rw [hB5.cell (by exact hbl)]; exact hc0
    clear hS hB R1 S0 hc0
    obtain ⟨t, ht⟩ : ∃ t, isFor p act ty oid = t := ⟨_, rfl⟩
    rw [ht] at ED EA ⊢
    clear ht
    cases t with
    | false =>
      go_wp2_with fail
      go_roundg (len - (k + 1))
      case measure => have := hg.out; omega
      case rel => exact ⟨k + 1, x, y, by omega, by omega, by omega, rfl, by go_num, rfl, rfl, (show _ = _ by rw [ED.out]; simp), (show _ = _ by rw [EA.out]; simp), hB5⟩
    | true =>
      obtain ⟨ng, hng⟩ : ∃ ng, p.neg = ng := ⟨_, rfl⟩
      rw [hng] at ED EA c0
      clear hng
      cases ng with
      | true =>
        go_wp2_with fail
        go_roundg (len - (k + 1))
        case measure => have := hg.out; omega
        case rel => exact ⟨k + 1, x + 1, y, by omega, by omega, by omega, rfl, by go_num, by go_num, rfl, (show _ = _ by rw [ED.out]; simp), (show _ = _ by rw [EA.out]; simp), hB5⟩
      | false =>
        go_wp2_with fail
        go_roundg (len - (k + 1))
        case measure => have := hg.out; omega
        case rel => exact ⟨k + 1, x, y + 1, by omega, by omega, by omega, rfl, by go_num, rfl, by go_num, (show _ = _ by rw [ED.out]; simp), (show _ = _ by rw [EA.out]; simp), hB5⟩
  obtain rfl : k = len := by omega
  clear hg
  have e : ps.take k = ps := List.take_of_length_le (by rw [HN.out]; exact Nat.le_refl _)
  rw [e] at hX hY
  rw [show (x : Int) = (cntD (fun p => isFor p act ty oid) ps : Nat) by rw [hX.out], show (y : Int) = (cntA (fun p => isFor p act ty oid) ps : Nat) by rw [hY.out]]
  go_wp2_with fail
  go_ret2
  exact ⟨rfl, hB⟩

set_option maxHeartbeats 1000000 in
theorem verdict_any {e : Int} {a : Option Addr} {len cap : Nat} {ps : List Pm} {act ty : ByteArray} {ptr : Option Addr} {oid : Option (List Int)} {w : World} (h : Pms w a len ps) (hn : len ≤ 2097152) (ho : OId w ptr oid) :
    Calls Try.prog 9 #[.int .u8 e, .slice a len cap, .string act, .string ty, .pointer ptr] w fun r w' => r = .returned (.int .u8 (verdictP (fun p => isFor p act ty oid) e ps)) ∧ Below w.heap.size w w' := by
  by_cases he : e = 2
  · subst he
    go_enter Try.func9, Try.ntmps9
    go_wp2_with fail
    go_ret
    exact ⟨ret_int (by simp [verdictP]), Below.refl _ _⟩
  have hb : (e == 2) = false := by simpa using he
  obtain ⟨V, hV⟩ : ∃ V, verdictP (fun p => isFor p act ty oid) e ps = V := ⟨_, rfl⟩
  rw [hV]
  have HV : Hid (verdictP (fun p => isFor p act ty oid) e ps = V) := hV
  have HE : Hid (¬ e = 2) := he
  clear hV he
  go_enter Try.func9, Try.ntmps9
  go_wp2_with fail
  refine (count_any h hn ho).mono ?_
  rintro r w5 ⟨rfl, hB⟩
  unfold verdictP at HV
  generalize cntD (fun p => isFor p act ty oid) ps = x at *
  generalize cntA (fun p => isFor p act ty oid) ps = y at *
  by_cases hx : 0 < (x : Int)
  · have hf : V = 2 := by rw [← HV.out, if_neg HE.out, if_pos (by omega)]
    have HF : Hid (V = 2) := hf
    clear hf HV
    go_wp2_with fail
    go_ret
    exact ⟨ret_int HF.out.symm, hB⟩
  by_cases hy : 0 < (y : Int)
  · have hf : V = 1 := by rw [← HV.out, if_neg HE.out, if_neg (by omega), if_pos (by omega)]
    have HF : Hid (V = 1) := hf
    clear hf HV
    go_wp2_with fail
    go_ret
    exact ⟨ret_int HF.out.symm, hB⟩
  have hf : V = e := by rw [← HV.out, if_neg HE.out, if_neg (by omega), if_neg (by omega)]
  have HF : Hid (V = e) := hf
  clear hf HV
  go_wp2_with fail
  go_ret
  exact ⟨ret_int HF.out.symm, hB⟩

/-! ### The plain laws -/
theorem foldP_eq (f : Pm → Bool) : ∀ (ps : List Pm) (e : Int), foldP f e ps = if 0 < cntD f ps then 2 else if 0 < cntA f ps then 1 else e
  | [], e => by simp [foldP, cntD, cntA]
  | p :: ps, e => by
    have ih := foldP_eq f ps
    unfold foldP
    cases hf : f p with
    | false =>
      have e1 : cntD f (p :: ps) = cntD f ps := by simp [cntD, hf]
      have e2 : cntA f (p :: ps) = cntA f ps := by simp [cntA, hf]
      rw [e1, e2, ← ih e]
      simp
    | true =>
      cases hn : p.neg with
      | true =>
        have e1 : cntD f (p :: ps) = cntD f ps + 1 := by simp [cntD, hf, hn]
        rw [e1]
        simp
      | false =>
        have e1 : cntD f (p :: ps) = cntD f ps := by simp [cntD, hf, hn]
        have e2 : cntA f (p :: ps) = cntA f ps + 1 := by simp [cntA, hf, hn]
        rw [e1, e2]
        simp [ih 1]

theorem foldE_eq (f : Pm → Bool) (e : Int) (ps : List Pm) : foldE f e ps = verdictP f e ps := by
  unfold foldE verdictP
  rw [foldP_eq]

theorem cntD_append (f : Pm → Bool) (ps qs : List Pm) : cntD f (ps ++ qs) = cntD f ps + cntD f qs := by simp [cntD]
theorem cntA_append (f : Pm → Bool) (ps qs : List Pm) : cntA f (ps ++ qs) = cntA f ps + cntA f qs := by simp [cntA]

theorem verdict_chain (f : Pm → Bool) (e : Int) (ps qs : List Pm) : verdictP f (verdictP f e ps) qs = verdictP f e (ps ++ qs) := by
  unfold verdictP
  rw [cntD_append, cntA_append]
  generalize cntD f ps = a
  generalize cntD f qs = b
  generalize cntA f ps = c
  generalize cntA f qs = d
  by_cases he : e = 2
  · simp [he]
  · by_cases ha : 0 < a
    · simp [he, ha, show 0 < a + b by omega]
    · obtain rfl : a = 0 := by omega
      by_cases hb : 0 < b
      · by_cases hc : 0 < c <;> simp [he, hb, hc]
      · obtain rfl : b = 0 := by omega
        by_cases hc : 0 < c
        · by_cases hd : 0 < d <;> simp [he, hc, hd, show 0 < c + d by omega]
        · obtain rfl : c = 0 := by omega
          by_cases hd : 0 < d <;> simp [he, hd]

theorem verdict_swap (f : Pm → Bool) (e : Int) (ps qs : List Pm) : verdictP f (verdictP f e qs) ps = verdictP f e (ps ++ qs) := by
  rw [verdict_chain]
  unfold verdictP
  rw [cntD_append, cntA_append, cntD_append, cntA_append, Nat.add_comm (cntD f qs), Nat.add_comm (cntA f qs)]

end Go.Proofs.Qxb6617219a.Base
