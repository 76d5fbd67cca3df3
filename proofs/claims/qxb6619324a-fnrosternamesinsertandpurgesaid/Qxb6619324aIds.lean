import Derived.Test.Qxb6619324aPrev
namespace Go.Proofs.Qxb6619324a.Base
open Go.ChangeShapes Go.WideShapes Go.ChangeAt Go.RowKit
set_option linter.unusedVariables false

/-- Do the bytes of a slice and of a string agree? -/
def sameB (xs : List Int) (s : ByteArray) : Bool := (strOfNums xs).toList == s.toList

theorem sameB_len {xs : List Int} {s : ByteArray} (h : xs.length ≠ s.size) : sameB xs s = false := by
  unfold sameB
  rw [beq_eq_false_iff_ne]
  intro e
  have := congrArg List.length e
  simp [ByteArray.toList_eq, strOfNums] at this
  exact h this

theorem sameB_of {xs : List Int} {s : ByteArray} (h1 : xs.length = s.size) (hb : ∀ x ∈ xs, 0 ≤ x ∧ x ≤ 255) (h : ∀ i (hi : i < s.size), xs.getD i 0 = (s[i].toNat : Int)) : sameB xs s = true := by
  unfold sameB
  rw [beq_iff_eq, ByteArray.toList_eq, ByteArray.toList_eq, strOfNums_data]
  apply List.ext_getElem
  · simp [h1]
  · intro i h2 h3
    simp at h2
    have hi : i < s.size := by omega
    have := h i hi
    have e : xs[i] = (s[i].toNat : Int) := by simpa [List.getD, h2] using this
    simp only [List.getElem_map, e]
    simp
    rfl

theorem sameB_not {xs : List Int} {s : ByteArray} (hb : ∀ x ∈ xs, 0 ≤ x ∧ x ≤ 255) (i : Nat) (hi : i < s.size) (hx : i < xs.length) (h : xs.getD i 0 ≠ (s[i].toNat : Int)) : sameB xs s = false := by
  unfold sameB
  rw [beq_eq_false_iff_ne, ByteArray.toList_eq, ByteArray.toList_eq, strOfNums_data]
  intro e
  apply h
  have := congrArg (fun l => l[i]?) e
  have b := hb xs[i] (List.getElem_mem hx)
  have hi' : i < s.data.toList.length := by simpa using hi
  simp only [List.getElem?_map, List.getElem?_eq_getElem hx, List.getElem?_eq_getElem hi', Option.map_some, Option.some.injEq] at this
  have e2 : s[i] = s.data.toList[i] := rfl
  rw [e2, ← this]
  simp [List.getD, hx]
  omega

set_option maxHeartbeats 400000 in
theorem same_any {a : Option Addr} {len cap : Nat} {xs : List Int} {s : ByteArray} {w : World} (h : In w a len cap xs) (hs : s.size ≤ 9223372036854775807) :
    Calls Try.prog 16 #[.slice a len cap, .string s] w fun e w' => e = .returned (.bool (sameB xs s)) ∧ Drawn w w' := by
  have hm := Nat.le_trans h.le h.max
  unfold maxLen at hm
  have hx := h.byt.1
  by_cases hl : len = s.size
  · go_enter Try.func16, Try.ntmps16
    go_wp2_with fail
    go_loopg [5] len (fun gk i wr => ∃ k : Nat, k ≤ len ∧ Hid (gk = len - k) ∧ i = .int .i64 k ∧ Hid (∀ i (hi : i < s.size), i < k → xs.getD i 0 = (s[i].toNat : Int)) ∧ Drawn w wr)
    case atStart => exact ⟨0, Nat.zero_le _, rfl, rfl, fun i hi h => absurd h (by omega), Drawn.refl _⟩
    case round =>
      obtain ⟨k, hk, hg, rfl, hE, hD⟩ := hrel
      by_cases hlt : k < len
      · obtain ⟨b, off, rfl, hc⟩ := h.byt.2.2 (by omega)
        have hck := hc k hlt
        rw [← hD.cell] at hck
        obtain ⟨x, hxx⟩ : ∃ x, xs.getD k 0 = x := ⟨_, rfl⟩
        rw [hxx] at hck
        have HX : Hid (xs.getD k 0 = x) := hxx
        have HL : Hid (len = s.size) := hl
        have HM : Hid (xs.length = len) := hx
        have hks : k < s.size := by omega
        clear hxx hx hl
        go_wp2_with fail
        go_quiet (fail)
        go_wp2_with fail
        · have hne : x ≠ (s[k].toNat : Int) := by have : (x != (s[k].toNat : Int)) = true := by assumption
                                                  simpa using this
          have := sameB_not (xs := xs) h.byt.2.1 k hks (by have := HM.out; omega) (by rw [HX.out]; exact hne)
          go_ret
          exact ⟨ret_bool this.symm, hD.drewN _⟩
        · have he : x = (s[k].toNat : Int) := by have : (x != (s[k].toNat : Int)) = false := by assumption
                                                 simpa using this
          go_roundg (len - (k + 1))
          case measure => have := hg.out; omega
          case rel =>
            refine ⟨k + 1, by omega, rfl, by go_num, fun i hi hik => ?_, hD.drewN _⟩
            by_cases hie : i = k
            · subst hie; rw [HX.out, he]
            · exact hE.out i hi (by omega)
      · clear hg
        have hf := sameB_of (xs := xs) (hx.trans hl) h.byt.2.1 (fun i hi => hE.out i hi (by omega))
        go_wp2_with fail
        go_ret
        exact ⟨ret_bool hf.symm, hD⟩
  · have hf := sameB_len (xs := xs) (s := s) (by omega)
    have hb : ((len : Int) != (s.size : Int)) = true := by rw [bne_iff_ne]; omega
    go_enter Try.func16, Try.ntmps16
    go_wp2_with fail
    go_ret
    exact ⟨ret_bool hf.symm, Drawn.refl _⟩

/-- Is one of the first n rows the string q? -/
def anyB (X : Nat → List Int) (q : ByteArray) : Nat → Bool
  | 0 => false
  | n + 1 => anyB X q n || sameB (X n) q

theorem anyB_true (X : Nat → List Int) (q : ByteArray) (k : Nat) (h : sameB (X k) q = true) : ∀ n, k < n → anyB X q n = true
  | 0, hn => by omega
  | n + 1, hn => by
    by_cases e : k = n
    · subst e; simp [anyB, h]
    · simp [anyB, anyB_true X q k h n (by omega)]

set_option maxHeartbeats 400000 in
theorem names_any {a : Option Addr} {len cap : Nat} {A : Nat → Option Addr} {L C : Nat → Nat} {X : Nat → List Int} {q : ByteArray} {w : World} (h : Sls w a len cap A L C X) :
    Calls Try.prog 31 #[.slice a len cap, .string q] w fun e w' => e = .returned (.bool (anyB X q len)) ∧ w = w' := by
  have hl := Nat.le_trans h.le h.max
  unfold maxLen at hl
  go_enter Try.func31, Try.ntmps31
  go_wp2_with fail
  go_loopg [9] len (fun gk i wr => ∃ k : Nat, k ≤ len ∧ Hid (gk = len - k) ∧ i = .int .i64 k ∧ Hid (anyB X q k = false) ∧ w = wr)
  case atStart => exact ⟨0, Nat.zero_le _, rfl, rfl, rfl, rfl⟩
  case round =>
    obtain ⟨k, hk, hg, rfl, hE, rfl⟩ := hrel
    by_cases hlt : k < len
    · obtain ⟨b, off, rfl, hc⟩ := h.cells (by omega)
      have hck := hc k hlt
      have hcv := run_convert_byt (h.inner k hlt).byt (C k)
      obtain ⟨t, ht⟩ : ∃ t, sameB (X k) q = t := ⟨_, rfl⟩
      have ht' := ht
      unfold sameB at ht'
      have HT : Hid (sameB (X k) q = t) := ht
      clear ht
      cases t with
      | true =>
        have hf := anyB_true X q k HT.out len hlt
        go_wp2_with fail
        go_ret
        exact ⟨ret_bool hf.symm, rfl⟩
      | false =>
        go_wp2_with fail
        go_roundg (len - (k + 1))
        case measure => have := hg.out; omega
        case rel => exact ⟨k + 1, by omega, rfl, by go_num, (show anyB X q (k + 1) = false by simp [anyB, hE.out, HT.out]), rfl⟩
    · clear hg
      obtain rfl : k = len := by omega
      go_wp2_with fail
      go_ret
      exact ⟨ret_bool hE.out.symm, rfl⟩

theorem zzNames_any {a : Option Addr} {len cap : Nat} {A : Nat → Option Addr} {L C : Nat → Nat} {X : Nat → List Int} {q : ByteArray} {w : World} (h : Sls w a len cap A L C X) :
    Calls Try.prog 19 #[.slice a len cap, .string q] w fun e w' => e = .returned (.bool (anyB X q len)) ∧ w = w' := by
  go_enter Try.func19, Try.ntmps19
  go_wp2_with fail
  refine (names_any h).mono ?_
  rintro e w' ⟨rfl, rfl⟩
  go_wp2_with fail
  go_ret
  exact ⟨rfl, rfl⟩

end Go.Proofs.Qxb6619324a.Base
