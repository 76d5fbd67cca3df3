import Derived.Test.Qxb6619324aLaw4
namespace Go.Proofs.Qxb6619324a.Base
open Go.ChangeShapes Go.WideShapes Go.ChangeAt Go.RowKit
set_option linter.unusedVariables false

/-- The i-th member's id and address. -/
def gI (ms : List (ByteArray × ByteArray)) (i : Nat) : ByteArray := (ms.getD i (ByteArray.empty, ByteArray.empty)).1
def gJ (ms : List (ByteArray × ByteArray)) (i : Nat) : ByteArray := (ms.getD i (ByteArray.empty, ByteArray.empty)).2

/-- The members 'ms' lie behind 'a', two cells each. -/
structure Mems (w : World) (a : Option Addr) (len : Nat) (ms : List (ByteArray × ByteArray)) : Prop where
  hlen : ms.length = len
  size : ∀ m ∈ ms, m.1.size ≤ 9223372036854775807 ∧ m.2.size ≤ 9223372036854775807
  cells : 0 < len → ∃ b off, a = some ⟨b, off, none⟩ ∧ ∀ i, i < len → w.cell? ⟨b, off + i * 2, none⟩ = some (.string (gI ms i)) ∧ w.cell? ⟨b, off + i * 2 + 1, none⟩ = some (.string (gJ ms i))

/-- A slice of members that came in. -/
structure MemsIn (w : World) (a : Option Addr) (len cap : Nat) (ms : List (ByteArray × ByteArray)) : Prop where
  mems : Mems w a len ms
  le : len ≤ cap
  max : cap ≤ maxLen

theorem gI_size {w : World} {a : Option Addr} {len : Nat} {ms : List (ByteArray × ByteArray)} (h : Mems w a len ms) {i : Nat} (hi : i < len) : (gI ms i).size ≤ 9223372036854775807 := by
  have hi' : i < ms.length := by rw [h.hlen]; exact hi
  have := h.size ms[i] (List.getElem_mem hi')
  simpa [gI, List.getD, hi'] using this.1
theorem gJ_size {w : World} {a : Option Addr} {len : Nat} {ms : List (ByteArray × ByteArray)} (h : Mems w a len ms) {i : Nat} (hi : i < len) : (gJ ms i).size ≤ 9223372036854775807 := by
  have hi' : i < ms.length := by rw [h.hlen]; exact hi
  have := h.size ms[i] (List.getElem_mem hi')
  simpa [gJ, List.getD, hi'] using this.2

/-- A slice of strings that came in. -/
structure StrsIn (w : World) (a : Option Addr) (len cap : Nat) (S : Nat → ByteArray) : Prop where
  le : len ≤ cap
  max : cap ≤ maxLen
  size : ∀ i, i < len → (S i).size ≤ 9223372036854775807
  cells : 0 < len → ∃ b off, a = some ⟨b, off, none⟩ ∧ ∀ i, i < len → w.cell? ⟨b, off + i, none⟩ = some (.string (S i))

set_option maxHeartbeats 400000 in
theorem roomMems_le {a : Option Addr} {len cap : Nat} {ms : List (ByteArray × ByteArray)} {w : World} (h : MemsIn w a len cap ms) (room : Int) (hr : room ≤ 1048576) :
    Calls Try.prog 32 #[.slice a len cap, .int .i64 room] w (SomeRoom w) := by
  by_cases h1 : room < 0
  · go_enter Try.func32, Try.ntmps32
    go_wp2
    go_ret
    exact ⟨_, rfl, rfl, by omega⟩
  · by_cases h2 : (len : Int) > room / 32
    · go_enter Try.func32, Try.ntmps32
      go_wp2
      go_ret
      exact ⟨_, rfl, rfl, by omega⟩
    · have h3 : 32 * (len : Int) ≤ room := by omega
      go_enter Try.func32, Try.ntmps32
      go_wp2_with fail
      go_loopg [1, 5] len (fun gk r i wr => ∃ (k : Nat) (q : Int), k ≤ len ∧ Hid (gk = len - k) ∧ i = .int .i64 k ∧ r = .int .i64 q ∧ q ≤ 1048576 ∧ w = wr)
      case atStart => exact ⟨0, _, Nat.zero_le _, rfl, rfl, rfl, by omega, rfl⟩
      case round =>
        obtain ⟨k, q, hk, hg, rfl, rfl, q1, rfl⟩ := hrel
        by_cases hlt : k < len
        · obtain ⟨b, off, rfl, hc⟩ := h.mems.cells (by omega)
          obtain ⟨hck, hck2⟩ := hc k hlt
          go_wp2_with fail
          refine (roomString_le _ _ _ q1).mono ?_
          rintro e w' ⟨r1, rfl, rfl, hr1⟩
          go_wp2_with fail
          refine (roomString_le _ _ _ hr1).mono ?_
          rintro e w' ⟨r2, rfl, rfl, hr2⟩
          go_wp2_with fail
          · go_ret
            exact ⟨_, rfl, rfl, by omega⟩
          · go_roundg (len - (k + 1))
            case measure => have := hg.out; omega
            case rel => exact ⟨k + 1, _, by omega, rfl, by go_num, rfl, by omega, rfl⟩
        · go_wp2_with fail
          go_ret
          exact ⟨_, rfl, rfl, by omega⟩

set_option maxHeartbeats 400000 in
theorem roomStrings_le {a : Option Addr} {len cap : Nat} {S : Nat → ByteArray} {w : World} (h : StrsIn w a len cap S) (room : Int) (hr : room ≤ 1048576) :
    Calls Try.prog 33 #[.slice a len cap, .int .i64 room] w (SomeRoom w) := by
  by_cases h1 : room < 0
  · go_enter Try.func33, Try.ntmps33
    go_wp2
    go_ret
    exact ⟨_, rfl, rfl, by omega⟩
  · by_cases h2 : (len : Int) > room / 16
    · go_enter Try.func33, Try.ntmps33
      go_wp2
      go_ret
      exact ⟨_, rfl, rfl, by omega⟩
    · have h3 : 16 * (len : Int) ≤ room := by omega
      go_enter Try.func33, Try.ntmps33
      go_wp2_with fail
      go_loopg [1, 5] len (fun gk r i wr => ∃ (k : Nat) (q : Int), k ≤ len ∧ Hid (gk = len - k) ∧ i = .int .i64 k ∧ r = .int .i64 q ∧ 0 ≤ q ∧ q ≤ 1048576 ∧ w = wr)
      case atStart => exact ⟨0, _, Nat.zero_le _, rfl, rfl, rfl, by omega, by omega, rfl⟩
      case round =>
        obtain ⟨k, q, hk, hg, rfl, rfl, q0, q1, rfl⟩ := hrel
        by_cases hlt : k < len
        · obtain ⟨b, off, rfl, hc⟩ := h.cells (by omega)
          have hck := hc k hlt
          have hm := h.size k hlt
          by_cases h4 : ((S k).size : Int) > q
          · go_wp2_with fail
            go_ret
            exact ⟨_, rfl, rfl, by omega⟩
          · go_wp2_with fail
            go_roundg (len - (k + 1))
            case measure => have := hg.out; omega
            case rel => exact ⟨k + 1, _, by omega, rfl, by go_num, rfl, by omega, by omega, rfl⟩
        · go_wp2_with fail
          go_ret
          exact ⟨_, rfl, rfl, by omega⟩

set_option maxHeartbeats 400000 in
theorem roomRoster_le {a0 : Option Addr} {l0 c0 : Nat} {ms0 : List (ByteArray × ByteArray)} {a1 : Option Addr} {l1 c1 : Nat} {ms1 : List (ByteArray × ByteArray)} {a2 : Option Addr} {l2 c2 : Nat} {S2 : Nat → ByteArray} {a3 : Option Addr} {l3 c3 : Nat} {S3 : Nat → ByteArray} {a4 : Option Addr} {l4 c4 : Nat} {w : World}
    (h0 : MemsIn w a0 l0 c0 ms0) (h1 : MemsIn w a1 l1 c1 ms1) (h2 : StrsIn w a2 l2 c2 S2) (h3 : StrsIn w a3 l3 c3 S3) (room : Int) (hr : room ≤ 1048576) :
    Calls Try.prog 21 #[.slice a0 l0 c0, .slice a1 l1 c1, .slice a2 l2 c2, .slice a3 l3 c3, .slice a4 l4 c4, .int .i64 room] w (SomeRoom w) := by
  go_enter Try.func21, Try.ntmps21
  go_wp2_with fail
  refine (roomMems_le h0 _ hr).mono ?_
  rintro e w' ⟨r0, rfl, rfl, hr0⟩
  go_wp2_with fail
  refine (roomMems_le h1 _ hr0).mono ?_
  rintro e w' ⟨r1, rfl, rfl, hr1⟩
  go_wp2_with fail
  refine (roomStrings_le h2 _ hr1).mono ?_
  rintro e w' ⟨r2, rfl, rfl, hr2⟩
  go_wp2_with fail
  refine (roomStrings_le h3 _ hr2).mono ?_
  rintro e w' ⟨r3, rfl, rfl, hr3⟩
  go_wp2_with fail
  refine (roomBytes_le _ _ _ _ _ hr3).mono ?_
  rintro e w' ⟨r4, rfl, rfl, hr4⟩
  go_wp2_with fail
  go_ret
  exact ⟨_, rfl, rfl, hr4⟩

end Go.Proofs.Qxb6619324a.Base
