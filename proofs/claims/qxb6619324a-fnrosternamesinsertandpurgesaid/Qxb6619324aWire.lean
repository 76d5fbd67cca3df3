import Derived.Test.Qxb6619324aLaw1
namespace Go.Proofs.Qxb6619324a.Base
open Go.ChangeShapes Go.WideShapes Go.ChangeAt Go.RowKit
set_option linter.unusedVariables false

/-- A room that is at most 2^20 comes back; the world is as it was. -/
def SomeRoom (w : World) (e : Ending) (w' : World) : Prop := ∃ r : Int, e = .returned (.int .i64 r) ∧ w = w' ∧ r ≤ 1048576

/-- A slice of slices of bytes that came in: row i lies at 'A i', has 'L i' elements and the capacity 'C i', and holds 'X i'. -/
structure Sls (w : World) (a : Option Addr) (len cap : Nat) (A : Nat → Option Addr) (L C : Nat → Nat) (X : Nat → List Int) : Prop where
  le : len ≤ cap
  max : cap ≤ maxLen
  inner : ∀ i, i < len → In w (A i) (L i) (C i) (X i)
  cells : 0 < len → ∃ b off, a = some ⟨b, off, none⟩ ∧ ∀ i, i < len → w.cell? ⟨b, off + i, none⟩ = some (.slice (A i) (L i) (C i))

theorem Sls.maxL {w : World} {a : Option Addr} {len cap : Nat} {A : Nat → Option Addr} {L C : Nat → Nat} {X : Nat → List Int} (h : Sls w a len cap A L C X) {i : Nat} (hi : i < len) : L i ≤ 9223372036854775807 :=
  Nat.le_trans (h.inner i hi).le (h.inner i hi).max

set_option maxHeartbeats 400000 in
theorem roomBytes_le (a : Option Addr) (len cap : Nat) (room : Int) (w : World) (hr : room ≤ 1048576) :
    Calls Try.prog 10 #[.slice a len cap, .int .i64 room] w (SomeRoom w) := by
  by_cases h1 : room < 0
  · go_enter Try.func10, Try.ntmps10
    go_wp2
    go_ret
    exact ⟨_, rfl, rfl, by omega⟩
  · by_cases h2 : (len : Int) > room
    · go_enter Try.func10, Try.ntmps10
      go_wp2
      go_ret
      exact ⟨_, rfl, rfl, by omega⟩
    · go_enter Try.func10, Try.ntmps10
      go_wp2
      go_ret
      exact ⟨_, rfl, rfl, by omega⟩

set_option maxHeartbeats 400000 in
theorem roomString_le (s : ByteArray) (room : Int) (w : World) (hr : room ≤ 1048576) :
    Calls Try.prog 18 #[.string s, .int .i64 room] w (SomeRoom w) := by
  by_cases h1 : room < 0
  · go_enter Try.func18, Try.ntmps18
    go_wp2
    go_ret
    exact ⟨_, rfl, rfl, by omega⟩
  · by_cases h2 : (s.size : Int) > room
    · go_enter Try.func18, Try.ntmps18
      go_wp2
      go_ret
      exact ⟨_, rfl, rfl, by omega⟩
    · go_enter Try.func18, Try.ntmps18
      go_wp2
      go_ret
      exact ⟨_, rfl, rfl, by omega⟩

set_option maxHeartbeats 400000 in
theorem roomSlices_le {a : Option Addr} {len cap : Nat} {A : Nat → Option Addr} {L C : Nat → Nat} {X : Nat → List Int} {w : World} (h : Sls w a len cap A L C X) (room : Int) (hr : room ≤ 1048576) :
    Calls Try.prog 29 #[.slice a len cap, .int .i64 room] w (SomeRoom w) := by
  by_cases h1 : room < 0
  · go_enter Try.func29, Try.ntmps29
    go_wp2
    go_ret
    exact ⟨_, rfl, rfl, by omega⟩
  · by_cases h2 : (len : Int) > room / 24
    · go_enter Try.func29, Try.ntmps29
      go_wp2
      go_ret
      exact ⟨_, rfl, rfl, by omega⟩
    · have h3 : 24 * (len : Int) ≤ room := by omega
      go_enter Try.func29, Try.ntmps29
      go_wp2_with fail
      go_loopg [1, 5] len (fun gk r i wr => ∃ (k : Nat) (q : Int), k ≤ len ∧ Hid (gk = len - k) ∧ i = .int .i64 k ∧ r = .int .i64 q ∧ 0 ≤ q ∧ q ≤ 1048576 ∧ w = wr)
      case atStart => exact ⟨0, _, Nat.zero_le _, rfl, rfl, rfl, by omega, by omega, rfl⟩
      case round =>
        obtain ⟨k, q, hk, hg, rfl, rfl, q0, q1, rfl⟩ := hrel
        by_cases hlt : k < len
        · obtain ⟨b, off, rfl, hc⟩ := h.cells (by omega)
          have hck := hc k hlt
          have hm := h.maxL hlt
          by_cases h4 : (L k : Int) > q
          · go_wp2_with fail
            go_ret
            exact ⟨_, rfl, rfl, by omega⟩
          · go_wp2_with fail
            go_roundg (len - (k + 1))
            case measure => have := hg.out; omega
            case rel => exact ⟨k + 1, _, by omega, rfl, by go_num, rfl, by omega, by omega, rfl⟩
        · go_wp2_with fail
          go_ret
          exact ⟨_, rfl, rfl, by omega⟩

set_option maxHeartbeats 400000 in
theorem roomWire_le {a0 a1 a2 : Option Addr} {l0 c0 l1 c1 l2 c2 : Nat} {a : Option Addr} {len cap : Nat} {A : Nat → Option Addr} {L C : Nat → Nat} {X : Nat → List Int} {a' : Option Addr} {len' cap' : Nat} {A' : Nat → Option Addr} {L' C' : Nat → Nat} {X' : Nat → List Int} {w : World}
    (h : Sls w a len cap A L C X) (h' : Sls w a' len' cap' A' L' C' X') (room : Int) (hr : room ≤ 1048576) :
    Calls Try.prog 14 #[.slice a0 l0 c0, .slice a1 l1 c1, .slice a2 l2 c2, .slice a len cap, .slice a' len' cap', .int .i64 room] w (SomeRoom w) := by
  go_enter Try.func14, Try.ntmps14
  go_wp2_with fail
  refine (roomBytes_le _ _ _ _ _ hr).mono ?_
  rintro e w' ⟨r0, rfl, rfl, hr0⟩
  go_wp2_with fail
  refine (roomBytes_le _ _ _ _ _ hr0).mono ?_
  rintro e w' ⟨r1, rfl, rfl, hr1⟩
  go_wp2_with fail
  refine (roomBytes_le _ _ _ _ _ hr1).mono ?_
  rintro e w' ⟨r2, rfl, rfl, hr2⟩
  go_wp2_with fail
  refine (roomSlices_le h _ hr2).mono ?_
  rintro e w' ⟨r3, rfl, rfl, hr3⟩
  go_wp2_with fail
  refine (roomSlices_le h' _ hr3).mono ?_
  rintro e w' ⟨r4, rfl, rfl, hr4⟩
  go_wp2_with fail
  go_ret
  exact ⟨_, rfl, rfl, hr4⟩

end Go.Proofs.Qxb6619324a.Base
