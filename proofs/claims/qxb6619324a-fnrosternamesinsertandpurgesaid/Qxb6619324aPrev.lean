import Derived.Test.Qxb6619324aWire
namespace Go.Proofs.Qxb6619324a.Base
open Go.ChangeShapes Go.WideShapes Go.ChangeAt Go.RowKit
set_option linter.unusedVariables false

/-- zzBytes of the wire laws: where it says true, the five outer lengths are small. -/
def WireBound (l0 l1 l2 len len' : Nat) : Prop := l0 ≤ 1048576 ∧ l1 ≤ 1048576 ∧ l2 ≤ 1048576 ∧ len ≤ 1048576 ∧ len' ≤ 1048576

set_option maxRecDepth 100000 in
set_option maxHeartbeats 1000000 in
theorem zzBytes3_any {a0 a1 a2 : Option Addr} {l0 c0 l1 c1 l2 c2 : Nat} {a : Option Addr} {len cap : Nat} {A : Nat → Option Addr} {L C : Nat → Nat} {X : Nat → List Int} {a' : Option Addr} {len' cap' : Nat} {A' : Nat → Option Addr} {L' C' : Nat → Nat} {X' : Nat → List Int} {w : World}
    (h0 : l0 ≤ maxLen) (h1 : l1 ≤ maxLen) (h2 : l2 ≤ maxLen) (h : Sls w a len cap A L C X) (h' : Sls w a' len' cap' A' L' C' X') (st : Int) (by' : Int) (k' : Int) :
    Calls Try.prog 13 #[.slice a0 l0 c0, .slice a1 l1 c1, .slice a2 l2 c2, .slice a len cap, .slice a' len' cap', .int .u64 st, .int .i64 by', .int .i64 k'] w (SomeBool (WireBound l0 l1 l2 len len') w) := by
  have hl := Nat.le_trans h.le h.max
  have hl' := Nat.le_trans h'.le h'.max
  unfold maxLen at h0 h1 h2 hl hl'
  go_enter Try.func13, Try.ntmps13
  go_wp2_with fail
  iterate 7 (go_ret; exact ⟨_, rfl, rfl, by simp⟩)
  go_loopg [17, 18] len (fun gk z i wr => ∃ (k : Nat) (q : Int), k ≤ len ∧ Hid (gk = len - k) ∧ i = .int .i64 k ∧ z = .int .i64 q ∧ 0 ≤ q ∧ q ≤ 1048576 ∧ w = wr)
  case atStart => exact ⟨0, _, Nat.zero_le _, rfl, rfl, rfl, by omega, by omega, rfl⟩
  case round =>
    obtain ⟨k, q, hk, hg, rfl, rfl, q0, q1, rfl⟩ := hrel
    by_cases hlt : k < len
    · obtain ⟨b, off, rfl, hc⟩ := h.cells (by omega)
      have hck := hc k hlt
      have hm := h.maxL hlt
      go_wp2_with fail
      · go_ret; exact ⟨_, rfl, rfl, by simp⟩
      · go_ret; exact ⟨_, rfl, rfl, by simp⟩
      · go_roundg (len - (k + 1))
        case measure => have := hg.out; omega
        case rel => exact ⟨k + 1, _, by omega, rfl, by go_num, rfl, by omega, by omega, rfl⟩
    · clear hg
      go_wp2_with fail
      · go_ret; exact ⟨_, rfl, rfl, by simp⟩
      · go_ret; exact ⟨_, rfl, rfl, by simp⟩
      go_loopg [17, 19] len' (fun gk z i wr => ∃ (k : Nat) (q : Int), k ≤ len' ∧ Hid (gk = len' - k) ∧ i = .int .i64 k ∧ z = .int .i64 q ∧ 0 ≤ q ∧ q ≤ 1048576 ∧ w = wr)
      case atStart => exact ⟨0, _, Nat.zero_le _, rfl, rfl, rfl, by omega, by omega, rfl⟩
      case round =>
        obtain ⟨k2, q2, hk2, hg, rfl, rfl, q20, q21, rfl⟩ := hrel
        by_cases hlt2 : k2 < len'
        · obtain ⟨b, off, rfl, hc⟩ := h'.cells (by omega)
          have hck := hc k2 hlt2
          have hm := h'.maxL hlt2
          go_wp2_with fail
          · go_ret; exact ⟨_, rfl, rfl, by simp⟩
          · go_ret; exact ⟨_, rfl, rfl, by simp⟩
          · go_roundg (len' - (k2 + 1))
            case measure => have := hg.out; omega
            case rel => exact ⟨k2 + 1, _, by omega, rfl, by go_num, rfl, by omega, by omega, rfl⟩
        · clear hg
          go_wp2_with fail
          go_ret
          exact ⟨_, rfl, rfl, fun _ => ⟨by omega, by omega, by omega, by omega, by omega⟩⟩

set_option maxRecDepth 100000 in
set_option maxHeartbeats 1000000 in
theorem zzBytes4_any {a0 a1 a2 : Option Addr} {l0 c0 l1 c1 l2 c2 : Nat} {a : Option Addr} {len cap : Nat} {A : Nat → Option Addr} {L C : Nat → Nat} {X : Nat → List Int} {a' : Option Addr} {len' cap' : Nat} {A' : Nat → Option Addr} {L' C' : Nat → Nat} {X' : Nat → List Int} {w : World}
    (h0 : l0 ≤ maxLen) (h1 : l1 ≤ maxLen) (h2 : l2 ≤ maxLen) (h : Sls w a len cap A L C X) (h' : Sls w a' len' cap' A' L' C' X') (st : Int) (by' : Int) (s : ByteArray) (hs : s.size ≤ 9223372036854775807) :
    Calls Try.prog 17 #[.slice a0 l0 c0, .slice a1 l1 c1, .slice a2 l2 c2, .slice a len cap, .slice a' len' cap', .int .u64 st, .int .i64 by', .string s] w (SomeBool (WireBound l0 l1 l2 len len') w) := by
  have hl := Nat.le_trans h.le h.max
  have hl' := Nat.le_trans h'.le h'.max
  unfold maxLen at h0 h1 h2 hl hl'
  go_enter Try.func17, Try.ntmps17
  go_wp2_with fail
  iterate 7 (go_ret; exact ⟨_, rfl, rfl, by simp⟩)
  go_loopg [17, 18] len (fun gk z i wr => ∃ (k : Nat) (q : Int), k ≤ len ∧ Hid (gk = len - k) ∧ i = .int .i64 k ∧ z = .int .i64 q ∧ 0 ≤ q ∧ q ≤ 1048576 ∧ w = wr)
  case atStart => exact ⟨0, _, Nat.zero_le _, rfl, rfl, rfl, by omega, by omega, rfl⟩
  case round =>
    obtain ⟨k, q, hk, hg, rfl, rfl, q0, q1, rfl⟩ := hrel
    by_cases hlt : k < len
    · obtain ⟨b, off, rfl, hc⟩ := h.cells (by omega)
      have hck := hc k hlt
      have hm := h.maxL hlt
      go_wp2_with fail
      · go_ret; exact ⟨_, rfl, rfl, by simp⟩
      · go_ret; exact ⟨_, rfl, rfl, by simp⟩
      · go_roundg (len - (k + 1))
        case measure => have := hg.out; omega
        case rel => exact ⟨k + 1, _, by omega, rfl, by go_num, rfl, by omega, by omega, rfl⟩
    · clear hg
      go_wp2_with fail
      · go_ret; exact ⟨_, rfl, rfl, by simp⟩
      · go_ret; exact ⟨_, rfl, rfl, by simp⟩
      go_loopg [17, 19] len' (fun gk z i wr => ∃ (k : Nat) (q : Int), k ≤ len' ∧ Hid (gk = len' - k) ∧ i = .int .i64 k ∧ z = .int .i64 q ∧ 0 ≤ q ∧ q ≤ 1048576 ∧ w = wr)
      case atStart => exact ⟨0, _, Nat.zero_le _, rfl, rfl, rfl, by omega, by omega, rfl⟩
      case round =>
        obtain ⟨k2, q2, hk2, hg, rfl, rfl, q20, q21, rfl⟩ := hrel
        by_cases hlt2 : k2 < len'
        · obtain ⟨b, off, rfl, hc⟩ := h'.cells (by omega)
          have hck := hc k2 hlt2
          have hm := h'.maxL hlt2
          go_wp2_with fail
          · go_ret; exact ⟨_, rfl, rfl, by simp⟩
          · go_ret; exact ⟨_, rfl, rfl, by simp⟩
          · go_roundg (len' - (k2 + 1))
            case measure => have := hg.out; omega
            case rel => exact ⟨k2 + 1, _, by omega, rfl, by go_num, rfl, by omega, by omega, rfl⟩
        · clear hg
          go_wp2_with fail
          · go_ret; exact ⟨_, rfl, rfl, by simp⟩
          · go_ret; exact ⟨_, rfl, rfl, by simp⟩
          · go_ret
            exact ⟨_, rfl, rfl, fun _ => ⟨by omega, by omega, by omega, by omega, by omega⟩⟩

end Go.Proofs.Qxb6619324a.Base
