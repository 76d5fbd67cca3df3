import Derived.Test.Qxb6619324aMems
namespace Go.Proofs.Qxb6619324a.Base
open Go.ChangeShapes Go.WideShapes Go.ChangeAt Go.RowKit
set_option linter.unusedVariables false

set_option maxRecDepth 100000 in
set_option maxHeartbeats 2000000 in
theorem zzBytes5_any {a0 : Option Addr} {l0 c0 : Nat} {ms0 : List (ByteArray × ByteArray)} {a1 : Option Addr} {l1 c1 : Nat} {ms1 : List (ByteArray × ByteArray)} {a2 : Option Addr} {l2 c2 : Nat} {S2 : Nat → ByteArray} {a3 : Option Addr} {l3 c3 : Nat} {S3 : Nat → ByteArray} {a4 : Option Addr} {l4 c4 : Nat} {w : World}
    (h0 : MemsIn w a0 l0 c0 ms0) (h1 : MemsIn w a1 l1 c1 ms1) (h2 : StrsIn w a2 l2 c2 S2) (h3 : StrsIn w a3 l3 c3 S3) (h4 : l4 ≤ maxLen) :
    Calls Try.prog 20 #[.slice a0 l0 c0, .slice a1 l1 c1, .slice a2 l2 c2, .slice a3 l3 c3, .slice a4 l4 c4] w (SomeBool (l0 ≤ 1048576 ∧ l1 ≤ 1048576 ∧ l4 ≤ 1048576) w) := by
  have n0 := Nat.le_trans h0.le h0.max
  have n1 := Nat.le_trans h1.le h1.max
  have n2 := Nat.le_trans h2.le h2.max
  have n3 := Nat.le_trans h3.le h3.max
  unfold maxLen at n0 n1 n2 n3 h4
  go_enter Try.func20, Try.ntmps20
  go_wp2_with fail
  · go_ret; exact ⟨_, rfl, rfl, by simp⟩
  go_loopg [11, 12] l0 (fun gk z i wr => ∃ (k : Nat) (q : Int), k ≤ l0 ∧ Hid (gk = l0 - k) ∧ i = .int .i64 k ∧ z = .int .i64 q ∧ 0 ≤ q ∧ q ≤ 1048576 ∧ w = wr)
  case atStart => exact ⟨0, _, Nat.zero_le _, rfl, rfl, rfl, by omega, by omega, rfl⟩
  case round =>
  obtain ⟨k0, q0, hk0, hg, rfl, rfl, q00, q01, rfl⟩ := hrel
  by_cases hlt : k0 < l0
  · obtain ⟨b, off, rfl, hc⟩ := h0.mems.cells (by omega)
    obtain ⟨hck, hck2⟩ := hc k0 hlt
    have hm1 := gI_size h0.mems hlt
    have hm2 := gJ_size h0.mems hlt
    go_wp2_with fail
    · go_ret; exact ⟨_, rfl, rfl, by simp⟩
    · go_ret; exact ⟨_, rfl, rfl, by simp⟩
    · go_ret; exact ⟨_, rfl, rfl, by simp⟩
    · go_ret; exact ⟨_, rfl, rfl, by simp⟩
    · go_roundg (l0 - (k0 + 1))
      case measure => have := hg.out; omega
      case rel => exact ⟨k0 + 1, _, by omega, rfl, by go_num, rfl, by omega, by omega, rfl⟩
  clear hg
  go_wp2_with fail
  · go_ret; exact ⟨_, rfl, rfl, by simp⟩
  · go_ret; exact ⟨_, rfl, rfl, by simp⟩
  go_loopg [11, 13] l1 (fun gk z i wr => ∃ (k : Nat) (q : Int), k ≤ l1 ∧ Hid (gk = l1 - k) ∧ i = .int .i64 k ∧ z = .int .i64 q ∧ 0 ≤ q ∧ q ≤ 1048576 ∧ w = wr)
  case atStart => exact ⟨0, _, Nat.zero_le _, rfl, rfl, rfl, by omega, by omega, rfl⟩
  case round =>
  obtain ⟨k1, q1, hk1, hg, rfl, rfl, q10, q11, rfl⟩ := hrel
  by_cases hlt : k1 < l1
  · obtain ⟨b, off, rfl, hc⟩ := h1.mems.cells (by omega)
    obtain ⟨hck, hck2⟩ := hc k1 hlt
    have hm1 := gI_size h1.mems hlt
    have hm2 := gJ_size h1.mems hlt
    go_wp2_with fail
    · go_ret; exact ⟨_, rfl, rfl, by simp⟩
    · go_ret; exact ⟨_, rfl, rfl, by simp⟩
    · go_ret; exact ⟨_, rfl, rfl, by simp⟩
    · go_ret; exact ⟨_, rfl, rfl, by simp⟩
    · go_roundg (l1 - (k1 + 1))
      case measure => have := hg.out; omega
      case rel => exact ⟨k1 + 1, _, by omega, rfl, by go_num, rfl, by omega, by omega, rfl⟩
  clear hg
  go_wp2_with fail
  · go_ret; exact ⟨_, rfl, rfl, by simp⟩
  · go_ret; exact ⟨_, rfl, rfl, by simp⟩
  go_loopg [11, 14] l2 (fun gk z i wr => ∃ (k : Nat) (q : Int), k ≤ l2 ∧ Hid (gk = l2 - k) ∧ i = .int .i64 k ∧ z = .int .i64 q ∧ 0 ≤ q ∧ q ≤ 1048576 ∧ w = wr)
  case atStart => exact ⟨0, _, Nat.zero_le _, rfl, rfl, rfl, by omega, by omega, rfl⟩
  case round =>
  obtain ⟨k2, q2, hk2, hg, rfl, rfl, q20, q21, rfl⟩ := hrel
  by_cases hlt : k2 < l2
  · obtain ⟨b, off, rfl, hc⟩ := h2.cells (by omega)
    have hck := hc k2 hlt
    have hm1 := h2.size k2 hlt
    go_wp2_with fail
    · go_ret; exact ⟨_, rfl, rfl, by simp⟩
    · go_ret; exact ⟨_, rfl, rfl, by simp⟩
    · go_roundg (l2 - (k2 + 1))
      case measure => have := hg.out; omega
      case rel => exact ⟨k2 + 1, _, by omega, rfl, by go_num, rfl, by omega, by omega, rfl⟩
  clear hg
  go_wp2_with fail
  · go_ret; exact ⟨_, rfl, rfl, by simp⟩
  · go_ret; exact ⟨_, rfl, rfl, by simp⟩
  go_loopg [11, 15] l3 (fun gk z i wr => ∃ (k : Nat) (q : Int), k ≤ l3 ∧ Hid (gk = l3 - k) ∧ i = .int .i64 k ∧ z = .int .i64 q ∧ 0 ≤ q ∧ q ≤ 1048576 ∧ w = wr)
  case atStart => exact ⟨0, _, Nat.zero_le _, rfl, rfl, rfl, by omega, by omega, rfl⟩
  case round =>
  obtain ⟨k3, q3, hk3, hg, rfl, rfl, q30, q31, rfl⟩ := hrel
  by_cases hlt : k3 < l3
  · obtain ⟨b, off, rfl, hc⟩ := h3.cells (by omega)
    have hck := hc k3 hlt
    have hm1 := h3.size k3 hlt
    go_wp2_with fail
    · go_ret; exact ⟨_, rfl, rfl, by simp⟩
    · go_ret; exact ⟨_, rfl, rfl, by simp⟩
    · go_roundg (l3 - (k3 + 1))
      case measure => have := hg.out; omega
      case rel => exact ⟨k3 + 1, _, by omega, rfl, by go_num, rfl, by omega, by omega, rfl⟩
  clear hg
  go_wp2_with fail
  · go_ret; exact ⟨_, rfl, rfl, by simp⟩
  · go_ret; exact ⟨_, rfl, rfl, by simp⟩
  · go_ret; exact ⟨_, rfl, rfl, fun _ => ⟨by omega, by omega, by omega⟩⟩

set_option maxRecDepth 100000 in
set_option maxHeartbeats 2000000 in
theorem zzBytes6_any {a0 : Option Addr} {l0 c0 : Nat} {ms0 : List (ByteArray × ByteArray)} {a1 : Option Addr} {l1 c1 : Nat} {ms1 : List (ByteArray × ByteArray)} {a2 : Option Addr} {l2 c2 : Nat} {S2 : Nat → ByteArray} {a3 : Option Addr} {l3 c3 : Nat} {S3 : Nat → ByteArray} {a4 : Option Addr} {l4 c4 : Nat} {w : World}
    (h0 : MemsIn w a0 l0 c0 ms0) (h1 : MemsIn w a1 l1 c1 ms1) (h2 : StrsIn w a2 l2 c2 S2) (h3 : StrsIn w a3 l3 c3 S3) (h4 : l4 ≤ maxLen) (s : ByteArray) (hs : s.size ≤ 9223372036854775807) (kk : Int) (bb : Bool) :
    Calls Try.prog 25 #[.slice a0 l0 c0, .slice a1 l1 c1, .slice a2 l2 c2, .slice a3 l3 c3, .slice a4 l4 c4, .string s, .int .i64 kk, .bool bb] w (SomeBool (l0 ≤ 1048576 ∧ l1 ≤ 1048576 ∧ l4 ≤ 1048576) w) := by
  have n0 := Nat.le_trans h0.le h0.max
  have n1 := Nat.le_trans h1.le h1.max
  have n2 := Nat.le_trans h2.le h2.max
  have n3 := Nat.le_trans h3.le h3.max
  unfold maxLen at n0 n1 n2 n3 h4
  go_enter Try.func25, Try.ntmps25
  go_wp2_with fail
  · go_ret; exact ⟨_, rfl, rfl, by simp⟩
  go_loopg [17, 18] l0 (fun gk z i wr => ∃ (k : Nat) (q : Int), k ≤ l0 ∧ Hid (gk = l0 - k) ∧ i = .int .i64 k ∧ z = .int .i64 q ∧ 0 ≤ q ∧ q ≤ 1048576 ∧ w = wr)
  case atStart => exact ⟨0, _, Nat.zero_le _, rfl, rfl, rfl, by omega, by omega, rfl⟩
  case round =>
  obtain ⟨k0, q0, hk0, hg, rfl, rfl, q00, q01, rfl⟩ := hrel
  by_cases hlt : k0 < l0
  · obtain ⟨b, off, rfl, hc⟩ := h0.mems.cells (by omega)
    obtain ⟨hck, hck2⟩ := hc k0 hlt
    have hm1 := gI_size h0.mems hlt
    have hm2 := gJ_size h0.mems hlt
    go_wp2_with fail
    · go_ret; exact ⟨_, rfl, rfl, by simp⟩
    · go_ret; exact ⟨_, rfl, rfl, by simp⟩
    · go_ret; exact ⟨_, rfl, rfl, by simp⟩
    · go_ret; exact ⟨_, rfl, rfl, by simp⟩
    · go_roundg (l0 - (k0 + 1))
      case measure => have := hg.out; omega
      case rel => exact ⟨k0 + 1, _, by omega, rfl, by go_num, rfl, by omega, by omega, rfl⟩
  clear hg
  go_wp2_with fail
  · go_ret; exact ⟨_, rfl, rfl, by simp⟩
  · go_ret; exact ⟨_, rfl, rfl, by simp⟩
  go_loopg [17, 19] l1 (fun gk z i wr => ∃ (k : Nat) (q : Int), k ≤ l1 ∧ Hid (gk = l1 - k) ∧ i = .int .i64 k ∧ z = .int .i64 q ∧ 0 ≤ q ∧ q ≤ 1048576 ∧ w = wr)
  case atStart => exact ⟨0, _, Nat.zero_le _, rfl, rfl, rfl, by omega, by omega, rfl⟩
  case round =>
  obtain ⟨k1, q1, hk1, hg, rfl, rfl, q10, q11, rfl⟩ := hrel
  by_cases hlt : k1 < l1
  · obtain ⟨b, off, rfl, hc⟩ := h1.mems.cells (by omega)
    obtain ⟨hck, hck2⟩ := hc k1 hlt
    have hm1 := gI_size h1.mems hlt
    have hm2 := gJ_size h1.mems hlt
    go_wp2_with fail
    · go_ret; exact ⟨_, rfl, rfl, by simp⟩
    · go_ret; exact ⟨_, rfl, rfl, by simp⟩
    · go_ret; exact ⟨_, rfl, rfl, by simp⟩
    · go_ret; exact ⟨_, rfl, rfl, by simp⟩
    · go_roundg (l1 - (k1 + 1))
      case measure => have := hg.out; omega
      case rel => exact ⟨k1 + 1, _, by omega, rfl, by go_num, rfl, by omega, by omega, rfl⟩
  clear hg
  go_wp2_with fail
  · go_ret; exact ⟨_, rfl, rfl, by simp⟩
  · go_ret; exact ⟨_, rfl, rfl, by simp⟩
  go_loopg [17, 20] l2 (fun gk z i wr => ∃ (k : Nat) (q : Int), k ≤ l2 ∧ Hid (gk = l2 - k) ∧ i = .int .i64 k ∧ z = .int .i64 q ∧ 0 ≤ q ∧ q ≤ 1048576 ∧ w = wr)
  case atStart => exact ⟨0, _, Nat.zero_le _, rfl, rfl, rfl, by omega, by omega, rfl⟩
  case round =>
  obtain ⟨k2, q2, hk2, hg, rfl, rfl, q20, q21, rfl⟩ := hrel
  by_cases hlt : k2 < l2
  · obtain ⟨b, off, rfl, hc⟩ := h2.cells (by omega)
    have hck := hc k2 hlt
    have hm1 := h2.size k2 hlt
    go_wp2_with fail
    · go_ret; exact ⟨_, rfl, rfl, by simp⟩
    · go_ret; exact ⟨_, rfl, rfl, by simp⟩
    · go_roundg (l2 - (k2 + 1))
      case measure => have := hg.out; omega
      case rel => exact ⟨k2 + 1, _, by omega, rfl, by go_num, rfl, by omega, by omega, rfl⟩
  clear hg
  go_wp2_with fail
  · go_ret; exact ⟨_, rfl, rfl, by simp⟩
  · go_ret; exact ⟨_, rfl, rfl, by simp⟩
  go_loopg [17, 21] l3 (fun gk z i wr => ∃ (k : Nat) (q : Int), k ≤ l3 ∧ Hid (gk = l3 - k) ∧ i = .int .i64 k ∧ z = .int .i64 q ∧ 0 ≤ q ∧ q ≤ 1048576 ∧ w = wr)
  case atStart => exact ⟨0, _, Nat.zero_le _, rfl, rfl, rfl, by omega, by omega, rfl⟩
  case round =>
  obtain ⟨k3, q3, hk3, hg, rfl, rfl, q30, q31, rfl⟩ := hrel
  by_cases hlt : k3 < l3
  · obtain ⟨b, off, rfl, hc⟩ := h3.cells (by omega)
    have hck := hc k3 hlt
    have hm1 := h3.size k3 hlt
    go_wp2_with fail
    · go_ret; exact ⟨_, rfl, rfl, by simp⟩
    · go_ret; exact ⟨_, rfl, rfl, by simp⟩
    · go_roundg (l3 - (k3 + 1))
      case measure => have := hg.out; omega
      case rel => exact ⟨k3 + 1, _, by omega, rfl, by go_num, rfl, by omega, by omega, rfl⟩
  clear hg
  go_wp2_with fail
  · go_ret; exact ⟨_, rfl, rfl, by simp⟩
  · go_ret; exact ⟨_, rfl, rfl, by simp⟩
  · go_ret; exact ⟨_, rfl, rfl, by simp⟩
  · go_ret; exact ⟨_, rfl, rfl, by simp⟩
  · go_ret; exact ⟨_, rfl, rfl, fun _ => ⟨by omega, by omega, by omega⟩⟩

end Go.Proofs.Qxb6619324a.Base
