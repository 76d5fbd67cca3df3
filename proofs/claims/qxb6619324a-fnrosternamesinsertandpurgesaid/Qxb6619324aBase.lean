import Derived.Test.Qxb6619324aRows
import Derived.WalkKit
import Derived.ProofKit
import Derived.WalkSpells
import Derived.WalkLawsBesides
import Derived.Deep.QuietTactic
import Derived.BigQuiet
import Derived.Laws.CopyOwn
import Derived.Deep.DeepCutAuto
import Derived.Deep.CutBlock
import Derived.Deep.LoopGhost
namespace Go.Proofs.Qxb6619324a.Base
open Go.ChangeShapes Go.WideShapes Go.ChangeAt Go.RowKit
set_option linter.unusedVariables false

theorem ret_int {k : IntKind} {a b : Int} (h : a = b) : Ending.returned (.int k a) = .returned (.int k b) := by rw [h]
theorem ret_bool {a b : Bool} (h : a = b) : Ending.returned (.bool a) = .returned (.bool b) := by rw [h]
/-- A number comes back; the world is as it was. -/
def SomeInt (w : World) (e : Ending) (w' : World) : Prop := ∃ r, e = .returned (.int .i64 r) ∧ w = w'
/-- A Bool comes back; the world is as it was; where it is true, 'p' holds. -/
def SomeBool (p : Prop) (w : World) (e : Ending) (w' : World) : Prop := ∃ b, e = .returned (.bool b) ∧ w = w' ∧ (b = true → p)

set_option maxHeartbeats 400000 in
theorem roomBytes_any (a : Option Addr) (len cap : Nat) (room : Int) (w : World) (hl : len ≤ maxLen) :
    Calls Try.prog 10 #[.slice a len cap, .int .i64 room] w (SomeInt w) := by
  unfold maxLen at hl
  by_cases h1 : room < 0
  · go_enter Try.func10, Try.ntmps10
    go_wp2
    go_ret
    exact ⟨_, rfl, rfl⟩
  · by_cases h2 : (len : Int) > room
    · go_enter Try.func10, Try.ntmps10
      go_wp2
      go_ret
      exact ⟨_, rfl, rfl⟩
    · go_enter Try.func10, Try.ntmps10
      go_wp2
      go_ret
      exact ⟨_, rfl, rfl⟩

set_option maxHeartbeats 400000 in
theorem zzBytes1_any (a0 a1 : Option Addr) (l0 c0 l1 c1 : Nat) (w : World) (h0 : l0 ≤ maxLen) (h1 : l1 ≤ maxLen) :
    Calls Try.prog 9 #[.slice a0 l0 c0, .slice a1 l1 c1] w (SomeBool (l0 + l1 ≤ 1048576) w) := by
  unfold maxLen at h0 h1
  by_cases g0 : l0 > 1048576
  · go_enter Try.func9, Try.ntmps9
    go_wp2
    go_ret
    exact ⟨_, rfl, rfl, by simp⟩
  by_cases g1 : l1 > 1048576
  · go_enter Try.func9, Try.ntmps9
    go_wp2
    go_ret
    exact ⟨_, rfl, rfl, by simp⟩
  by_cases g2 : l0 + l1 > 1048576
  · go_enter Try.func9, Try.ntmps9
    go_wp2
    go_ret
    exact ⟨_, rfl, rfl, by simp⟩
  · go_enter Try.func9, Try.ntmps9
    go_wp2
    go_ret
    exact ⟨_, rfl, rfl, fun _ => by omega⟩

/-- What a slice of bytes holds: its elements 'xs', each a byte. -/
def Byt (w : World) (a : Option Addr) (len : Nat) (xs : List Int) : Prop :=
  xs.length = len ∧ (∀ x ∈ xs, 0 ≤ x ∧ x ≤ 255) ∧ (0 < len → ∃ b off, a = some ⟨b, off, none⟩ ∧ ∀ i, i < len → w.cell? ⟨b, off + i, none⟩ = some (.int .u8 (xs.getD i 0)))

/-- The world after some draws. -/
def Drawn (w w' : World) : Prop := ∃ n, w' = w.drewN n
theorem Drawn.refl (w : World) : Drawn w w := ⟨0, rfl⟩
theorem Drawn.drewN {w w' : World} (h : Drawn w w') (n : Nat) : Drawn w (w'.drewN n) := by
  obtain ⟨m, rfl⟩ := h
  exact ⟨m + n, by rw [World.drewN_drewN]⟩
theorem Drawn.trans {w w' w'' : World} (h : Drawn w w') (k : Drawn w' w'') : Drawn w w'' := by
  obtain ⟨n, rfl⟩ := k
  exact h.drewN n
theorem Drawn.cell {w w' : World} (h : Drawn w w') (a : Addr) : w'.cell? a = w.cell? a := by
  obtain ⟨m, rfl⟩ := h
  rfl
theorem Drawn.byt {w w' : World} (h : Drawn w w') {a : Option Addr} {len : Nat} {xs : List Int} (k : Byt w a len xs) : Byt w' a len xs := by
  obtain ⟨m, rfl⟩ := h
  exact k
theorem Drawn.below {w w' : World} (h : Drawn w w') (B : Nat) : Below B w w' := by
  obtain ⟨m, rfl⟩ := h
  exact below_drewN (Below.refl _ _) m

theorem Byt.drew {w : World} {a : Option Addr} {len : Nat} {xs : List Int} (h : Byt w a len xs) (n : Nat) : Byt (w.drewN n) a len xs := h

theorem run_convert_byt {w : World} {a : Option Addr} {len : Nat} {xs : List Int} (h : Byt w a len xs) (cap : Nat) :
    (convert 22 9 (.slice a len cap)).run Try.prog w = .ok (.string (strOfNums xs)) w := by
  obtain ⟨h1, h2, h3⟩ := h
  by_cases h0 : 0 < len
  · obtain ⟨b, off, rfl, hc⟩ := h3 h0
    exact run_convert_bytes_arg w 22 5 Try.underlying22 Try.underlying5 b off len cap xs h1 hc 9 Try.underlying9
  · obtain rfl : len = 0 := by omega
    obtain rfl : xs = [] := List.eq_nil_of_length_eq_zero h1
    cases a with
    | none => exact run_convert_bytes_nil w 22 5 Try.underlying22 Try.underlying5 0 cap 9 Try.underlying9
    | some a =>
      rw [run_convert_bytes_string w 22 9 5 _ 0 cap Try.underlying22 Try.underlying5 Try.underlying9]
      rw [run_bytesToString w a 0 cap [] (by simpa using run_loadCells_list (P := Try.prog) w a [] (by simp))]
      rfl

theorem equal_any {a1 a2 : Option Addr} {l1 l2 : Nat} {xs ys : List Int} {w : World} (h1 : Byt w a1 l1 xs) (h2 : Byt w a2 l2 ys) (c1 c2 : Nat) :
    Calls Try.prog 35 #[.slice a1 l1 c1, .slice a2 l2 c2] w fun e w' => e = .returned (.bool ((strOfNums xs).toList == (strOfNums ys).toList)) ∧ w' = w := by
  have k1 := run_convert_byt h1 c1
  have k2 := run_convert_byt h2 c2
  go_enter Try.func35, Try.ntmps35
  go_wp2
  go_ret
  exact ⟨rfl, rfl⟩

end Go.Proofs.Qxb6619324a.Base
