import Derived.Test.Qxb6619324aIds
namespace Go.Proofs.Qxb6619324a.Base
open Go.ChangeShapes Go.WideShapes Go.ChangeAt Go.RowKit
set_option linter.unusedVariables false

theorem info9 : (Try.prog.info? 9).map (fun i => (i.zero, i.size, i.bytes)) = some (some (.string ByteArray.empty), 1, 16) := by kernel_rfl

/-- A slice of strings 'S i' in memory. -/
def Str (w : World) (a : Option Addr) (len : Nat) (S : Nat → ByteArray) : Prop :=
  (a = none ↔ len = 0) ∧ (0 < len → ∃ g, a = some ⟨g, 0, none⟩ ∧ ∀ i, i < len → w.cell? ⟨g, i, none⟩ = some (.string (S i)))

theorem run_make_strs (W : World) (n : Nat) (hn : n ≤ 1048576) :
    (Instr.makeSlice 31 (.int .i64 n) (.int .i64 n)).run Try.prog W = .ok (.slice (some ⟨W.heap.size, 0, none⟩) n n) (W.alloc (.cells (madeCells #[.string ByteArray.empty] n) 9)) := by
  obtain ⟨i, hi, hz0, hz1, hz2⟩ := info_parts info9
  have := run_make (P := Try.prog) W 31 9 i (.string ByteArray.empty) Try.underlying31 hi hz0 .i64 .i64 n n (by omega) (by omega) (by rw [hz2]; omega) (by omega)
  rw [this, hz1]
  simp [Value.cells]

theorem Sls.lt {w : World} {b off len cap : Nat} {A : Nat → Option Addr} {L C : Nat → Nat} {X : Nat → List Int} (h : Sls w (some ⟨b, off, none⟩) len cap A L C X) (h0 : 0 < len) : b < w.heap.size := by
  obtain ⟨b', off', he, hc⟩ := h.cells h0
  simp only [Option.some.injEq, Addr.mk.injEq] at he
  obtain ⟨rfl, rfl, _⟩ := he
  exact World.block_lt_of_cell? w _ (hc 0 h0)

set_option maxRecDepth 100000 in
set_option maxHeartbeats 400000 in
theorem prevIDs_any {v0 v1 v2 v4 : Value} {st bb : Int} {a : Option Addr} {len cap : Nat} {A : Nat → Option Addr} {L C : Nat → Nat} {X : Nat → List Int} {w : World} (h : Sls w a len cap A L C X) (hn : len ≤ 1048576) :
    Calls Try.prog 30 #[.agg #[v0, v1, v2, .slice a len cap, v4, .int .u64 st, .int .i64 bb]] w
      fun e w' => ∃ ao, e = .returned (.slice ao len len) ∧ Str w' ao len (fun i => strOfNums (X i)) ∧ Below w.heap.size w w' := by
  by_cases h0 : len = 0
  · subst h0
    go_enter Try.func30, Try.ntmps30
    go_wp2_with fail
    go_ret
    exact ⟨none, rfl, ⟨by simp, fun h => absurd h (by omega)⟩, (Below.refl _ _).alloc (Nat.le_refl _) _⟩
  · have hz : ((len : Int) == 0) = false := by rw [beq_eq_false_iff_ne]; omega
    obtain ⟨b, off, rfl, hc⟩ := h.cells (by omega)
    have hb := h.lt (by omega)
    have hmk := run_make_strs (w.alloc (.cells #[v0, v1, v2, .slice (some ⟨b, off, none⟩) len cap, v4, .int .u64 st, .int .i64 bb] 53)) len hn
    rw [World.size_alloc] at hmk
    go_enter Try.func30, Try.ntmps30
    go_wp2_with fail
    clear hmk
    go_loopg [17] len (fun gk i wr => ∃ (k : Nat) (c : Array Value), k ≤ len ∧ Hid (gk = len - k) ∧ i = .int .i64 k ∧ Hid (c.size = len) ∧ Hid (∀ i, i < k → c[i]? = some (.string (strOfNums (X i)))) ∧ wr = (w.alloc (.cells #[v0, v1, v2, .slice (some ⟨b, off, none⟩) len cap, v4, .int .u64 st, .int .i64 bb] 53)).alloc (.cells c 9))
    case atStart => exact ⟨0, _, Nat.zero_le _, rfl, rfl, size_madeCells _ _, fun i hi => absurd hi (by omega), rfl⟩
    case round =>
      obtain ⟨k, c, hk, hg, rfl, hsz, hE, rfl⟩ := hrel
      by_cases hlt : k < len
      · have hck := hc k hlt
        have hcv := run_convert_byt (((h.inner k hlt).byt.alloc (.cells #[v0, v1, v2, .slice (some ⟨b, off, none⟩) len cap, v4, .int .u64 st, .int .i64 bb] 53)).alloc (.cells c 9)) (C k)
        have hb1 : b < w.heap.size + 1 := by omega
        have hkc : k < c.size := by rw [hsz.out]; exact hlt
        obtain ⟨v, hv⟩ : ∃ v, c[k]? = some v := ⟨_, Array.getElem?_eq_getElem hkc⟩
        go_wp2_with fail
        go_roundg (len - (k + 1))
        case measure => have := hg.out; omega
        case rel =>
          refine ⟨k + 1, c.setIfInBounds k (.string (strOfNums (X k))), by omega, rfl, by go_num, by simpa [Hid] using hsz.out, fun i hi => ?_, rfl⟩
          by_cases e : i = k
          · subst e; simp [hkc]
          · rw [Array.getElem?_setIfInBounds_ne (by omega)]; exact hE.out i (by omega)
      · obtain rfl : k = len := by omega
        clear hg
        go_wp2_with fail
        go_ret
        refine ⟨some ⟨w.heap.size + 1, 0, none⟩, rfl, ⟨by simp; omega, fun _ => ⟨w.heap.size + 1, rfl, fun i hi => ?_⟩⟩, ((Below.refl _ _).alloc (Nat.le_refl _) _).alloc (by simp) _⟩
        rw [World.cell?_alloc_at (hn := by simp)]
        exact hE.out i hi

set_option maxHeartbeats 400000 in
theorem zzPrevIDs_any {a0 a1 a2 a4 : Option Addr} {l0 c0 l1 c1 l2 c2 l4 c4 : Nat} {st bb : Int} {a : Option Addr} {len cap : Nat} {A : Nat → Option Addr} {L C : Nat → Nat} {X : Nat → List Int} {w : World} (h : Sls w a len cap A L C X) (hn : len ≤ 1048576) :
    Calls Try.prog 15 #[.slice a0 l0 c0, .slice a1 l1 c1, .slice a2 l2 c2, .slice a len cap, .slice a4 l4 c4, .int .u64 st, .int .i64 bb] w
      fun e w' => ∃ ao, e = .returned (.slice ao len len) ∧ Str w' ao len (fun i => strOfNums (X i)) ∧ Below w.heap.size w w' := by
  go_enter Try.func15, Try.ntmps15
  go_wp2_with fail
  refine (prevIDs_any h hn).mono ?_
  rintro e w' ⟨ao, rfl, hS, hB⟩
  go_wp2_with fail
  go_ret
  exact ⟨ao, rfl, hS, hB⟩

end Go.Proofs.Qxb6619324a.Base
