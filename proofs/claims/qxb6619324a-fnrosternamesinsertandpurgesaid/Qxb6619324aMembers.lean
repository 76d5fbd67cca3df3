import Derived.Test.Qxb6619324aMemZz
import Derived.Deep.Light
namespace Go.Proofs.Qxb6619324a.Base
open Go.ChangeShapes Go.WideShapes Go.ChangeAt Go.RowKit
set_option linter.unusedVariables false

theorem info59 : (Try.prog.info? 59).map (fun i => (i.zero, i.size, i.bytes)) = some (some (.agg #[.string ByteArray.empty, .string ByteArray.empty]), 2, 32) := by kernel_rfl
theorem info41 : (Try.prog.info? 41).map (fun i => (i.zero, i.size, i.bytes)) = some (some (.agg #[.string ByteArray.empty, .string ByteArray.empty]), 2, 32) := by kernel_rfl

theorem run_make_members (W : World) (n : Nat) (hn : n ≤ 2097152) :
    (Instr.makeSlice 43 (.int .i64 n) (.int .i64 n)).run Try.prog W = .ok (.slice (some ⟨W.heap.size, 0, none⟩) n n) (W.alloc (.cells (madeCells #[.string ByteArray.empty, .string ByteArray.empty] (n * 2)) 59)) := by
  obtain ⟨i, hi, hz0, hz1, hz2⟩ := info_parts info59
  have := run_make (P := Try.prog) W 43 59 i _ Try.underlying43 hi hz0 .i64 .i64 n n (by omega) (by omega) (by rw [hz2]; omega) (by omega)
  rw [this, hz1]
  simp [Value.cells]

/-- Cell i of block g, the block known whole. -/
theorem cell_of_heap {w : World} {g : Nat} {c : Array Value} {t : TypeId} (h : w.heap[g]? = some (.cells c t (0, 0))) (i : Nat) : w.cell? ⟨g, i, none⟩ = c[i]? := by
  simp [World.cell?, h]
theorem frozen_of_heap {w : World} {g : Nat} {c : Array Value} {t : TypeId} (h : w.heap[g]? = some (.cells c t (0, 0))) (i : Nat) : w.frozen? ⟨g, i, none⟩ = false := by
  simp [World.frozen?, h]
theorem heap_setCell_of {w : World} {g : Nat} {c : Array Value} {t : TypeId} (h : w.heap[g]? = some (.cells c t (0, 0))) (i : Nat) (v : Value) :
    (w.setCell ⟨g, i, none⟩ v).heap[g]? = some (.cells (c.setIfInBounds i v) t (0, 0)) := by
  rw [setCell_eq_setRow w g i c t (0, 0) v h]
  exact setRow_heap w g c _ t _ h

set_option maxRecDepth 100000 in
set_option maxHeartbeats 1000000 in
theorem members_any {a : Option Addr} {len cap : Nat} {ms : List (ByteArray × ByteArray)} {w : World} (h : Mems w a len ms) (hn : len ≤ 2097152) (hnil : a = none → len = 0) :
    Calls Try.prog 23 #[.slice a len cap] w fun e w' => ∃ ao, e = .returned (.slice ao len len) ∧ Mems w' ao len ms ∧ Below w.heap.size w w' := by
  have heq := fun (w : World) (a : Option Addr) (n c : Nat) => Lib.run_eql_slice_nil (P := Try.prog) w 37 41 a n c 0 0 Try.underlying37
  cases a with
  | none =>
    obtain rfl := hnil rfl
    go_enter Try.func23, Try.ntmps23
    go_wp2_with fail
    go_ret
    exact ⟨none, rfl, h, Below.refl _ _⟩
  | some x =>
    have hmk := run_make_members w len hn
    go_enter Try.func23, Try.ntmps23
    go_wp2_with fail
    clear hmk heq
    go_loopg [4] len (fun gk i wr => ∃ (k : Nat) (c : Array Value), k ≤ len ∧ Hid (gk = len - k) ∧ i = .int .i64 k ∧ Hid (c.size = len * 2) ∧ Hid (∀ i, i < k → c[i * 2]? = some (.string (gI ms i)) ∧ c[i * 2 + 1]? = some (.string (gJ ms i))) ∧ Hid (wr.heap[w.heap.size]? = some (.cells c 59 (0, 0))) ∧ Below w.heap.size w wr)
    case atStart => exact ⟨0, _, Nat.zero_le _, rfl, rfl, size_madeCells _ _, fun i hi => absurd hi (by omega), heap_alloc_new w _, (Below.refl _ _).alloc (Nat.le_refl _) _⟩
    case round =>
      obtain ⟨k, c, hk, hgk, rfl, hsz, hE, hH, hB⟩ := hrel
      by_cases hlt : k < len
      · obtain ⟨b, off, hx, hc⟩ := h.cells (by omega)
        obtain rfl : x = ⟨b, off, none⟩ := by simpa using hx
        clear hx
        obtain ⟨hc1, hc2⟩ := hc k hlt
        have hbg : b < w.heap.size := World.block_lt_of_cell? w _ hc1
        have hr1 : wr.cell? ⟨b, off + k * 2, none⟩ = some (.string (gI ms k)) := by rw [hB.cell (by exact hbg), hc1]
        have hr2 : wr.cell? ⟨b, off + k * 2 + 1, none⟩ = some (.string (gJ ms k)) := by rw [hB.cell (by exact hbg), hc2]
        have s1 : k * 2 < c.size := by rw [hsz.out]; omega
        have s2 : k * 2 + 1 < c.size := by rw [hsz.out]; omega
        obtain ⟨v1, hv1⟩ : ∃ v, wr.cell? ⟨w.heap.size, k * 2, none⟩ = some v := ⟨_, by rw [cell_of_heap hH.out]; exact Array.getElem?_eq_getElem s1⟩
        obtain ⟨v2, hv2⟩ : ∃ v, wr.cell? ⟨w.heap.size, k * 2 + 1, none⟩ = some v := ⟨_, by rw [cell_of_heap hH.out]; exact Array.getElem?_eq_getElem s2⟩
        have f1 : wr.frozen? ⟨w.heap.size, k * 2, none⟩ = false := frozen_of_heap hH.out _
        have f2 : wr.frozen? ⟨w.heap.size, k * 2 + 1, none⟩ = false := frozen_of_heap hH.out _
        have i1 : (k : Int) < len := by omega
        have i2 : (0 : Int) ≤ k := by omega
        clear hc hc1 hc2
        go_wp2_with fail
        go_region
        go_wp2_with fail
        go_roundg (len - (k + 1))
        case measure => have := hgk.out; omega
        case rel =>
          go_light
          refine ⟨k + 1, (c.setIfInBounds (k * 2) (.string (gI ms k))).setIfInBounds (k * 2 + 1) (.string (gJ ms k)), by omega, rfl, by go_num, by simpa [Hid] using hsz.out, fun i hi => ?_, ?_, ?_⟩
          · by_cases e : i = k
            · subst e
              rw [Array.getElem?_setIfInBounds_ne (by omega), Array.getElem?_setIfInBounds_self_of_lt s1, Array.getElem?_setIfInBounds_self_of_lt (by simpa using s2)]
              exact ⟨rfl, rfl⟩
            · rw [Array.getElem?_setIfInBounds_ne (by omega), Array.getElem?_setIfInBounds_ne (by omega), Array.getElem?_setIfInBounds_ne (by omega), Array.getElem?_setIfInBounds_ne (by omega)]
              exact hE.out i (by omega)
          · exact heap_setCell_of (heap_setCell_of hH.out _ _) _ _
          · exact ((hB.setCell (p := ⟨w.heap.size, k * 2, none⟩) (Nat.le_refl _) _).setCell (p := ⟨w.heap.size, k * 2 + 1, none⟩) (Nat.le_refl _) _).drew
      · obtain rfl : k = len := by omega
        clear hgk
        go_wp2_with fail
        go_ret
        refine ⟨_, rfl, ⟨h.hlen, h.size, fun h0 => ⟨w.heap.size, 0, rfl, fun i hi => ?_⟩⟩, hB⟩
        rw [cell_of_heap hH.out, cell_of_heap hH.out]
        simpa using hE.out i hi

end Go.Proofs.Qxb6619324a.Base
