import Derived.Test.Qxb6619324aRoster
namespace Go.Proofs.Qxb6619324a.Base
open Go.ChangeShapes Go.WideShapes Go.ChangeAt Go.RowKit
set_option linter.unusedVariables false

/-- The members' cells, two each. -/
def memCells : List (ByteArray × ByteArray) → List Value
  | [] => []
  | m :: ms => .string m.1 :: .string m.2 :: memCells ms

theorem length_memCells : ∀ ms, (memCells ms).length = ms.length * 2
  | [] => rfl
  | m :: ms => by simp [memCells, length_memCells ms]; omega

theorem memCells_append : ∀ (ms ns : List (ByteArray × ByteArray)), memCells (ms ++ ns) = memCells ms ++ memCells ns
  | [], ns => rfl
  | m :: ms, ns => by simp [memCells, memCells_append ms ns]

theorem memCells_one : ∀ (ms : List (ByteArray × ByteArray)), ∀ v ∈ memCells ms, v.oneCell' = true
  | [], v, h => by simp [memCells] at h
  | m :: ms, v, h => by
    simp only [memCells, List.mem_cons] at h
    rcases h with rfl | rfl | h
    · rfl
    · rfl
    · exact memCells_one ms v h

theorem memCells_at : ∀ (ms : List (ByteArray × ByteArray)) (i : Nat), i < ms.length → (memCells ms)[i * 2]? = some (.string (gI ms i)) ∧ (memCells ms)[i * 2 + 1]? = some (.string (gJ ms i))
  | [], i, h => by simp at h
  | m :: ms, 0, h => by simp [memCells, gI, gJ]
  | m :: ms, i + 1, h => by
    have := memCells_at ms i (by simpa using h)
    rw [show (i + 1) * 2 = i * 2 + 1 + 1 by omega]
    simpa [memCells, gI, gJ] using this

/-- Cell j of the members in memory. -/
theorem Mems.cellAt {w : World} {b off : Nat} {len : Nat} {ms : List (ByteArray × ByteArray)} (h : Mems w (some ⟨b, off, none⟩) len ms) (j : Nat) (v : Value) (hj : (memCells ms)[j]? = some v) : w.cell? ⟨b, off + j, none⟩ = some v := by
  have hl : j < ms.length * 2 := by
    rw [← length_memCells]
    exact (List.getElem?_eq_some_iff.1 hj).1
  obtain ⟨b', off', he, hc⟩ := h.cells (by have := h.hlen; omega)
  simp only [Option.some.injEq, Addr.mk.injEq] at he
  obtain ⟨rfl, rfl, _⟩ := he
  have hi : j / 2 < ms.length := by omega
  have hm := memCells_at ms (j / 2) hi
  have hcc := hc (j / 2) (by rw [← h.hlen]; exact hi)
  rcases (show j = j / 2 * 2 ∨ j = j / 2 * 2 + 1 by omega) with e | e
  · rw [← e] at hm hcc
    rw [hcc.1, ← hj, hm.1]
  · rw [← e, hj] at hm
    rw [hm.2, ← hcc.2, Nat.add_assoc, ← e]

theorem mems_of_cells {w : World} {g : Nat} {ms : List (ByteArray × ByteArray)} {n : Nat} (hn : ms.length = n) (hs : ∀ m ∈ ms, m.1.size ≤ 9223372036854775807 ∧ m.2.size ≤ 9223372036854775807)
    (h : ∀ j, j < n * 2 → w.cell? ⟨g, j, none⟩ = (memCells ms)[j]?) : Mems w (some ⟨g, 0, none⟩) n ms := by
  refine ⟨hn, hs, fun h0 => ⟨g, 0, rfl, fun i hi => ?_⟩⟩
  have := memCells_at ms i (by omega)
  rw [Nat.zero_add, h _ (by omega), h _ (by omega)]
  exact this

theorem mems_new (w : World) (ms : List (ByteArray × ByteArray)) (n : Nat) (t : TypeId) (hn : ms.length = n) (hs : ∀ m ∈ ms, m.1.size ≤ 9223372036854775807 ∧ m.2.size ≤ 9223372036854775807) : Mems (w.alloc (.cells (memCells ms).toArray t)) (some ⟨w.heap.size, 0, none⟩) n ms :=
  mems_of_cells hn hs fun j hj => by rw [World.cell?_alloc_at (hn := rfl)]; simp

theorem run_make_mems (W : World) (n : Nat) (l : Nat) (hl : l ≤ n) (hn : n ≤ 4194304) :
    (Instr.makeSlice 37 (.int .i64 l) (.int .i64 n)).run Try.prog W = .ok (.slice (some ⟨W.heap.size, 0, none⟩) l n) (W.alloc (.cells (madeCells #[.string ByteArray.empty, .string ByteArray.empty] (n * 2)) 41)) := by
  obtain ⟨i, hi, hz0, hz1, hz2⟩ := info_parts info41
  have := run_make (P := Try.prog) W 37 41 i _ Try.underlying37 hi hz0 .i64 .i64 l n (by omega) (by omega) (by rw [hz2]; omega) (by omega)
  rw [this, hz1]
  simp [Value.cells]

theorem size41 : ∃ i, Try.prog.info? 41 = some i ∧ i.size = 2 := by
  obtain ⟨i, hi, _, hz1, _⟩ := info_parts info41
  exact ⟨i, hi, hz1⟩

/-- copy of nothing. -/
theorem run_copy_zero (W : World) (dp sp : Option Addr) (dLen dCap sLen sCap : Nat) (h : Nat.min sLen dLen = 0) (ty : TypeId) :
    (Builtin.copy_ #[37, 37] ty #[.slice dp dLen dCap, .slice sp sLen sCap]).run Try.prog W = .ok (goInt 0) W := by
  obtain ⟨i, hi, hz⟩ := size41
  have hl : ∀ (x : Addr), (loadCells x 0).run Try.prog W = .ok #[] W := fun x => by simpa using run_loadCells_list (P := Try.prog) W x [] (by simp)
  cases dp <;> cases sp <;> simp [Builtin.copy_, run_underlying Try.underlying37, Builtin.lenOf, Builtin.firstCells, sizeOf, typeInfo, hi, h, storeCells, hl]

/-- copy of n members onto a row of the call's own, from cell 'off' on. -/
theorem run_copy_mems (W : World) (cur : List Value) (off n : Nat) (dp : Option Addr) (dLen dCap : Nat) (a : Option Addr) (c : Nat) (ms : List (ByteArray × ByteArray)) (h : Mems W a n ms) (hfit : off + n * 2 ≤ cur.length)
    (hd : 0 < n → dp = some ⟨W.heap.size, off, none⟩) (hlen : n ≤ dLen) (ty : TypeId) :
    (Builtin.copy_ #[37, 37] ty #[.slice dp dLen dCap, .slice a n c]).run Try.prog (W.alloc (.cells cur.toArray 41)) = .ok (goInt n) (W.alloc (.cells (splice cur off (memCells ms)).toArray 41)) := by
  by_cases h0 : 0 < n
  · obtain rfl := hd h0
    obtain ⟨b, o, rfl, _⟩ := h.cells h0
    have hg : (W.alloc (.cells cur.toArray 41)).heap[W.heap.size]? = some (.cells cur.toArray 41 (0, 0)) := heap_alloc_new W _
    have hlm : (memCells ms).length = n * 2 := by rw [length_memCells, h.hlen]
    have hl := run_loadCells_list (P := Try.prog) (W.alloc (.cells cur.toArray 41)) ⟨b, o, none⟩ (memCells ms) (by
      intro j v hj
      have hcj := h.cellAt j v hj
      have hlt := World.block_lt_of_cell? W _ hcj
      rw [Addr.add_lit, World.cell?_alloc_past (hn := hlt), hcj])
    have hst := run_storeCells_at Try.prog W.heap.size off 41 (memCells ms) 0 cur.toArray (W.alloc (.cells cur.toArray 41)) hg (by simpa [hlm] using hfit) (memCells_one ms)
    obtain ⟨i, hi, hz⟩ := size41
    rw [hlm] at hl
    have hmin : Nat.min n dLen = n := Nat.min_eq_left hlen
    simp only [Nat.add_zero, hlm] at hst
    simp [Builtin.copy_, run_underlying Try.underlying37, Builtin.lenOf, Builtin.firstCells, sizeOf, typeInfo, hi, hz, hmin, hl, hst, setRow_alloc, splice, hlm]
  · obtain rfl : n = 0 := by omega
    obtain rfl : ms = [] := List.eq_nil_of_length_eq_zero h.hlen
    rw [run_copy_zero _ _ _ _ _ _ _ (by exact Nat.zero_min _)]
    simp [splice, memCells]

end Go.Proofs.Qxb6619324a.Base
