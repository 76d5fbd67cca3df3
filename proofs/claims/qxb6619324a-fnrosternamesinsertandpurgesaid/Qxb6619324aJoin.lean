import Derived.Test.Qxb6619324aMemOps
namespace Go.Proofs.Qxb6619324a.Base
open Go.ChangeShapes Go.WideShapes Go.ChangeAt Go.RowKit
set_option linter.unusedVariables false

theorem splice_pair (cur xs ys : List Value) (h : cur.length = xs.length + ys.length) : splice (splice cur 0 xs) xs.length ys = xs ++ ys := by
  simp [splice, h]

theorem splice_mems (cur : List Value) (ms ns : List (ByteArray × ByteArray)) (h : cur.length = (ms.length + ns.length) * 2) : splice (splice cur 0 (memCells ms)) (ms.length * 2) (memCells ns) = memCells (ms ++ ns) := by
  rw [memCells_append]
  have h1 := length_memCells ms
  have h2 := length_memCells ns
  have := splice_pair cur (memCells ms) (memCells ns) (by omega)
  rw [h1] at this
  exact this

set_option maxRecDepth 100000 in
set_option maxHeartbeats 1000000 in
theorem join_any {a0 a1 : Option Addr} {l0 c0 l1 c1 : Nat} {ms ns : List (ByteArray × ByteArray)} {w : World} (h0 : Mems w a0 l0 ms) (h1 : Mems w a1 l1 ns) (n0 : l0 ≤ 1048576) (n1 : l1 ≤ 1048576) (k0 : l0 ≤ c0) (k1 : l1 ≤ c1) :
    Calls Try.prog 24 #[.slice a0 l0 c0, .slice a1 l1 c1] w fun e w' => ∃ ao, e = .returned (.slice ao (l0 + l1) (l0 + l1)) ∧ (ao = none → l0 + l1 = 0) ∧ Mems w' ao (l0 + l1) (ms ++ ns) ∧ Below w.heap.size w w' := by
  have hmk := run_make_mems w (l0 + l1) (l0 + l1) (Nat.le_refl _) (by omega)
  have hcp := run_copy_mems w (madeCells #[.string ByteArray.empty, .string ByteArray.empty] ((l0 + l1) * 2)).toList 0 l0 (some ⟨w.heap.size, 0, none⟩) (l0 + l1) (l0 + l1) a0 c0 ms h0 (by simp [size_madeCells]; omega) (fun _ => rfl) (by omega)
  have ec : ((l0 + l1 : Nat) : Int) = (l0 : Int) + (l1 : Int) := by omega
  rw [ec] at hmk
  have hZ : (madeCells #[Value.string ByteArray.empty, Value.string ByteArray.empty] ((l0 + l1) * 2)).toList.length = (l0 + l1) * 2 := by simp [size_madeCells]
  have hT := splice_mems (madeCells #[.string ByteArray.empty, .string ByteArray.empty] ((l0 + l1) * 2)).toList ms ns (by rw [hZ, h0.hlen, h1.hlen])
  have hLl := length_splice (madeCells #[.string ByteArray.empty, .string ByteArray.empty] ((l0 + l1) * 2)).toList 0 (memCells ms) (by rw [hZ, length_memCells, h0.hlen]; omega)
  rw [hZ] at hLl
  simp only [Array.toArray_toList] at hcp
  generalize madeCells #[Value.string ByteArray.empty, Value.string ByteArray.empty] ((l0 + l1) * 2) = Z at *
  generalize splice Z.toList 0 (memCells ms) = L at hcp hT hLl
  rw [h0.hlen] at hT
  have HT : Hid (splice L (l0 * 2) (memCells ns) = memCells (ms ++ ns)) := hT
  have HL : Hid (L.length = (l0 + l1) * 2) := hLl
  clear hT hLl hZ ec
  go_enter Try.func24, Try.ntmps24
  go_upto_region 3 with fail
  clear hmk hcp
  go_cut [5] (fun s5 wx => s5 = .slice (some ⟨w.heap.size, 0, none⟩) (l0 + l1) (l0 + l1) ∧ Mems wx (some ⟨w.heap.size, 0, none⟩) (l0 + l1) (ms ++ ns) ∧ Below w.heap.size w wx)
  case first =>
    by_cases hz : l1 = 0
    · subst hz
      have hcz := fun ty => run_copy_zero (w.alloc (.cells L.toArray 41)) (some ⟨w.heap.size, 0, none⟩) a1 0 0 0 c1 (by exact Nat.zero_min _) ty
      go_wp2_with fail
      go_meet
      case rel =>
        refine ⟨rfl, ?_, (Below.refl _ _).alloc (Nat.le_refl _) _⟩
        have hns : ns = [] := List.eq_nil_of_length_eq_zero h1.hlen
        have e : L = memCells (ms ++ ns) := by
          rw [← HT.out, hns]
          simp [splice, memCells]
        rw [e]
        exact mems_new w (ms ++ ns) _ 41 (by simp [h0.hlen, h1.hlen]) (fun m hm => by rcases List.mem_append.1 hm with h | h; exact h0.size m h; exact h1.size m h)
    · have hcp2 := fun ty => run_copy_mems w L (l0 * 2) l1 (some ⟨w.heap.size, l0 * 2, none⟩) l1 l1 a1 c1 ns h1 (by rw [HL.out]; omega) (fun _ => rfl) (Nat.le_refl _) ty
      rw [HT.out] at hcp2
      go_wp2_with fail
      go_meet
      case rel =>
        refine ⟨rfl, ?_, (Below.refl _ _).alloc (Nat.le_refl _) _⟩
        exact mems_new w (ms ++ ns) _ 41 (by simp [h0.hlen, h1.hlen]) (fun m hm => by rcases List.mem_append.1 hm with h | h; exact h0.size m h; exact h1.size m h)
  case rest =>
  obtain ⟨rfl, hM, hB⟩ := hcut
  go_wp2_with fail
  go_ret
  exact ⟨_, rfl, (fun h => by cases h), hM, hB⟩

end Go.Proofs.Qxb6619324a.Base
