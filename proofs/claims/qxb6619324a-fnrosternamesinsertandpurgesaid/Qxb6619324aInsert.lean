import Derived.Test.Qxb6619324aWithout
namespace Go.Proofs.Qxb6619324a.Base
open Go.ChangeShapes Go.WideShapes Go.ChangeAt Go.RowKit
set_option linter.unusedVariables false

theorem gI_take {ms : List (ByteArray × ByteArray)} {k i : Nat} (h : i < k) : gI (ms.take k) i = gI ms i := by
  simp [gI, List.getD, h]
theorem gJ_take {ms : List (ByteArray × ByteArray)} {k i : Nat} (h : i < k) : gJ (ms.take k) i = gJ ms i := by
  simp [gJ, List.getD, h]
theorem gI_drop {ms : List (ByteArray × ByteArray)} {k i : Nat} : gI (ms.drop k) i = gI ms (k + i) := by
  simp [gI, List.getD, List.getElem?_drop]
theorem gJ_drop {ms : List (ByteArray × ByteArray)} {k i : Nat} : gJ (ms.drop k) i = gJ ms (k + i) := by
  simp [gJ, List.getD, List.getElem?_drop]

theorem Mems.left {w : World} {a : Option Addr} {len : Nat} {ms : List (ByteArray × ByteArray)} (h : Mems w a len ms) {k : Nat} (hk : k ≤ len) : Mems w a k (ms.take k) := by
  refine ⟨by simp [h.hlen]; omega, fun m hm => h.size m (List.mem_of_mem_take hm), fun h0 => ?_⟩
  obtain ⟨b, off, rfl, hc⟩ := h.cells (by omega)
  refine ⟨b, off, rfl, fun i hi => ?_⟩
  rw [gI_take hi, gJ_take hi]
  exact hc i (by omega)

theorem Mems.right {w : World} {b off : Nat} {len : Nat} {ms : List (ByteArray × ByteArray)} (h : Mems w (some ⟨b, off, none⟩) len ms) {k : Nat} (hk : k ≤ len) : Mems w (some ⟨b, off + k * 2, none⟩) (len - k) (ms.drop k) := by
  refine ⟨by simp [h.hlen], fun m hm => h.size m (List.mem_of_mem_drop hm), fun h0 => ?_⟩
  obtain ⟨b', off', he, hc⟩ := h.cells (by omega)
  simp only [Option.some.injEq, Addr.mk.injEq] at he
  obtain ⟨rfl, rfl, _⟩ := he
  refine ⟨b, off + k * 2, rfl, fun i hi => ?_⟩
  rw [gI_drop, gJ_drop]
  have := hc (k + i) (by omega)
  rwa [show off + (k + i) * 2 = off + k * 2 + i * 2 by omega] at this

theorem set_two (A R : List Value) (r1 r2 x y : Value) (k : Nat) (hA : A.length = k * 2) : ((A ++ r1 :: r2 :: R).toArray.setIfInBounds (k * 2) x).setIfInBounds (k * 2 + 1) y = (A ++ x :: y :: R).toArray := by
  have e1 : (A ++ r1 :: r2 :: R).set (k * 2) x = A ++ x :: r2 :: R := by
    rw [List.set_append_right _ _ (by omega)]; simp [hA]
  have e2 : (A ++ x :: r2 :: R).set (k * 2 + 1) y = A ++ x :: y :: R := by
    rw [List.set_append_right _ _ (by omega)]; simp [hA]
  simp [e1, e2]

theorem splice_tail (A R M : List Value) (x y : Value) (k : Nat) (hA : A.length = k * 2) (h : R.length = M.length) : splice (A ++ x :: y :: R) ((k + 1) * 2) M = A ++ x :: y :: M := by
  have e1 : (A ++ x :: y :: R).take ((k + 1) * 2) = A ++ [x, y] := by
    rw [List.take_append, List.take_of_length_le (by omega), show (k + 1) * 2 - A.length = 2 by omega]; simp
  have e2 : (A ++ x :: y :: R).drop ((k + 1) * 2 + M.length) = [] := by
    apply List.drop_eq_nil_of_le
    simp; omega
  simp [splice, e1, e2]

set_option maxRecDepth 100000 in
set_option maxHeartbeats 1000000 in
theorem insert_any {a0 : Option Addr} {l0 c0 : Nat} {ms : List (ByteArray × ByteArray)} {w : World} (h0 : Mems w a0 l0 ms) (n0 : l0 ≤ 1048576) (k0 : l0 ≤ c0) (k : Nat) (hk : k ≤ l0) (si sj : ByteArray) (hsi : si.size ≤ 9223372036854775807) (hsj : sj.size ≤ 9223372036854775807) :
    Calls Try.prog 27 #[.slice a0 l0 c0, .int .i64 k, .agg #[.string si, .string sj]] w fun e w' => ∃ ao co, e = .returned (.slice ao (l0 + 1) co) ∧ (ao = none → l0 + 1 = 0) ∧ Mems w' ao (l0 + 1) (ms.take k ++ (si, sj) :: ms.drop k) ∧ Below w.heap.size w w' := by
  have hal := (Below.refl w.heap.size w).alloc (Nat.le_refl _) (.cells #[.string si, .string sj] 41)
  have hmk := run_make_mems (w.alloc (.cells #[.string si, .string sj] 41)) (l0 + 1) (l0 + 1) (Nat.le_refl _) (by omega)
  have hcp := run_copy_mems (w.alloc (.cells #[.string si, .string sj] 41)) (madeCells #[.string ByteArray.empty, .string ByteArray.empty] ((l0 + 1) * 2)).toList 0 k (some ⟨w.heap.size + 1, 0, none⟩) (l0 + 1) (l0 + 1) a0 c0 (ms.take k) ((h0.left hk).below hal) (by simp [size_madeCells]; omega) (fun _ => by simp) (by omega)
  have ec : ((l0 + 1 : Nat) : Int) = (l0 : Int) + 1 := by omega
  rw [ec, World.size_alloc] at hmk
  have hZ : (madeCells #[Value.string ByteArray.empty, Value.string ByteArray.empty] ((l0 + 1) * 2)).toList.length = (l0 + 1) * 2 := by simp [size_madeCells]
  simp only [Array.toArray_toList] at hcp
  generalize madeCells #[Value.string ByteArray.empty, Value.string ByteArray.empty] ((l0 + 1) * 2) = Z at *
  have hlm : (memCells (ms.take k)).length = k * 2 := by rw [length_memCells, (h0.left hk).hlen]
  obtain ⟨R, hR, hRl⟩ : ∃ R, splice Z.toList 0 (memCells (ms.take k)) = memCells (ms.take k) ++ R ∧ R.length = (l0 + 1 - k) * 2 := by
    refine ⟨Z.toList.drop (0 + (memCells (ms.take k)).length), by simp [splice], ?_⟩
    rw [List.length_drop, hZ, hlm]; omega
  obtain ⟨r1, r2, R2, rfl⟩ : ∃ r1 r2 R2, R = r1 :: r2 :: R2 := by
    match R, hRl with
    | r1 :: r2 :: R2, _ => exact ⟨r1, r2, R2, rfl⟩
    | [r1], h => simp at h; omega
    | [], h => simp at h; omega
  rw [hR] at hcp
  have HR2 : Hid (R2.length = (l0 - k) * 2) := by
    simp at hRl
    show R2.length = _
    omega
  have HLM : Hid ((memCells (ms.take k)).length = k * 2) := hlm
  have hki : (k : Int) ≤ l0 := by omega
  have hkc : (k : Int) ≤ c0 := by omega
  have hk0 : (0 : Int) ≤ k := by omega
  have hk1 : (k : Int) < (l0 : Int) + 1 := by omega
  generalize hL : memCells (ms.take k) ++ r1 :: r2 :: R2 = L at hcp
  have HL := (show Hid (memCells (ms.take k) ++ r1 :: r2 :: R2 = L) from hL)
  clear hL hR hRl hlm hZ ec
  go_enter Try.func27, Try.ntmps27
  go_upto_region 3 with fail
  clear hmk hcp
  go_cut [7] (fun s7 wx => s7 = .slice (some ⟨w.heap.size + 1, 0, none⟩) (l0 + 1) (l0 + 1) ∧ ∃ L3 : List Value, Hid (memCells (ms.take k) ++ .string si :: .string sj :: R2 = L3) ∧ (w.alloc (.cells #[.string si, .string sj] 41)).alloc (.cells L3.toArray 41) = wx)
  case first =>
    have hLk1 : L[k * 2]? = some r1 := by rw [← HL.out, List.getElem?_append_right (by rw [HLM.out]; exact Nat.le_refl _), HLM.out]; simp
    have hLk2 : L[k * 2 + 1]? = some r2 := by rw [← HL.out, List.getElem?_append_right (by rw [HLM.out]; omega), HLM.out]; simp
    go_wp2_with fail
    go_meet
    case rel =>
      refine ⟨rfl, _, rfl, ?_⟩
      have e := set_two (memCells (ms.take k)) R2 r1 r2 (.string si) (.string sj) k HLM.out
      rw [HL.out] at e
      rw [← e]
      simp
  case rest =>
  obtain ⟨rfl, L3, HL3, rfl⟩ := hcut
  go_upto_region 4 with fail
  go_cut [7] (fun s7 wx => s7 = .slice (some ⟨w.heap.size + 1, 0, none⟩) (l0 + 1) (l0 + 1) ∧ Mems wx (some ⟨w.heap.size + 1, 0, none⟩) (l0 + 1) (ms.take k ++ (si, sj) :: ms.drop k) ∧ Below w.heap.size w wx)
  case first =>
    have hfin : ∀ (W : World), Mems (W.alloc (.cells (memCells (ms.take k ++ (si, sj) :: ms.drop k)).toArray 41)) (some ⟨W.heap.size, 0, none⟩) (l0 + 1) (ms.take k ++ (si, sj) :: ms.drop k) := fun W =>
      mems_new W _ _ 41 (by simp [h0.hlen]; omega) (fun m hm => by
        rcases List.mem_append.1 hm with h | h
        · exact h0.size m (List.mem_of_mem_take h)
        · rcases List.mem_cons.1 h with rfl | h
          · exact ⟨hsi, hsj⟩
          · exact h0.size m (List.mem_of_mem_drop h))
    have hcells : memCells (ms.take k ++ (si, sj) :: ms.drop k) = memCells (ms.take k) ++ .string si :: .string sj :: memCells (ms.drop k) := by
      rw [memCells_append]; rfl
    have hf := hfin (w.alloc (.cells #[.string si, .string sj] 41))
    rw [hcells, World.size_alloc] at hf
    clear hcells hfin
    by_cases hkl : k = l0
    · have hdr : ms.drop k = [] := List.drop_eq_nil_of_le (by rw [h0.hlen]; omega)
      have hR0 : R2 = [] := List.eq_nil_of_length_eq_zero (by rw [HR2.out]; omega)
      have hf2 : Mems ((w.alloc (.cells #[.string si, .string sj] 41)).alloc (.cells L3.toArray 41)) (some ⟨w.heap.size + 1, 0, none⟩) (l0 + 1) (ms.take k ++ (si, sj) :: ms.drop k) := by
        rw [← HL3.out, hR0]
        rw [hdr] at hf ⊢
        exact hf
      have HF := (show Hid (Mems ((w.alloc (.cells #[.string si, .string sj] 41)).alloc (.cells L3.toArray 41)) (some ⟨w.heap.size + 1, 0, none⟩) (l0 + 1) (ms.take k ++ (si, sj) :: ms.drop k)) from hf2)
      clear hf hf2 hdr hR0
      subst hkl
      have hcz := fun (dp sp : Option Addr) (sCap : Nat) (ty : TypeId) => run_copy_zero (((w.alloc (.cells #[.string si, .string sj] 41)).alloc (.cells L3.toArray 41)).drew) dp sp 0 0 0 sCap (by exact Nat.zero_min _) ty
      by_cases hck : c0 = k
      · subst hck
        go_wp2_with fail
        go_region
        all_goals
          go_wp2_with fail
          go_meet
          case rel => exact ⟨rfl, HF.out.below (Below.refl _ _).drew, ((((Below.refl _ _).alloc (Nat.le_refl _) _).alloc (by simp) _).drew)⟩
      · go_wp2_with fail
        go_region
        all_goals
          go_wp2_with fail
          go_meet
          case rel => exact ⟨rfl, HF.out.below (Below.refl _ _).drew, ((((Below.refl _ _).alloc (Nat.le_refl _) _).alloc (by simp) _).drew)⟩
    · obtain ⟨b, off, rfl, _⟩ := h0.cells (by omega)
      have hcp4 := fun ty => run_copy_mems (w.alloc (.cells #[.string si, .string sj] 41)).drew L3 ((k + 1) * 2) (l0 - k) (some ⟨w.heap.size + 1, (k + 1) * 2, none⟩) (l0 - k) (l0 - k) (some ⟨b, off + k * 2, none⟩) (c0 - k) (ms.drop k) ((h0.right hk).below hal.drew)
        (by rw [← HL3.out]; simp [HLM.out, HR2.out]; omega) (fun _ => by simp) (Nat.le_refl _) ty
      have hsp := splice_tail (memCells (ms.take k)) R2 (memCells (ms.drop k)) (.string si) (.string sj) k HLM.out (by rw [HR2.out, length_memCells, (h0.right hk).hlen])
      rw [HL3.out] at hsp
      rw [hsp] at hcp4
      have HF := (show Hid (Mems ((w.alloc (.cells #[.string si, .string sj] 41)).alloc (.cells (memCells (ms.take k) ++ .string si :: .string sj :: memCells (ms.drop k)).toArray 41)) (some ⟨w.heap.size + 1, 0, none⟩) (l0 + 1) (ms.take k ++ (si, sj) :: ms.drop k)) from hf)
      clear hf hsp
      generalize (memCells (ms.take k) ++ Value.string si :: Value.string sj :: memCells (ms.drop k)) = L4 at *
      have hcp5 : ∀ ty, (Builtin.copy_ #[37, 37] ty #[.slice (some ⟨w.heap.size + 1, (k + 1) * 2, none⟩) (l0 - k) (l0 - k), .slice (some ⟨b, off + k * 2, none⟩) (l0 - k) (c0 - k)]).run Try.prog (((w.alloc (.cells #[.string si, .string sj] 41)).alloc (.cells L3.toArray 41)).drew) = .ok (goInt ((l0 - k : Nat) : Int)) (((w.alloc (.cells #[.string si, .string sj] 41)).alloc (.cells L4.toArray 41)).drew) := hcp4
      clear hcp4
      have hck : ¬ c0 = k := by omega
      go_wp2_with fail
      go_region
      all_goals
        go_wp2_with fail
        go_meet
        case rel => exact ⟨rfl, HF.out.below (Below.refl _ _).drew, ((((Below.refl _ _).alloc (Nat.le_refl _) _).alloc (by simp) _).drew)⟩
  case rest =>
  obtain ⟨rfl, hM, hB⟩ := hcut
  go_wp2_with fail
  go_ret
  exact ⟨_, _, rfl, (fun h => by cases h), hM, hB⟩

end Go.Proofs.Qxb6619324a.Base
