import Derived.Test.Qxb6619324aJoin
namespace Go.Proofs.Qxb6619324a.Base
open Go.ChangeShapes Go.WideShapes Go.ChangeAt Go.RowKit
set_option linter.unusedVariables false

/-- The members whose id is not xs. -/
def dropM (xs : List Int) (ms : List (ByteArray × ByteArray)) : List (ByteArray × ByteArray) := ms.filter fun m => !sameB xs m.1

theorem take_snocM (ms : List (ByteArray × ByteArray)) (k : Nat) (h : k < ms.length) : ms.take (k + 1) = ms.take k ++ [(gI ms k, gJ ms k)] := by
  have e : (gI ms k, gJ ms k) = ms[k] := by simp [gI, gJ, List.getD, h]
  rw [e, List.take_succ_eq_append_getElem h]

theorem dropM_yes (xs : List Int) (ms : List (ByteArray × ByteArray)) (k : Nat) (h : k < ms.length) (hs : sameB xs (gI ms k) = true) : dropM xs (ms.take (k + 1)) = dropM xs (ms.take k) := by
  rw [take_snocM ms k h]; simp [dropM, hs]
theorem dropM_no (xs : List Int) (ms : List (ByteArray × ByteArray)) (k : Nat) (h : k < ms.length) (hs : sameB xs (gI ms k) = false) : dropM xs (ms.take (k + 1)) = dropM xs (ms.take k) ++ [(gI ms k, gJ ms k)] := by
  rw [take_snocM ms k h]; simp [dropM, hs]
theorem dropM_le (xs : List Int) (ms : List (ByteArray × ByteArray)) (k : Nat) : (dropM xs (ms.take k)).length ≤ k := by
  have h1 : (dropM xs (ms.take k)).length ≤ (ms.take k).length := List.length_filter_le _ _
  have h2 := List.length_take_le k ms
  omega

set_option maxRecDepth 100000 in
set_option maxHeartbeats 1000000 in
theorem without_any {a0 : Option Addr} {l0 c0 : Nat} {ms : List (ByteArray × ByteArray)} {a : Option Addr} {len cap : Nat} {xs : List Int} {w : World} (h0 : Mems w a0 l0 ms) (n0 : l0 ≤ 1048576) (h : In w a len cap xs) :
    Calls Try.prog 26 #[.slice a0 l0 c0, .slice a len cap] w fun e w' => ∃ ao co, e = .returned (.slice ao (dropM xs ms).length co) ∧ (dropM xs ms).length ≤ co ∧ (ao = none → (dropM xs ms).length = 0) ∧ Mems w' ao (dropM xs ms).length (dropM xs ms) ∧ Below w.heap.size w w' := by
  have hmk := run_make_mems w l0 0 (Nat.zero_le _) (by omega)
  rw [show ((0 : Nat) : Int) = 0 from rfl] at hmk
  have hown := World.ownsRow_made (base := w.heap.size) (size := 2) (e := 41) w (madeCells #[.string ByteArray.empty, .string ByteArray.empty] (l0 * 2)) l0 (Nat.le_refl _) (by unfold maxLen; omega) (size_madeCells _ _)
  obtain ⟨i0, hi, hz0, hz1, hz2⟩ := info_parts info41
  have HO : Hid ((w.alloc (.cells (madeCells #[.string ByteArray.empty, .string ByteArray.empty] (l0 * 2)) 41)).ownsRow w.heap.size 41 2 (.slice (some ⟨w.heap.size, 0, none⟩) 0 l0) 0 (memCells (dropM xs (ms.take 0)))) := hown
  clear hown
  have hlen := h0.hlen
  have HLN : Hid (ms.length = l0) := hlen
  clear hlen
  go_enter Try.func26, Try.ntmps26
  go_wp2_with fail
  clear hmk
  go_loopg [5, 6] l0 (fun gk s i wr => ∃ k n : Nat, k ≤ l0 ∧ n ≤ k ∧ Hid (gk = l0 - k) ∧ i = .int .i64 k ∧ s = .slice (some ⟨w.heap.size, 0, none⟩) n l0 ∧ Hid ((dropM xs (ms.take k)).length = n) ∧
    Hid (wr.ownsRow w.heap.size 41 2 (.slice (some ⟨w.heap.size, 0, none⟩) n l0) n (memCells (dropM xs (ms.take k)))) ∧ Below w.heap.size w wr)
  case atStart => exact ⟨0, 0, Nat.zero_le _, Nat.zero_le _, rfl, rfl, rfl, rfl, HO, (Below.refl _ _).alloc (Nat.le_refl _) _⟩
  case round =>
  clear HO
  obtain ⟨k, n, hk, hnk, hg, rfl, rfl, hn, hO, hB⟩ := hrel
  by_cases hlt : k < l0
  · obtain ⟨b, off, rfl, hc⟩ := h0.cells (by omega)
    obtain ⟨hc1, hc2⟩ := hc k hlt
    have hbl : b < w.heap.size := World.block_lt_of_cell? w _ hc1
    have hr1 : wr.cell? ⟨b, off + k * 2, none⟩ = some (.string (gI ms k)) := by rw [hB.cell (by exact hbl), hc1]
    have i1 : (k : Int) < l0 := by omega
    have hsz := gI_size h0 hlt
    go_wp2_with fail
    refine (same_any (h.below hB) hsz).mono ?_
    rintro e w5 ⟨rfl, hD⟩
    have hB5 := hB.trans (hD.below _)
    have hO5 : Hid (w5.ownsRow w.heap.size 41 2 (.slice (some ⟨w.heap.size, 0, none⟩) n l0) n (memCells (dropM xs (ms.take k)))) := by
      obtain ⟨d, rfl⟩ := hD
      exact hO
    have hr1 : w5.cell? ⟨b, off + k * 2, none⟩ = some (.string (gI ms k)) := by rw [hB5.cell (by exact hbl), hc1]
    have hr2 : w5.cell? ⟨b, off + k * 2 + 1, none⟩ = some (.string (gJ ms k)) := by rw [hB5.cell (by exact hbl), hc2]
    clear hB hD hO hc1 hc2 hc
    obtain ⟨t, ht⟩ : ∃ t, sameB xs (gI ms k) = t := ⟨_, rfl⟩
    have HS : Hid (sameB xs (gI ms k) = t) := ht
    rw [ht]
    clear ht
    cases t with
    | true =>
      go_wp2_with fail
      go_roundg (l0 - (k + 1))
      case measure => have := hg.out; omega
      case rel =>
        refine ⟨k + 1, n, by omega, by omega, rfl, by go_num, rfl, ?_, ?_, hB5⟩
        · rw [dropM_yes xs ms k (by rw [HLN.out]; exact hlt) HS.out]; exact hn
        · rw [dropM_yes xs ms k (by rw [HLN.out]; exact hlt) HS.out]; exact hO5
    | false =>
      have hwp : ∀ j u, ([.string (gI ms k), .string (gJ ms k)] : List Value)[j]? = some u → (w5.alloc (.cells #[.string (gI ms k), .string (gJ ms k)] 41)).cell? ((⟨w5.heap.size, 0, none⟩ : Addr).add j) = some u := by
        intro j u hj
        rw [Addr.add_lit, World.cell?_alloc_at (hn := rfl)]
        simpa using hj
      have h1c : ∀ u ∈ ([.string (gI ms k), .string (gJ ms k)] : List Value), u.oneCell' = true := by
        intro u hu
        simp only [List.mem_cons, List.not_mem_nil, or_false] at hu
        rcases hu with rfl | rfl <;> rfl
      have HW := (show Hid _ from hwp)
      have H1 := (show Hid _ from h1c)
      clear hwp h1c
      go_wp2_with (at_builtin; refine wpList_append_fits _ rfl (.tmp 24) (.tmp 29) 37 rfl w.heap.size 41 i0 2 Try.underlying37 hi hz1 w.heap.size n l0 (memCells (dropM xs (ms.take k))) rfl (World.ownsRow.alloc hO5.out _) ⟨w5.heap.size, 0, none⟩ 1 1 [.string (gI ms k), .string (gJ ms k)] rfl rfl HW.out H1.out (by omega) ?_)
      intro w6 hown6 hgr
      have HO6 := (show Hid _ from hown6)
      have HG6 := (show Hid _ from hgr)
      clear hown6 hgr
      go_wp2_with fail
      go_roundg (l0 - (k + 1))
      case measure => have := hg.out; omega
      case rel =>
        go_light
        have e := dropM_no xs ms k (by rw [HLN.out]; exact hlt) HS.out
        refine ⟨k + 1, n + 1, by omega, by omega, rfl, by go_num, rfl, ?_, ?_, ?_⟩
        · rw [e]; simp [Hid, hn.out]
        · rw [e, memCells_append]; exact HO6.out
        · exact (hB5.alloc hB5.size _).grown HG6.out (by have := hB5.size; simp; omega) (fun j hj => by cases hj; exact Nat.le_refl _)
  obtain rfl : k = l0 := by omega
  clear hg
  have hd : dropM xs (ms.take k) = dropM xs ms := by rw [List.take_of_length_le (by rw [HLN.out]; exact Nat.le_refl _)]
  rw [hd] at hn hO
  have hL := hn.out
  have hres : Mems wr (some ⟨w.heap.size, 0, none⟩) n (dropM xs ms) := mems_of_cells hn.out (fun m hm => h0.size m ((List.mem_filter.1 hm).1)) (fun j hj => hO.out.cellAt j hj)
  clear hL hd
  go_wp2_with fail
  go_ret
  rw [hn.out]
  exact ⟨_, _, rfl, hnk, (fun h => by cases h), hres, hB⟩

end Go.Proofs.Qxb6619324a.Base
