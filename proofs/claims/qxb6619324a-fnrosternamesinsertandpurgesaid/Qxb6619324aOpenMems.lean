import Derived.Test.Qxb6619324aOpen
import Derived.Test.Qxb6619324aMems
import Derived.Deep.SlicePairs
import Derived.Deep.Strs
namespace Go.Proofs.Qxb6619324a.Base
open Go.ChangeShapes Go.WideShapes Go.ChangeAt Go.RowKit
set_option linter.unusedVariables false

theorem cells9 : Try.prog.cellsOf 9 = 1 := by kernel_rfl
theorem cells41 : Try.prog.cellsOf 41 = 2 := by kernel_rfl

/-- A slice of strings that came in, opened. -/
theorem open_strs {H : Type} {enc : TypeId × Value → H} {W : World} {a : Option Addr} {len cap : Nat} {d : DataW H} {p : List MemPlace}
    (h : DataW.Trod enc Try.prog W 0 (fun _ => true) true 31 (.slice a len cap) d p) : ∃ S, StrsIn W a len cap S := by
  obtain ⟨fuel, hf⟩ := h
  rcases Deep.open_strs Try.underlying31 Try.underlying9 cells9 hf with ⟨hcs, _⟩ | ⟨x, l, c, m, S, hcs, _, hl, hm, hmm, _, hrow⟩
  · simp [Value.cells] at hcs
    obtain ⟨rfl, rfl, rfl⟩ := hcs
    exact ⟨fun _ => ByteArray.empty, Nat.le_refl _, Nat.zero_le _, fun i hi => absurd hi (by omega), fun hi => absurd hi (by omega)⟩
  · simp [Value.cells] at hcs
    obtain ⟨rfl, rfl, rfl⟩ := hcs
    simp only [if_true] at hmm
    subst hmm
    refine ⟨S, hl, hm, fun i hi => (hrow i (by omega)).2, fun h0 => ?_⟩
    obtain ⟨b, off, spot⟩ := x
    have hspot : spot = none := by simpa [Addr.add] using World.cell?_spot (hrow 0 (by omega)).1
    subst hspot
    refine ⟨b, off, rfl, fun i hi => ?_⟩
    have := (hrow i (by omega)).1
    rwa [Addr.add_lit] at this

/-- A slice of members that came in, opened. -/
theorem open_mems {H : Type} {enc : TypeId × Value → H} {W : World} {a : Option Addr} {len cap : Nat} {d : DataW H} {p : List MemPlace}
    (h : DataW.Trod enc Try.prog W 0 (fun _ => true) true 37 (.slice a len cap) d p) : ∃ ms, MemsIn W a len cap ms := by
  obtain ⟨fuel, hf⟩ := h
  rcases Deep.open_slice_pairs Try.underlying37 Try.underlying41 cells41 rfl rfl cells9 cells9 hf with ⟨hcs, _⟩ | ⟨x, l, c, m, n, V0, V1, D0, D1, P0, P1, hcs, _, hl, hm, hmm, _, hrow⟩
  · simp [Value.cells] at hcs
    obtain ⟨rfl, rfl, rfl⟩ := hcs
    exact ⟨[], ⟨rfl, by simp, fun h => absurd h (by omega)⟩, Nat.le_refl _, Nat.zero_le _⟩
  · simp [Value.cells] at hcs
    obtain ⟨rfl, rfl, rfl⟩ := hcs
    simp only [if_true] at hmm
    subst hmm
    have each : ∀ i, i < len → ∃ s : ByteArray × ByteArray, V0 i = .string s.1 ∧ V1 i = .string s.2 ∧ s.1.size ≤ maxLen ∧ s.2.size ≤ maxLen := fun i hi => by
      obtain ⟨_, _, t0, t1⟩ := hrow i (by omega)
      obtain ⟨s0, e0, _, z0⟩ := DataW.trod_string Try.underlying9 t0
      obtain ⟨s1, e1, _, z1⟩ := DataW.trod_string Try.underlying9 t1
      exact ⟨(s0, s1), by simpa using e0, by simpa using e1, z0, z1⟩
    obtain ⟨f, hff⟩ := Deep.choose_lt each
    refine ⟨(List.range len).map f, ⟨by simp, fun m hm' => ?_, fun h0 => ?_⟩, hl, hm⟩
    · obtain ⟨i, hi, rfl⟩ := List.mem_map.1 hm'
      have := hff i (List.mem_range.1 hi)
      exact ⟨this.2.2.1, this.2.2.2⟩
    · obtain ⟨b, off, spot⟩ := x
      have hspot : spot = none := by simpa [Addr.add] using World.cell?_spot (hrow 0 (by omega)).1
      subst hspot
      refine ⟨b, off, rfl, fun i hi => ?_⟩
      have r := hrow i (by omega)
      have e := hff i hi
      have eI : gI ((List.range len).map f) i = (f i).1 := by simp [gI, List.getD, hi]
      have eJ : gJ ((List.range len).map f) i = (f i).2 := by simp [gJ, List.getD, hi]
      rw [eI, eJ, ← e.1, ← e.2.1]
      refine ⟨?_, ?_⟩
      · have := r.1
        rwa [Addr.add_lit] at this
      · have := r.2.1
        rwa [Addr.add_lit] at this

end Go.Proofs.Qxb6619324a.Base
