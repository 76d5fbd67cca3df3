import Derived.Test.Qxb6619324aWire
import Derived.Deep.Matrix
namespace Go.Proofs.Qxb6619324a.Base
open Go.ChangeShapes Go.WideShapes Go.ChangeAt Go.RowKit
set_option linter.unusedVariables false

theorem cells5 : Try.prog.cellsOf 5 = 1 := by kernel_rfl
theorem cells22 : Try.prog.cellsOf 22 = 1 := by kernel_rfl

/-- A slice of bytes that came in, opened. -/
theorem open_byt {H : Type} {enc : TypeId × Value → H} {W : World} {a : Option Addr} {len cap : Nat} {d : DataW H} {p : List MemPlace}
    (h : DataW.Trod enc Try.prog W 0 (fun _ => true) true 22 (.slice a len cap) d p) : ∃ xs, In W a len cap xs := by
  obtain ⟨fuel, hf⟩ := h
  rcases open_ints Try.underlying22 Try.underlying5 cells5 hf with ⟨hcs, _⟩ | ⟨x, l, c, zs, hcs, _, hl, hm, hz, _, hcell, hwz⟩
  · simp [Value.cells] at hcs
    obtain ⟨rfl, rfl, rfl⟩ := hcs
    exact ⟨_, in_of_row (.inl ⟨rfl, rfl, rfl, rfl⟩)⟩
  · simp [Value.cells] at hcs
    obtain ⟨rfl, rfl, rfl⟩ := hcs
    exact ⟨_, in_of_row (zs := zs) (.inr ⟨_, rfl, hl, hm, by simpa using hz, hcell, hwz⟩)⟩

/-- A slice of slices of bytes that came in, opened. -/
theorem open_sls {H : Type} {enc : TypeId × Value → H} {W : World} {a : Option Addr} {len cap : Nat} {d : DataW H} {p : List MemPlace}
    (h : DataW.Trod enc Try.prog W 0 (fun _ => true) true 27 (.slice a len cap) d p) : ∃ A L C X, Sls W a len cap A L C X := by
  obtain ⟨fuel, hf⟩ := h
  rcases Deep.open_int_rows Try.underlying27 Try.underlying22 Try.underlying5 cells22 cells5 hf with ⟨hcs, _⟩ | ⟨x, l, c, A, L, C, Z, hcs, _, hl, hm, _, hrow⟩
  · simp [Value.cells] at hcs
    obtain ⟨rfl, rfl, rfl⟩ := hcs
    exact ⟨fun _ => none, fun _ => 0, fun _ => 0, fun _ => [], Nat.le_refl _, Nat.zero_le _, fun i hi => absurd hi (by omega), fun hi => absurd hi (by omega)⟩
  · simp [Value.cells] at hcs
    obtain ⟨rfl, rfl, rfl⟩ := hcs
    refine ⟨A, L, C, fun i => (Z i).take (L i), hl, hm, fun i hi => ?_, fun h0 => ?_⟩
    · obtain ⟨_, r1, r2, r3, r4, r5, r6⟩ := hrow i (by omega)
      refine in_of_row ?_
      cases hA : A i with
      | none =>
        have hC := r5 hA
        exact .inl ⟨rfl, by omega, hC, List.eq_nil_of_length_eq_zero (by omega)⟩
      | some x' =>
        exact .inr ⟨x', rfl, r1, r2, r3, fun c hc => (r6 x' hA).2 c (by omega), r4⟩
    · obtain ⟨b, off, spot⟩ := x
      have hspot : spot = none := by simpa [Addr.add] using World.cell?_spot (hrow 0 (by omega)).1
      subst hspot
      refine ⟨b, off, rfl, fun i hi => ?_⟩
      have := (hrow i (by omega)).1
      rwa [Addr.add_lit] at this

end Go.Proofs.Qxb6619324a.Base
