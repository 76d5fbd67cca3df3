import Derived.Test.Qxb6617219aLaw7
import Derived.Deep.Slices
import Derived.OpenShut
namespace Go.Proofs.Qxb6617219a.Base
open Go.ChangeShapes Go.WideShapes Go.ChangeAt Go.RowKit
set_option linter.unusedVariables false

theorem cells4 : Try.prog.cellsOf 4 = 1 := by kernel_rfl
theorem cells5 : Try.prog.cellsOf 5 = 1 := by kernel_rfl
theorem cells9 : Try.prog.cellsOf 9 = 1 := by kernel_rfl
theorem cells35 : Try.prog.cellsOf 35 = 16 := by kernel_rfl
theorem cells37 : Try.prog.cellsOf 37 = 21 := by kernel_rfl

section
variable {H : Type} {enc : TypeId × Value → H} {W : World} {base : Nat} {sp : Nat → Bool} {held : Bool}

/-- An id that can be read: sixteen numbers. -/
theorem ids_of_trod {fuel : Nat} {cs : List Value} {x : DataW H × List MemPlace} (h : DataW.trod enc Try.prog W base sp held fuel 35 cs = some x) : ∃ ids : List Int, ids.length = 16 ∧ cs = ids.map (Value.int .u8) := by
  obtain ⟨xs, m, _, _, hl, hxl, hf⟩ := DataW.trod_array Try.underlying35 h
  rw [cells35] at hl
  have each : ∀ i, i < 16 → ∃ n : Int, cs[i]? = some (.int .u8 n) := fun i hi => by
    have h1 := hf i hi
    rw [cells5, Nat.mul_one, List.getElem?_eq_getElem (show i < xs.length by omega)] at h1
    have e : (cs.drop i).take 1 = [cs[i]] := by
      rw [List.drop_eq_getElem_cons (by omega)]; rfl
    rw [e] at h1
    obtain ⟨n, e1, _⟩ := DataW.trod_int Try.underlying5 h1
    refine ⟨n, ?_⟩
    rw [List.getElem?_eq_getElem (by omega)]
    simpa using e1
  obtain ⟨f, hff⟩ := Deep.choose_lt each
  refine ⟨(List.range 16).map f, by simp, ?_⟩
  apply List.ext_getElem?
  intro i
  by_cases hi : i < 16
  · rw [hff i hi]
    simp [hi]
  · rw [List.getElem?_eq_none (by omega), List.getElem?_eq_none (by simp; omega)]

/-- A permission that can be read. -/
theorem pm_of_trod {fuel : Nat} {cs : List Value} {x : DataW H × List MemPlace} (h : DataW.trod enc Try.prog W base sp held fuel 37 cs = some x) : ∃ p : Pm, p.ok ∧ cs = pc p := by
  obtain ⟨xs, m, _, _, hl, hxl, hf⟩ := DataW.trod_struct Try.underlying37 h
  rw [cells37] at hl
  match xs, hxl with
  | [y0, y1, y2, y3, y4, y5], _ =>
  match cs, hl with
  | [c0, c1, c2, c3, c4, c5, c6, c7, c8, c9, c10, c11, c12, c13, c14, c15, c16, c17, c18, c19, c20], _ =>
    have f0 := hf 0 _ rfl
    have f1 := hf 1 _ rfl
    have f2 := hf 2 _ rfl
    have f3 := hf 3 _ rfl
    have f4 := hf 4 _ rfl
    have f5 := hf 5 _ rfl
    obtain ⟨b0, e0, _⟩ := DataW.trod_bool Try.underlying4 f0
    obtain ⟨n1, e1, _⟩ := DataW.trod_int Try.underlying5 f1
    obtain ⟨s2, e2, _, z2⟩ := DataW.trod_string Try.underlying9 f2
    obtain ⟨b3, e3, _⟩ := DataW.trod_bool Try.underlying4 f3
    obtain ⟨ids, hi, e4⟩ := ids_of_trod f4
    obtain ⟨s5, e5, _, z5⟩ := DataW.trod_string Try.underlying9 f5
    simp [cells4, cells5, cells9, cells35] at e0 e1 e2 e3 e4 e5
    subst e0 e1 e2 e3 e5
    refine ⟨⟨b0, n1, s2, b3, ids, s5⟩, ⟨hi, z2, z5⟩, ?_⟩
    unfold pc
    simp only [← e4]
    rfl

end

/-- A slice of permissions that came in, opened. -/
theorem open_perms {H : Type} {enc : TypeId × Value → H} {W : World} {a : Option Addr} {len cap : Nat} {d : DataW H} {p : List MemPlace}
    (h : DataW.Trod enc Try.prog W 0 (fun _ => true) true 22 (.slice a len cap) d p) : ∃ ps, PmsIn W a len cap ps := by
  obtain ⟨fuel, hf⟩ := h
  rcases Deep.open_slice Try.underlying22 hf with ⟨hcs, _⟩ | ⟨x, l, c, m, n, D, Pl, hcs, _, hl, hm, hmm, _, hrow⟩
  · simp [Value.cells] at hcs
    obtain ⟨rfl, rfl, rfl⟩ := hcs
    exact ⟨[], pms_none _ _, Nat.le_refl _, Nat.zero_le _⟩
  · simp [Value.cells] at hcs
    obtain ⟨rfl, rfl, rfl⟩ := hcs
    simp only [if_true] at hmm
    subst hmm
    rw [cells37] at hrow
    have each : ∀ i, i < len → ∃ q : Pm, q.ok ∧ ∀ j, j < 21 → W.cell? (x.add (i * 21 + j)) = (pc q)[j]? := fun i hi => by
      obtain ⟨cs', h1, h2⟩ := hrow i (by omega)
      obtain ⟨_, hlen, hcell⟩ := World.cells?_some h1
      obtain ⟨q, hq, rfl⟩ := pm_of_trod h2
      exact ⟨q, hq, fun j hj => by rw [← Deep.add_add]; exact hcell j hj⟩
    have ih : Inhabited Pm := ⟨⟨false, 0, ByteArray.empty, false, [], ByteArray.empty⟩⟩
    obtain ⟨f, hff⟩ := Deep.choose_lt each
    refine ⟨(List.range len).map f, ⟨by simp, fun q hq => ?_, fun h0 => ?_⟩, hl, hm⟩
    · obtain ⟨i, hi, rfl⟩ := List.mem_map.1 hq
      exact (hff i (List.mem_range.1 hi)).1
    · obtain ⟨b, off, spot⟩ := x
      have hspot : spot = none := by
        have := (hff 0 (by omega)).2 0 (by omega)
        rw [pc0] at this
        simpa [Addr.add] using World.cell?_spot this
      subst hspot
      refine ⟨b, off, rfl, fun i hi => ?_⟩
      have e : gP ((List.range len).map f) i = f i := by simp [gP, List.getD, hi]
      rw [e]
      intro j v hv
      have hj : j < 21 := by
        have := (List.getElem?_eq_some_iff.1 hv).1
        rwa [pc_len (hff i hi).1] at this
      have := (hff i hi).2 j hj
      rw [Addr.add_lit, ← Nat.add_assoc] at this
      rw [this, hv]

/-- A pointer to an id that came in, opened. -/
theorem open_oid {H : Type} {enc : TypeId × Value → H} {W : World} {v : Value} {d : DataW H} {p : List MemPlace} {b0 : Nat} (hval : Value.okWide Try.prog W .any b0 23 v)
    (h : DataW.Trod enc Try.prog W 0 (fun _ => true) true 23 v d p) : ∃ ptr oid, v = .pointer ptr ∧ OId W ptr oid := by
  rcases Go.ChangeShapes.open_ptr Try.underlying23 (by rw [cells35]; omega) hval h with ⟨rfl, _, _⟩ | ⟨b, off, cs, y, fuel, rfl, _, _, hlen, hcell, hy⟩
  · exact ⟨none, none, rfl, .inl ⟨rfl, rfl⟩⟩
  · obtain ⟨ids, hi, rfl⟩ := ids_of_trod hy
    refine ⟨_, some ids, rfl, .inr ⟨b, off, ids, rfl, rfl, hi, fun j v hv => ?_⟩⟩
    have hj : j < 16 := by
      have := (List.getElem?_eq_some_iff.1 hv).1
      simpa [hi] using this
    rw [hcell j (by rw [cells35]; exact hj), hv]

/-- A permission by value that came in, opened. -/
theorem open_perm {H : Type} {enc : TypeId × Value → H} {W : World} {v : Value} {d : DataW H} {p : List MemPlace} {b0 : Nat} (hval : Value.okWide Try.prog W .any b0 37 v)
    (h : DataW.Trod enc Try.prog W 0 (fun _ => true) true 37 v d p) : ∃ q : Pm, q.ok ∧ v = .agg (pc q).toArray := by
  obtain ⟨cs, rfl, _⟩ := okWide_struct Try.underlying37 hval
  obtain ⟨fuel, hf⟩ := h
  obtain ⟨q, hq, e⟩ := pm_of_trod hf
  refine ⟨q, hq, ?_⟩
  simp only [Value.cells] at e
  rw [← e]

end Go.Proofs.Qxb6617219a.Base
