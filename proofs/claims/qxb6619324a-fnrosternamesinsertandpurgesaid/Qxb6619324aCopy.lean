import Derived.Test.Qxb6619324aLcp
namespace Go.Proofs.Qxb6619324a.Base
open Go.ChangeShapes Go.WideShapes Go.ChangeAt Go.RowKit
set_option linter.unusedVariables false

theorem info5 : (Try.prog.info? 5).map (fun i => (i.zero, i.size, i.bytes)) = some (some (.int .u8 0), 1, 1) := by kernel_rfl
theorem size5 : (Try.prog.info? 5).map (·.size) = some 1 := by kernel_rfl

theorem Byt.below {w w' : World} {B : Nat} {a : Option Addr} {len : Nat} {xs : List Int} (h : Byt w a len xs) (hB : w.heap.size ≤ B) (hb : Below B w w') : Byt w' a len xs := by
  obtain ⟨h1, h2, h3⟩ := h
  refine ⟨h1, h2, fun h0 => ?_⟩
  obtain ⟨b, off, rfl, hc⟩ := h3 h0
  refine ⟨b, off, rfl, fun i hi => ?_⟩
  have := hc i hi
  have hl := World.block_lt_of_cell? w _ this
  rw [hb.cell (by exact Nat.lt_of_lt_of_le hl hB), this]

theorem Byt.alloc {w : World} {a : Option Addr} {len : Nat} {xs : List Int} (h : Byt w a len xs) (o : Obj) : Byt (w.alloc o) a len xs :=
  h.below (Nat.le_refl _) ((Below.refl _ _).alloc (Nat.le_refl _) o)

theorem byt_new (w : World) (xs : List Int) (n : Nat) (hn : xs.length = n) (hb : ∀ x ∈ xs, 0 ≤ x ∧ x ≤ 255) : Byt (w.alloc (.cells (xs.map (Value.int .u8)).toArray 5)) (some ⟨w.heap.size, 0, none⟩) n xs := by
  refine ⟨hn, hb, fun h0 => ⟨w.heap.size, 0, rfl, fun i hi => ?_⟩⟩
  rw [World.cell?_alloc_at (hn := rfl)]
  simp [List.getD, show i < xs.length by omega]

theorem run_make_bytes (W : World) (n : Nat) (hn : n ≤ 2097152) :
    (Instr.makeSlice 22 (.int .i64 n) (.int .i64 n)).run Try.prog W = .ok (.slice (some ⟨W.heap.size, 0, none⟩) n n) (W.alloc (.cells (madeCells #[.int .u8 0] n) 5)) := by
  obtain ⟨i, hi, hz0, hz1, hz2⟩ := info_parts info5
  have := run_make (P := Try.prog) W 22 5 i (.int .u8 0) Try.underlying22 hi hz0 .i64 .i64 n n (by omega) (by omega) (by rw [hz2]; omega) (by omega)
  rw [this, hz1]
  simp [Value.cells]

theorem setRow_alloc (W : World) (cur cur' : Array Value) (t : TypeId) : (W.alloc (.cells cur t)).setRow W.heap.size cur' = W.alloc (.cells cur' t) := by
  unfold World.setRow World.alloc
  cases W with
  | mk heap tape drawn os output =>
    congr 1
    apply Array.ext
    · simp
    · intro k h1 h2
      simp only [Array.getElem_modify]
      split
      · rename_i hk; subst hk; simp
      · rename_i hk
        simp at h1
        have : k < heap.size := by dsimp at *; omega
        simp [Array.getElem_push, this]

theorem run_copy_new (W : World) (cur : List Value) (off n : Nat) (dp : Option Addr) (dLen dCap : Nat) (a : Option Addr) (c : Nat) (xs : List Int) (h : Byt W a n xs) (hfit : off + n ≤ cur.length)
    (hd : 0 < n → dp = some ⟨W.heap.size, off, none⟩) (hlen : n ≤ dLen) (ty : TypeId) :
    (Builtin.copy_ #[22, 22] ty #[.slice dp dLen dCap, .slice a n c]).run Try.prog (W.alloc (.cells cur.toArray 5)) = .ok (goInt n) (W.alloc (.cells (splice cur off (xs.map (Value.int .u8))).toArray 5)) := by
  obtain ⟨h1, h2, h3⟩ := h
  by_cases h0 : 0 < n
  · obtain rfl := hd h0
    obtain ⟨b, o, rfl, hc⟩ := h3 h0
    have hg : (W.alloc (.cells cur.toArray 5)).heap[W.heap.size]? = some (.cells cur.toArray 5 (0, 0)) := by
      exact (heap_alloc_new W _)
    have := run_copy_row (P := Try.prog) (W.alloc (.cells cur.toArray 5)) 22 22 ty 5 W.heap.size off dLen dCap ⟨b, o, none⟩ n c cur.toArray 5 (xs.map (Value.int .u8)) Try.underlying22 size5 hg
      (by simp [h1]; exact (Nat.min_eq_left hlen).symm)
      (by
        intro j v hj
        have hj' : j < n := by
          rcases Nat.lt_or_ge j n with q | q
          · exact q
          · rw [List.getElem?_eq_none (by simpa [h1] using q)] at hj
            cases hj
        have hcj := hc j hj'
        have hlt := World.block_lt_of_cell? W _ hcj
        rw [Addr.add_lit, World.cell?_alloc_past (hn := hlt), hcj, ← hj]
        simp [List.getD, show j < xs.length by omega])
      (by simpa [h1] using hfit) (ints_oneCell _ _)
    rw [this, setRow_alloc]
    simp [splice, h1]
  · obtain rfl : n = 0 := by omega
    obtain rfl : xs = [] := List.eq_nil_of_length_eq_zero h1
    rw [run_copy_none (P := Try.prog) _ 22 22 ty 5 dp a dLen dCap 0 c Try.underlying22 size5 (by exact Nat.zero_min _)]
    simp [splice]

theorem splice_all (cur xs : List Value) (h : cur.length = xs.length) : splice cur 0 xs = xs := by
  simp [splice, h]

end Go.Proofs.Qxb6619324a.Base
