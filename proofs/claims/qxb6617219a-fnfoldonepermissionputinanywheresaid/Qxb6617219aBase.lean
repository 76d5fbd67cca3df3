import Derived.Test.Qxb6617219aRows
import Derived.WalkKit
import Derived.ProofKit
import Derived.WalkSpells
import Derived.WalkLawsBesides
import Derived.Deep.QuietTactic
import Derived.BigQuiet
import Derived.Laws.CopyOwn
import Derived.Deep.DeepCutAuto
import Derived.Deep.CutBlock
import Derived.Deep.LoopGhost
import Derived.Deep.Light
import Derived.Deep.MidRow
import Derived.Stop.BytesEq
namespace Go.Proofs.Qxb6617219a.Base
open Go.ChangeShapes Go.WideShapes Go.ChangeAt Go.RowKit
set_option linter.unusedVariables false

theorem ret_int {k : IntKind} {a b : Int} (h : a = b) : Ending.returned (.int k a) = .returned (.int k b) := by rw [h]
theorem ret_bool {a b : Bool} (h : a = b) : Ending.returned (.bool a) = .returned (.bool b) := by rw [h]

/-- The world after some draws. -/
def Drawn (w w' : World) : Prop := ∃ n, w' = w.drewN n
theorem Drawn.refl (w : World) : Drawn w w := ⟨0, rfl⟩
theorem Drawn.drewN {w w' : World} (h : Drawn w w') (n : Nat) : Drawn w (w'.drewN n) := by
  obtain ⟨m, rfl⟩ := h
  exact ⟨m + n, by rw [World.drewN_drewN]⟩
theorem Drawn.cell {w w' : World} (h : Drawn w w') (a : Addr) : w'.cell? a = w.cell? a := by
  obtain ⟨m, rfl⟩ := h
  rfl
theorem Drawn.below {w w' : World} (h : Drawn w w') (B : Nat) : Below B w w' := by
  obtain ⟨m, rfl⟩ := h
  exact below_drewN (Below.refl _ _) m

/-- A permission. -/
structure Pm where
  neg : Bool
  lvl : Int
  typ : ByteArray
  any : Bool
  ids : List Int
  act : ByteArray

/-- Its 21 cells. -/
def pc (p : Pm) : List Value := .bool p.neg :: .int .u8 p.lvl :: .string p.typ :: .bool p.any :: (p.ids.map (Value.int .u8) ++ [.string p.act])

structure Pm.ok (p : Pm) : Prop where
  ids : p.ids.length = 16
  typ : p.typ.size ≤ 9223372036854775807
  act : p.act.size ≤ 9223372036854775807

theorem pc_len {p : Pm} (h : p.ok) : (pc p).length = 21 := by simp [pc, h.ids]
theorem pc_one (p : Pm) : ∀ v ∈ pc p, v.oneCell' = true := by
  intro v hv
  simp only [pc, List.mem_cons, List.mem_append, List.mem_map, List.not_mem_nil, or_false] at hv
  rcases hv with rfl | rfl | rfl | rfl | ⟨_, _, rfl⟩ | rfl <;> rfl
theorem pc0 (p : Pm) : (pc p)[0]? = some (.bool p.neg) := rfl
theorem pc1 (p : Pm) : (pc p)[1]? = some (.int .u8 p.lvl) := rfl
theorem pc2 (p : Pm) : (pc p)[2]? = some (.string p.typ) := rfl
theorem pc3 (p : Pm) : (pc p)[3]? = some (.bool p.any) := rfl
theorem pc20 {p : Pm} (h : p.ok) : (pc p)[20]? = some (.string p.act) := by
  simp [pc, h.ids]
theorem pc_id {p : Pm} (h : p.ok) (j : Nat) (hj : j < 16) : (pc p)[4 + j]? = (p.ids.map (Value.int .u8))[j]? := by
  rw [show 4 + j = j + 1 + 1 + 1 + 1 by omega]
  simp only [pc, List.getElem?_cons_succ]
  rw [List.getElem?_append_left (by simp [h.ids]; exact hj)]

theorem range_of_alloc (w : World) (cs : List Value) (t : TypeId) : (w.alloc (.cells cs.toArray t)).rangeAt w.heap.size 0 cs := fun j v hv => by
  rw [Nat.zero_add, World.cell?_alloc_at (hn := rfl)]
  simpa using hv

/-- The ID's range inside a permission's range. -/
theorem range_id {w : World} {b o : Nat} {p : Pm} (h : p.ok) (hr : w.rangeAt b o (pc p)) : w.rangeAt b (o + 4) (p.ids.map (Value.int .u8)) := fun j v hv => by
  have hj : j < 16 := by
    have := (List.getElem?_eq_some_iff.1 hv).1
    simpa [h.ids] using this
  rw [Nat.add_assoc]
  exact hr (4 + j) v (by rw [pc_id h j hj]; exact hv)

theorem size35 : (Try.prog.info? 35).map (·.size) = some 16 := by kernel_rfl
theorem size37 : (Try.prog.info? 37).map (·.size) = some 21 := by kernel_rfl
theorem size40 : (Try.prog.info? 40).map (·.size) = some 21 := by kernel_rfl

theorem run_load35 (w : World) (b o : Nat) (ids : List Int) (hl : ids.length = 16) (hr : w.rangeAt b o (ids.map (Value.int .u8))) :
    (Instr.loadAt 35 (.pointer (some ⟨b, o, none⟩))).run Try.prog w = .ok (.agg (ids.map (Value.int .u8)).toArray) w :=
  run_loadAt_mid w b o 35 _ _ hr Try.underlying35 rfl (by rw [size35]; simp [hl])

theorem wpList_build {P : Program} {ops : Array Oper} {rest : List Oper} {op : Oper} {a : Act} {w : World} {Q : Exit → Act → World → Prop} (hgd : op.guard = none) (t : TypeId) (parts : List (Nat × Operand)) (ho : op.op = .build t parts.toArray)
    (vals : List (Nat × Value)) (hv : (parts.map fun (i, x) => (i, a.eval x)) = vals) (v : Value) (hrun : (Instr.build t vals.toArray).run P w = .ok v w)
    (h : wpList P ops Q rest (a.put op.dst v) w) : wpList P ops Q (op :: rest) a w :=
  wpList_plain hgd fun _ hK => by
    unfold Oper.wp execOp
    simp only [ho, List.map_toArray, hv, Sem.run_bind, hrun, Result.andThen_ok]
    exact hK _ _ h

theorem there_new (w : World) (C : Array Value) (t : TypeId) : (w.alloc (.cells C t)).there w.heap.size 0 C.size := fun j hj => by
  rw [Nat.zero_add, World.cell?_alloc_at (hn := rfl)]
  refine ⟨by simp [hj], ?_⟩
  simp only [World.frozen?, heap_alloc_new]
  simp

theorem results_cell {fn : Func} {p : Tmp} {ty : TypeId} (h : fn.results = #[.cell p ty]) (tmps : Array Value) (P : Program) (w : World) (ad : Addr) (v : Value) (hp : tmps.getD p undef = .pointer (some ad)) (hl : (loadVar ty ad).run P w = .ok v w) :
    (results fn tmps).run P w = .ok v w := by
  simp only [results, h]
  simp [-Array.getD_eq_getD_getElem?, hp, asAddr, hl]

theorem below_setCells {B b : Nat} {w0 : World} (hB : B ≤ b) : ∀ {w : World} (h : Below B w0 w) (o : Nat) (vs : List Value), Below B w0 (w.setCells b o vs) := by
  intro w h o vs
  induction vs generalizing w o with
  | nil => exact h
  | cons v vs ih => exact ih (h.setCell (p := ⟨b, o, none⟩) hB v) (o + 1)

theorem sixteen {ids : List Int} (h : ids.length = 16) : ∃ i0 i1 i2 i3 i4 i5 i6 i7 i8 i9 i10 i11 i12 i13 i14 i15, ids = [i0, i1, i2, i3, i4, i5, i6, i7, i8, i9, i10, i11, i12, i13, i14, i15] := by
  match ids, h with
  | [i0, i1, i2, i3, i4, i5, i6, i7, i8, i9, i10, i11, i12, i13, i14, i15], _ => exact ⟨i0, i1, i2, i3, i4, i5, i6, i7, i8, i9, i10, i11, i12, i13, i14, i15, rfl⟩

theorem run_build40 (p : Pm) (h : p.ok) (w : World) :
    (Instr.build 40 #[(0, .bool p.neg), (1, .int .u8 p.lvl), (2, .string p.typ), (3, .bool p.any), (4, .agg (p.ids.map (Value.int .u8)).toArray), (5, .string p.act)]).run Try.prog w = .ok (.agg (pc p).toArray) w := by
  obtain ⟨n, l, t, a, ids, c⟩ := p
  obtain ⟨i0, i1, i2, i3, i4, i5, i6, i7, i8, i9, i10, i11, i12, i13, i14, i15, rfl⟩ := sixteen h.ids
  kernel_rfl

set_option maxRecDepth 100000 in
set_option maxHeartbeats 1000000 in
theorem toPerm_any (p : Pm) (hp : p.ok) (w : World) :
    Calls Try.prog 10 #[.agg (pc p).toArray] w fun e w' => e = .returned (.agg (pc p).toArray) ∧ Below w.heap.size w w' := by
  have h0 := pc0 p
  have h1 := pc1 p
  have h2 := pc2 p
  have h3 := pc3 p
  have h20 := pc20 hp
  have hr : ∀ ob, ((w.alloc (.cells (pc p).toArray 37)).alloc ob).rangeAt w.heap.size 4 (p.ids.map (Value.int .u8)) := fun ob => by
    have := World.rangeAt_alloc (range_id hp (range_of_alloc w (pc p) 37)) ob
    simpa using this
  have hs : (Try.prog.info? 35).map (·.size) = some (p.ids.map (Value.int .u8)).length := by rw [size35]; simp [hp.ids]
  have HR := (show Hid (∀ ob, ((w.alloc (.cells (pc p).toArray 37)).alloc ob).rangeAt w.heap.size 4 (p.ids.map (Value.int .u8))) from hr)
  have HS := (show Hid ((Try.prog.info? 35).map (·.size) = some (p.ids.map (Value.int .u8)).length) from hs)
  clear hr hs
  go_enter Try.func10, Try.ntmps10
  go_wp2_with (first
    | refine wpList_load_mid (by rfl) 35 (.tmp 11) (by rfl) w.heap.size 4 (by rfl) (p.ids.map (Value.int .u8)) _ (HR.out _) Try.underlying35 rfl HS.out ?_
    | refine wpList_build (by rfl) 40 [(0, .tmp 4), (1, .tmp 6), (2, .tmp 8), (3, .tmp 10), (4, .tmp 12), (5, .tmp 14)] (by rfl) [(0, .bool p.neg), (1, .int .u8 p.lvl), (2, .string p.typ), (3, .bool p.any), (4, .agg (p.ids.map (Value.int .u8)).toArray), (5, .string p.act)] (by rfl) (.agg (pc p).toArray) (run_build40 p hp _) ?_
    | refine wpList_store_mid (by rfl) 40 (.tmp 2) (.tmp 15) (by rfl) (w.heap.size + 1) 0 (pc p).toArray (by rfl) (by rfl) ?th ?sz ?one ?_)
  case th =>
    have e : (pc p).toArray.size = 21 := by simp [pc_len hp]
    rw [e]
    have := there_new (w.alloc (.cells (pc p).toArray 37)) #[.bool false, .int .u8 0, .string { data := #[] }, .bool false, .int .u8 0, .int .u8 0, .int .u8 0, .int .u8 0, .int .u8 0, .int .u8 0, .int .u8 0, .int .u8 0, .int .u8 0, .int .u8 0, .int .u8 0, .int .u8 0, .int .u8 0, .int .u8 0, .int .u8 0, .int .u8 0, .string { data := #[] }] 40
    rw [World.size_alloc] at this
    exact this
  case sz => rw [size40]; simp [pc_len hp]
  case one => exact all_oneCell_toArray (pc_one p)
  · have hth : ((w.alloc (.cells (pc p).toArray 37)).alloc (.cells #[.bool false, .int .u8 0, .string { data := #[] }, .bool false, .int .u8 0, .int .u8 0, .int .u8 0, .int .u8 0, .int .u8 0, .int .u8 0, .int .u8 0, .int .u8 0, .int .u8 0, .int .u8 0, .int .u8 0, .int .u8 0, .int .u8 0, .int .u8 0, .int .u8 0, .int .u8 0, .string { data := #[] }] 40)).there (w.heap.size + 1) 0 (pc p).length := by
      rw [pc_len hp]
      have := there_new (w.alloc (.cells (pc p).toArray 37)) #[.bool false, .int .u8 0, .string { data := #[] }, .bool false, .int .u8 0, .int .u8 0, .int .u8 0, .int .u8 0, .int .u8 0, .int .u8 0, .int .u8 0, .int .u8 0, .int .u8 0, .int .u8 0, .int .u8 0, .int .u8 0, .int .u8 0, .int .u8 0, .int .u8 0, .int .u8 0, .string { data := #[] }] 40
      rw [World.size_alloc] at this
      exact this
    have hrr := World.rangeAt_setCells_same _ (w.heap.size + 1) 0 (pc p) hth
    refine bodyPost_ret (v := .agg (pc p).toArray) ?_ rfl ⟨rfl, ?_⟩
    · exact results_cell Try.results10 _ _ _ ⟨w.heap.size + 1, 0, none⟩ _ rfl (run_loadVar_mid _ _ _ 40 _ _ hrr Try.underlying40 rfl (by rw [size40, pc_len hp]))
    · exact below_setCells (by omega) (((Below.refl _ _).alloc (Nat.le_refl _) _).alloc (by simp) _) _ _

end Go.Proofs.Qxb6617219a.Base
