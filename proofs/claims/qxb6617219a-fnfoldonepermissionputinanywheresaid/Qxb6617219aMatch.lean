import Derived.Test.Qxb6617219aBase
namespace Go.Proofs.Qxb6617219a.Base
open Go.ChangeShapes Go.WideShapes Go.ChangeAt Go.RowKit
set_option linter.unusedVariables false

/-- Are two ids the same? -/
def eqIds (xs ys : List Int) : Bool := (List.range 16).all fun i => xs.getD i 0 == ys.getD i 0

theorem run_equal35 (w : World) (xs ys : List Int) (hx : xs.length = 16) (hy : ys.length = 16) :
    (Op.equalIn 10000 35 (.agg (xs.map (Value.int .u8)).toArray) (.agg (ys.map (Value.int .u8)).toArray)).run Try.prog w = .ok (eqIds xs ys) w := by
  obtain ⟨i5, hi5, hz5⟩ : ∃ i, Try.prog.info? 5 = some i ∧ i.size = 1 := by
    have : (Try.prog.info? 5).map (·.size) = some 1 := by kernel_rfl
    cases h : Try.prog.info? 5 with
    | none => simp [h] at this
    | some i => exact ⟨i, rfl, by simpa [h] using this⟩
  have hsz : ∀ w, (sizeOf 5).run Try.prog w = .ok 1 w := fun w => by simp [sizeOf, typeInfo, hi5, hz5]
  unfold eqIds
  rw [List.range_eq_range', show (10000 : Nat) = 9998 + 1 + 1 from rfl, Op.equalIn]
  simp only [Sem.run_bind, run_underlying Try.underlying35, Result.andThen_ok, hsz, Std.Legacy.Range.forIn_eq_forIn_range', Std.Legacy.Range.size, Nat.sub_zero, Nat.add_sub_cancel, Nat.div_one]
  have hl : ∀ i ∈ List.range' 0 16 1, i < 16 := fun i hi => by simpa using (List.mem_range'_1.1 hi).2
  generalize List.range' 0 16 1 = l at hl ⊢
  induction l with
  | nil => simp
  | cons i l ih =>
    have hi : i < 16 := hl i (by simp)
    have px : ∀ zs : List Int, zs.length = 16 → (part 5 (zs.map (Value.int .u8)).toArray (i * 1)).run Try.prog w = .ok (.int .u8 (zs.getD i 0)) w := fun zs hz => by
      simp [part, isAgg, run_underlying Try.underlying5, List.getD, List.getElem?_eq_getElem (show i < zs.length by omega)]
    have pe : (Op.equalIn (9998 + 1) 5 (.int .u8 (xs.getD i 0)) (.int .u8 (ys.getD i 0))).run Try.prog w = .ok (xs.getD i 0 == ys.getD i 0) w := run_equalIn_int w 9998 5 .u8 .u8 _ _ Try.underlying5
    simp only [List.forIn_cons, Sem.run_bind, px xs hx, px ys hy, pe, Result.andThen_ok, List.all_cons]
    cases hb : (xs.getD i 0 == ys.getD i 0)
    · simp
    · simp only [Bool.not_true, Bool.false_eq_true, if_false, Sem.run_pure, Result.andThen_ok, Bool.true_and]
      exact ih fun j hj => hl j (by simp [hj])

/-- The load of an id in a quiet walk. -/
theorem quiet_load35 {op : Oper} {a : Act} {C : World → Prop} {K : Act → Prop} (x : Operand) (ho : op.op = .load 35 x) (b o : Nat) (hx : a.eval x = .pointer (some ⟨b, o, none⟩)) (ids : List Int) (hl : ids.length = 16)
    (hc : ∀ w, C w → w.rangeAt b o (ids.map (Value.int .u8))) (hk : K (a.put op.dst (.agg (ids.map (Value.int .u8)).toArray))) : op.quiet Try.prog a C K :=
  ⟨_, fun w hw => by
    unfold Oper.quietAt execOp
    simp only [ho, hx, Sem.run_bind, run_load35 w b o ids hl (hc w hw), Result.andThen_ok, Sem.run_pure]
    exact ⟨rfl, rfl⟩, hk⟩

/-- What the object's id is, and where it lies. -/
def OId (w : World) (ptr : Option Addr) (oid : Option (List Int)) : Prop :=
  (ptr = none ∧ oid = none) ∨ ∃ b o ids, ptr = some ⟨b, o, none⟩ ∧ oid = some ids ∧ ids.length = 16 ∧ w.rangeAt b o (ids.map (Value.int .u8))

theorem OId.below {w w' : World} {ptr : Option Addr} {oid : Option (List Int)} (h : OId w ptr oid) (hb : Below w.heap.size w w') : OId w' ptr oid := by
  rcases h with ⟨rfl, rfl⟩ | ⟨b, o, ids, rfl, rfl, hl, hr⟩
  · exact .inl ⟨rfl, rfl⟩
  · refine .inr ⟨b, o, ids, rfl, rfl, hl, fun j v hv => ?_⟩
    have := hr j v hv
    rw [hb.cell (World.block_lt_of_cell? w _ this), this]

/-- Is the permission for the object's id? -/
def idFor (p : Pm) (oid : Option (List Int)) : Bool := p.any || match oid with | none => false | some ids => eqIds ids p.ids
def tyFor (s q : ByteArray) : Bool := s.toList == [42] || s.toList == q.toList
def isFor (p : Pm) (act ty : ByteArray) (oid : Option (List Int)) : Bool := tyFor p.typ ty && tyFor p.act act && idFor p oid

set_option maxRecDepth 100000 in
set_option maxHeartbeats 1000000 in
theorem permFor_any (p : Pm) (hp : p.ok) (act ty : ByteArray) (ptr : Option Addr) (oid : Option (List Int)) (w : World) (ho : OId w ptr oid) :
    Calls Try.prog 11 #[.agg (pc p).toArray, .string act, .string ty, .pointer ptr] w fun e w' => e = .returned (.bool (isFor p act ty oid)) ∧ Below w.heap.size w w' := by
  have hal := (Below.refl w.heap.size w).alloc (Nat.le_refl _) (.cells (pc p).toArray 37)
  have hrg := range_of_alloc w (pc p) 37
  have h2 := hrg 2 _ (pc2 p)
  have h3 := hrg 3 _ (pc3 p)
  have h20 := hrg 20 _ (pc20 hp)
  have hid := range_id hp hrg
  simp only [Nat.zero_add] at h2 h3 h20 hid
  have oW := ho.below hal
  obtain ⟨R, hR⟩ : ∃ R, isFor p act ty oid = R := ⟨_, rfl⟩
  rw [hR]
  have HR : Hid (isFor p act ty oid = R) := hR
  clear hR hrg ho
  go_enter Try.func11, Try.ntmps11
  go_upto_region 1 with fail
  generalize w.alloc (.cells (pc p).toArray 37) = W at *
  cases ht1 : (p.typ.toList == [42]) <;> cases ht2 : (p.typ.toList == ty.toList)
  · go_wp2_with fail
    go_ret
    exact ⟨ret_bool (by rw [← HR.out]; simp [isFor, tyFor, ht1, ht2]), hal⟩
  all_goals
    have hT : tyFor p.typ ty = true := by simp [tyFor, ht1, ht2]
    go_upto_region 3 with fail
    clear ht1 ht2 h2
    cases ht3 : (p.act.toList == [42]) <;> cases ht4 : (p.act.toList == act.toList)
    · go_wp2_with fail
      go_ret
      exact ⟨ret_bool (by rw [← HR.out]; simp [isFor, tyFor, ht3, ht4]), hal⟩
    all_goals
      have hA : tyFor p.act act = true := by simp [tyFor, ht3, ht4]
      go_upto_region 5 with fail
      clear ht3 ht4 h20
      cases ht5 : p.any
      · rw [ht5] at h3
        rcases oW with ⟨rfl, rfl⟩ | ⟨b, o, ids, rfl, rfl, hl, hr⟩
        · have hf : R = false := by rw [← HR.out]; simp [isFor, hT, hA, idFor, ht5]
          clear hT hA HR ht5
          go_wp2_with fail
          go_quiet (fail)
          go_wp2_with fail
          go_ret
          exact ⟨ret_bool hf.symm, below_drewN hal _⟩
        · have hf : R = eqIds ids p.ids := by rw [← HR.out]; simp [isFor, hT, hA, idFor, ht5]
          have HE : Hid (R = eqIds ids p.ids) := hf
          have heq := fun n => run_equal35 (W.drewN n) ids p.ids hl hp.ids
          clear hT hA HR ht5 hf
          have q1 : ∀ w', (∃ n, w' = W.drewN n) → w'.rangeAt b o (ids.map (Value.int .u8)) := by rintro _ ⟨n, rfl⟩; exact hr
          have q2 : ∀ w', (∃ n, w' = W.drewN n) → w'.rangeAt w.heap.size 4 (p.ids.map (Value.int .u8)) := by rintro _ ⟨n, rfl⟩; exact hid
          have Q1 : Hid (∀ w', (∃ n, w' = W.drewN n) → w'.rangeAt b o (ids.map (Value.int .u8))) := q1
          have Q2 : Hid (∀ w', (∃ n, w' = W.drewN n) → w'.rangeAt w.heap.size 4 (p.ids.map (Value.int .u8))) := q2
          have P1 : Hid (p.ids.length = 16) := hp.ids
          have P2 : Hid (ids.length = 16) := hl
          clear hl q1 q2 hr hid
          go_wp2_with fail
          refine wp_region_quiet_lit (by kernel_rfl) (by kernel_rfl) ?_
          repeat (first
            | go_big_quiet_skip
            | (go_big_quiet_want; first
                | (refine quiet_load35 (.tmp 33) (by rfl) b o (by rfl) ids P2.out Q1.out ?_; simp only [Act.put, List.setIfInBounds_toArray, List.set_cons_succ, List.set_cons_zero]; go_big_quiet_on)
                | (refine quiet_load35 (.tmp 35) (by rfl) w.heap.size 4 (by rfl) p.ids P1.out Q2.out ?_; simp only [Act.put, List.setIfInBounds_toArray, List.set_cons_succ, List.set_cons_zero]; go_big_quiet_on)
                | (go_big_quiet_op; go_big_quiet_on)))
          refine wpQuiet_nil ?_
          intro _ hw'
          obtain ⟨nq, hw''⟩ := hw'
          subst hw''
          go_wp2_with fail
          go_ret
          exact ⟨ret_bool HE.out.symm, below_drewN hal _⟩
      · rw [ht5] at h3
        have hf : R = true := by rw [← HR.out]; simp [isFor, hT, hA, idFor, ht5]
        clear hT hA HR ht5
        go_wp2_with fail
        go_ret
        exact ⟨ret_bool hf.symm, hal⟩

end Go.Proofs.Qxb6617219a.Base
