import Derived.Test.Qxb6617219aMatch
namespace Go.Proofs.Qxb6617219a.Base
open Go.ChangeShapes Go.WideShapes Go.ChangeAt Go.RowKit
set_option linter.unusedVariables false

theorem three (a b : Bool) : a = true ∨ (a = false ∧ b = true) ∨ (a = false ∧ b = false) := by cases a <;> cases b <;> simp

/-- The object: its type and its id. -/
structure Obj6 (w : World) (ob : Nat) (ty : ByteArray) (ptr : Option Addr) (oid : Option (List Int)) : Prop where
  c0 : w.cell? ⟨ob, 0, none⟩ = some (.string ty)
  c1 : w.cell? ⟨ob, 1, none⟩ = some (.pointer ptr)
  id : OId w ptr oid

theorem Obj6.below {w w' : World} {ob : Nat} {ty : ByteArray} {ptr : Option Addr} {oid : Option (List Int)} (h : Obj6 w ob ty ptr oid) (hb : Below w.heap.size w w') : Obj6 w' ob ty ptr oid :=
  ⟨by rw [hb.cell (World.block_lt_of_cell? w _ h.c0), h.c0], by rw [hb.cell (World.block_lt_of_cell? w _ h.c1), h.c1], h.id.below hb⟩

set_option maxRecDepth 100000 in
set_option maxHeartbeats 4000000 in
theorem matches_any (p : Pm) (hp : p.ok) (act ty : ByteArray) (ob : Nat) (ptr : Option Addr) (oid : Option (List Int)) (w : World) (ho : Obj6 w ob ty ptr oid) :
    Calls Try.prog 19 #[.agg (pc p).toArray, .string act, .pointer (some ⟨ob, 0, none⟩)] w fun e w' => e = .returned (.bool (isFor p act ty oid)) ∧ Below w.heap.size w w' := by
  have hal := (Below.refl w.heap.size w).alloc (Nat.le_refl _) (.cells (pc p).toArray 40)
  have hrg := range_of_alloc w (pc p) 40
  have h2 := hrg 2 _ (pc2 p)
  have h3 := hrg 3 _ (pc3 p)
  have h20 := hrg 20 _ (pc20 hp)
  have hid := range_id hp hrg
  simp only [Nat.zero_add] at h2 h3 h20 hid
  obtain ⟨o0, o1, oW⟩ := ho.below hal
  obtain ⟨R, hR⟩ : ∃ R, isFor p act ty oid = R := ⟨_, rfl⟩
  rw [hR]
  have HR : Hid (isFor p act ty oid = R) := hR
  clear hR hrg ho
  go_enter Try.func19, Try.ntmps19
  go_upto_region 1 with fail
  generalize w.alloc (.cells (pc p).toArray 40) = W at *
  have P1 : Hid (p.ids.length = 16) := hp.ids
  have Q2 : Hid (∀ w', (∃ n, w' = W.drewN n) → w'.rangeAt w.heap.size 4 (p.ids.map (Value.int .u8))) := by rintro _ ⟨n, rfl⟩; exact hid
  clear hid
  rcases three (p.typ.toList == [42]) (p.typ.toList == ty.toList) with ht1 | ⟨ht1, ht2⟩ | ⟨ht1, ht2⟩
  rotate_left 2
  · have hf : R = false := by rw [← HR.out]; simp [isFor, tyFor, ht1, ht2]
    have HF : Hid (R = false) := hf
    clear hf HR
    go_wp2_with fail
    refine wp_region_quiet_lit (by kernel_rfl) (by kernel_rfl) ?_
    repeat (first
      | go_big_quiet_skip
      | (go_big_quiet_want; first
          | (go_big_quiet_op; go_big_quiet_on)))
    refine wpQuiet_nil ?_
    intro _ hw'
    obtain ⟨nq, hw''⟩ := hw'
    subst hw''
    go_wp2_with fail
    go_ret
    exact ⟨ret_bool HF.out.symm, below_drewN hal _⟩
  all_goals
    have hT : Hid (tyFor p.typ ty = true) := by first | simp [Hid, tyFor, ht1, ht2] | simp [Hid, tyFor, ht1]
    rcases three (p.act.toList == [42]) (p.act.toList == act.toList) with ht3 | ⟨ht3, ht4⟩ | ⟨ht3, ht4⟩
    rotate_left 2
    · have hf : R = false := by rw [← HR.out]; simp [isFor, tyFor, ht3, ht4]
      have HF : Hid (R = false) := hf
      clear hf HR
      go_wp2_with fail
      refine wp_region_quiet_lit (by kernel_rfl) (by kernel_rfl) ?_
      repeat (first
        | go_big_quiet_skip
        | (go_big_quiet_want; first
            | (go_big_quiet_op; go_big_quiet_on)))
      refine wpQuiet_nil ?_
      intro _ hw'
      obtain ⟨nq, hw''⟩ := hw'
      subst hw''
      go_wp2_with fail
      go_ret
      exact ⟨ret_bool HF.out.symm, below_drewN hal _⟩
    all_goals
      have hA : Hid (tyFor p.act act = true) := by first | simp [Hid, tyFor, ht3, ht4] | simp [Hid, tyFor, ht3]
      cases ht5 : p.any
      · rw [ht5] at h3
        rcases oW with ⟨rfl, rfl⟩ | ⟨b, o, ids, rfl, rfl, hl, hr⟩
        · have hf : R = false := by rw [← HR.out]; simp [isFor, hT.out, hA.out, idFor, ht5]
          have HF : Hid (R = false) := hf
          clear hf hT hA HR ht5
          go_wp2_with fail
          refine wp_region_quiet_lit (by kernel_rfl) (by kernel_rfl) ?_
          repeat (first
            | go_big_quiet_skip
            | (go_big_quiet_want; first
                | (go_big_quiet_op; go_big_quiet_on)))
          refine wpQuiet_nil ?_
          intro _ hw'
          obtain ⟨nq, hw''⟩ := hw'
          subst hw''
          go_wp2_with fail
          go_ret
          exact ⟨ret_bool HF.out.symm, below_drewN hal _⟩
        · have hf : R = eqIds ids p.ids := by rw [← HR.out]; simp [isFor, hT.out, hA.out, idFor, ht5]
          have HE : Hid (R = eqIds ids p.ids) := hf
          have heq := fun n => run_equal35 (W.drewN n) ids p.ids hl hp.ids
          have Q1 : Hid (∀ w', (∃ n, w' = W.drewN n) → w'.rangeAt b o (ids.map (Value.int .u8))) := by rintro _ ⟨n, rfl⟩; exact hr
          have P2 : Hid (ids.length = 16) := hl
          clear hl hr hf hT hA HR ht5
          go_wp2_with fail
          refine wp_region_quiet_lit (by kernel_rfl) (by kernel_rfl) ?_
          repeat (first
            | go_big_quiet_skip
            | (go_big_quiet_want; first
                | (refine quiet_load35 (.tmp 44) (by rfl) b o (by rfl) ids P2.out Q1.out ?_; simp only [Act.put, List.setIfInBounds_toArray, List.set_cons_succ, List.set_cons_zero]; go_big_quiet_on)
                | (refine quiet_load35 (.tmp 46) (by rfl) w.heap.size 4 (by rfl) p.ids P1.out Q2.out ?_; simp only [Act.put, List.setIfInBounds_toArray, List.set_cons_succ, List.set_cons_zero]; go_big_quiet_on)
                | (go_big_quiet_op; go_big_quiet_on)))
          refine wpQuiet_nil ?_
          intro _ hw'
          obtain ⟨nq, hw''⟩ := hw'
          subst hw''
          go_wp2_with fail
          go_ret
          exact ⟨ret_bool HE.out.symm, below_drewN hal _⟩
      · rw [ht5] at h3
        have hf : R = true := by rw [← HR.out]; simp [isFor, hT.out, hA.out, idFor, ht5]
        have HF : Hid (R = true) := hf
        clear hf hT hA HR ht5
        go_wp2_with fail
        refine wp_region_quiet_lit (by kernel_rfl) (by kernel_rfl) ?_
        repeat (first
          | go_big_quiet_skip
          | (go_big_quiet_want; first
              | (go_big_quiet_op; go_big_quiet_on)))
        refine wpQuiet_nil ?_
        intro _ hw'
        obtain ⟨nq, hw''⟩ := hw'
        subst hw''
        go_wp2_with fail
        go_ret
        exact ⟨ret_bool HF.out.symm, below_drewN hal _⟩

end Go.Proofs.Qxb6617219a.Base
