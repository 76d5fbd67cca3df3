import Derived.Test.Qxb6617219aFold
namespace Go.Proofs.Qxb6617219a.Base
open Go.ChangeShapes Go.WideShapes Go.ChangeAt Go.RowKit
set_option linter.unusedVariables false

theorem info40 : (Try.prog.info? 40).map (fun i => (i.zero.isSome, i.size, i.bytes)) = some (true, 21, 64) := by kernel_rfl

theorem run_make_perms (W : World) (n : Nat) (hn : n ≤ 2097152) :
    ∃ C : Array Value, C.size = n * 21 ∧ (Instr.makeSlice 25 (.int .i64 n) (.int .i64 n)).run Try.prog W = .ok (.slice (some ⟨W.heap.size, 0, none⟩) n n) (W.alloc (.cells C 40)) := by
  obtain ⟨i, hi, hzz⟩ := Option.map_eq_some_iff.1 info40
  simp only [Prod.mk.injEq] at hzz
  obtain ⟨h0, h1, h2⟩ := hzz
  obtain ⟨z, hz⟩ := Option.isSome_iff_exists.1 h0
  have := run_make (P := Try.prog) W 25 40 i z Try.underlying25 hi hz .i64 .i64 n n (by omega) (by omega) (by rw [h2]; omega) (by omega)
  refine ⟨madeCells z.cells (n * 21), size_madeCells _ _, ?_⟩
  rw [this, h1]
  simp

theorem there_below {w w' : World} {b o n : Nat} (h : w.there b o n) (hb : Below w.heap.size w w') (hlt : b < w.heap.size) : w'.there b o n := fun j hj => by
  obtain ⟨h1, h2⟩ := h j hj
  exact ⟨by rw [hb.cell (by exact hlt)]; exact h1, by rw [hb.frozen (by exact hlt)]; exact h2⟩

set_option maxRecDepth 100000 in
set_option maxHeartbeats 1000000 in
theorem toPerms_any {a : Option Addr} {len cap : Nat} {ps : List Pm} {w : World} (h : Pms w a len ps) (hn : len ≤ 2097152) (hnil : a = none → len = 0) :
    Calls Try.prog 7 #[.slice a len cap] w fun r w' => ∃ ao, r = .returned (.slice ao len len) ∧ Pms w' ao len ps ∧ Below w.heap.size w w' := by
  have heq := fun (w : World) (a : Option Addr) (n c : Nat) => Lib.run_eql_slice_nil (P := Try.prog) w 22 37 a n c 0 0 Try.underlying22
  cases a with
  | none =>
    obtain rfl := hnil rfl
    go_enter Try.func7, Try.ntmps7
    go_wp2_with fail
    go_ret
    exact ⟨none, rfl, h, Below.refl _ _⟩
  | some x =>
  obtain ⟨C, hC, hmk⟩ := run_make_perms w len hn
  have HN : Hid (ps.length = len) := h.hlen
  have T0 : Hid ((w.alloc (.cells C 40)).there w.heap.size 0 (len * 21)) := by
    show World.there _ _ _ _
    rw [← hC]
    exact there_new _ _ _
  clear hC
  go_enter Try.func7, Try.ntmps7
  go_wp2_with fail
  clear hmk heq
  go_loopg [12] len (fun gk i wr => ∃ k : Nat, k ≤ len ∧ Hid (gk = len - k) ∧ i = .int .i64 k ∧ Hid (∀ i, i < k → wr.rangeAt w.heap.size (i * 21) (pc (gP ps i))) ∧ Hid (wr.there w.heap.size 0 (len * 21)) ∧ Below w.heap.size w wr ∧ w.heap.size < wr.heap.size)
  case atStart => exact ⟨0, Nat.zero_le _, rfl, rfl, fun i hi => absurd hi (by omega), T0, (Below.refl _ _).alloc (Nat.le_refl _) _, by simp⟩
  case round =>
  clear T0
  obtain ⟨k, hk, hg, rfl, hE, hT, hB, hsz⟩ := hrel
  by_cases hlt : k < len
  · have hkl : k < ps.length := by rw [HN.out]; exact hlt
    have hp := h.ok _ (gP_mem hkl)
    obtain ⟨b, off, hx, hc⟩ := h.cells (by omega)
    obtain rfl : x = ⟨b, off, none⟩ := by simpa using hx
    clear hx
    have R1 : Hid (wr.rangeAt b (off + k * 21) (pc (gP ps k))) := rangeAt_below (hc k hlt) hB
    obtain ⟨p, hpp⟩ : ∃ p, gP ps k = p := ⟨_, rfl⟩
    rw [hpp] at R1 hp
    have HP : Hid (gP ps k = p) := hpp
    have S0 : Hid ((Try.prog.info? 37).map (·.size) = some (pc p).length) := by show _ = _; rw [size37, pc_len hp]
    have S2 : Hid ((Try.prog.info? 40).map (·.size) = some (pc p).toArray.size) := by show _ = _; rw [size40]; simp [pc_len hp]
    have S3 : Hid ((pc p).toArray.all (·.oneCell') = true) := all_oneCell_toArray (pc_one p)
    have i1 : (k : Int) < len := by omega
    clear hc hpp
    go_wp2_with (refine wpList_load_mid (by rfl) 37 (.tmp 19) (by rfl) b (off + k * 21) (by rfl) (pc p) _ R1.out Try.underlying37 rfl S0.out ?_)
    refine (toPerm_any p hp _).mono ?_
    rintro r w5 ⟨rfl, hS⟩
    have T5 : Hid (w5.there w.heap.size (k * 21) (pc p).toArray.size) := by
      have ht := there_below hT.out hS hsz
      intro j hj
      have e : (pc p).toArray.size = 21 := by simp [pc_len hp]
      have := ht (k * 21 + j) (by rw [e] at hj; omega)
      simpa using this
    go_wp2_with (refine wpList_store_mid (by rfl) 40 (.tmp 22) (.tmp 21) (by rfl) w.heap.size (k * 21) (pc p).toArray (by rfl) (by rfl) T5.out S2.out S3.out ?_)
    go_roundg (len - (k + 1))
    case measure => have := hg.out; omega
    case rel =>
      go_light
      have e : (pc p).toArray.size = (pc p).length := by simp
      have hth : w5.there w.heap.size (k * 21) (pc p).length := by rw [← e]; exact T5.out
      refine ⟨k + 1, by omega, rfl, by go_num, fun i hi => ?_, World.there_setCells (there_below hT.out hS hsz) _ _ _, below_setCells (Nat.le_refl _) (hB.trans (hS.mono hB.size)) _ _, ?_⟩
      · by_cases hik : i = k
        · subst hik
          rw [HP.out]
          exact World.rangeAt_setCells_same _ _ _ _ hth
        · refine World.rangeAt_setCells_apart (rangeAt_below (hE.out i (by omega)) hS) _ _ _ (.inr (.inl ?_))
          rw [pc_len (h.ok _ (gP_mem (by rw [HN.out]; omega)))]
          omega
      · have h1 := hS.size
        have h2 := (below_setCells (Nat.zero_le w.heap.size) (Below.refl 0 w5) (k * 21) (pc p)).size
        exact Nat.lt_of_lt_of_le hsz (Nat.le_trans h1 h2)
  obtain rfl : k = len := by omega
  clear hg
  go_wp2_with fail
  go_ret
  refine ⟨_, rfl, ⟨h.hlen, h.ok, fun h0 => ⟨w.heap.size, 0, rfl, fun i hi => ?_⟩⟩, hB⟩
  rw [Nat.zero_add]
  exact hE.out i hi

/-- A number comes back; the world has drawn. -/
def SomeInt (w : World) (r : Ending) (w' : World) : Prop := ∃ n : Int, r = .returned (.int .i64 n) ∧ Drawn w w'

set_option maxRecDepth 100000 in
set_option maxHeartbeats 1000000 in
theorem permBytes_any {a : Option Addr} {len cap : Nat} {ps : List Pm} {w : World} (h : Pms w a len ps) (hl : len ≤ 9223372036854775807) (n : Int) (h0 : 0 ≤ n) (h1 : n ≤ 8388608) :
    Calls Try.prog 6 #[.int .i64 n, .slice a len cap] w (SomeInt w) := by
  by_cases g1 : n > 1048576
  · go_enter Try.func6, Try.ntmps6
    go_wp2_with fail
    go_ret
    exact ⟨_, rfl, Drawn.refl _⟩
  by_cases g2 : (len : Int) > 1048576
  · go_enter Try.func6, Try.ntmps6
    go_wp2_with fail
    go_ret
    exact ⟨_, rfl, Drawn.refl _⟩
  have HN : Hid (ps.length = len) := h.hlen
  go_enter Try.func6, Try.ntmps6
  go_wp2_with fail
  go_loopg [0, 20] len (fun gk s i wr => ∃ (k : Nat) (v : Int), k ≤ len ∧ Hid (gk = len - k) ∧ i = .int .i64 k ∧ s = .int .i64 v ∧ 0 ≤ v ∧ v ≤ 134217728 ∧ Drawn w wr)
  case atStart => exact ⟨0, _, Nat.zero_le _, rfl, rfl, rfl, by omega, by omega, Drawn.refl _⟩
  case round =>
  obtain ⟨k, v, hk, hg, rfl, rfl, v0, v1, hD⟩ := hrel
  by_cases hlt : k < len
  · by_cases gv : v > 1048576
    · go_wp2_with fail
      go_ret
      exact ⟨_, rfl, hD⟩
    have hkl : k < ps.length := by rw [HN.out]; exact hlt
    have hp := h.ok _ (gP_mem hkl)
    obtain ⟨b, off, rfl, hc⟩ := h.cells (by omega)
    have c2 := hc k hlt 2 _ (pc2 _)
    have c20 := hc k hlt 20 _ (pc20 hp)
    rw [← hD.cell] at c2 c20
    have z2 := hp.typ
    have z20 := hp.act
    generalize gP ps k = p at *
    have i1 : (k : Int) < len := by omega
    clear hc
    by_cases gt : (p.typ.size : Int) > 1048576
    · go_wp2_with fail
      go_ret
      exact ⟨_, rfl, hD⟩
    by_cases ga : (p.act.size : Int) > 1048576
    · go_wp2_with fail
      go_ret
      exact ⟨_, rfl, hD⟩
    go_wp2_with fail
    go_quiet (fail)
    go_wp2_with fail
    go_roundg (len - (k + 1))
    case measure => have := hg.out; omega
    case rel => exact ⟨k + 1, _, by omega, rfl, by go_num, rfl, by omega, by omega, hD.drewN _⟩
  clear hg
  go_wp2_with fail
  go_ret
  exact ⟨_, rfl, hD⟩

end Go.Proofs.Qxb6617219a.Base
