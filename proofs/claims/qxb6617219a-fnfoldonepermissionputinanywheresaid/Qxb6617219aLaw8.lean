import Derived.Test.Qxb6617219aLaw7
namespace Go.Proofs.Qxb6617219a.Base
open Go.ChangeShapes Go.WideShapes Go.ChangeAt Go.RowKit
set_option linter.unusedVariables false

theorem verdict_insert (f : Pm → Bool) (e : Int) (xs ys : List Pm) (p : Pm) :
    verdictP f e (xs ++ p :: ys) = if f p then (if p.neg then 2 else if verdictP f e (xs ++ ys) = 2 then 2 else 1) else verdictP f e (xs ++ ys) := by
  have d0 : cntD f (p :: ys) = (if (f p && p.neg) = true then 1 else 0) + cntD f ys := by
    unfold cntD
    cases hb : (f p && p.neg) <;> simp [hb]; omega
  have a0 : cntA f (p :: ys) = (if (f p && !p.neg) = true then 1 else 0) + cntA f ys := by
    unfold cntA
    cases hb : (f p && !p.neg) <;> simp [hb]; omega
  unfold verdictP
  rw [cntD_append, cntA_append, cntD_append, cntA_append, d0, a0]
  generalize cntD f xs = a
  generalize cntD f ys = b
  generalize cntA f xs = c
  generalize cntA f ys = d
  cases f p with
  | false => simp
  | true =>
    cases p.neg with
    | true =>
      by_cases he : e = 2
      · simp [he]
      · simp [he, show 0 < a + (1 + b) by omega]
    | false =>
      by_cases he : e = 2
      · simp [he]
      · by_cases hab : 0 < a + b
        · simp [he, hab]
        · obtain rfl : a = 0 := by omega
          obtain rfl : b = 0 := by omega
          by_cases hcd : 0 < c + d
          · simp [he, hcd, show 0 < c + (1 + d) by omega]
          · simp [he, hcd, show 0 < c + (1 + d) by omega]

/-- The first n rows of block g hold the first n permissions of qs. -/
def Filled (w : World) (g : Nat) (qs : List Pm) (n : Nat) : Prop := ∀ t, t < n → w.rangeAt g (t * 21) (pc (gP qs t))

theorem filled_below {w w' : World} {g n : Nat} {qs : List Pm} (h : Filled w g qs n) (hb : Below w.heap.size w w') : Filled w' g qs n := fun t ht => rangeAt_below (h t ht) hb

theorem filled_store {w : World} {g n T : Nat} {qs : List Pm} (h : Filled w g qs n) (ok : ∀ p ∈ qs, p.ok) (hn : n < qs.length) (ht : w.there g 0 T) (hT : n * 21 + 21 ≤ T) :
    Filled (w.setCells g (n * 21) (pc (gP qs n))) g qs (n + 1) := by
  have hth : w.there g (n * 21) (pc (gP qs n)).length := fun j hj => by
    rw [pc_len (ok _ (gP_mem hn))] at hj
    have := ht (n * 21 + j) (by omega)
    simpa using this
  intro t htn
  by_cases e : t = n
  · subst e
    exact World.rangeAt_setCells_same _ _ _ _ hth
  · refine World.rangeAt_setCells_apart (h t (by omega)) _ _ _ (.inr (.inl ?_))
    rw [pc_len (ok _ (gP_mem (by omega)))]
    omega

theorem there_at {w : World} {g n T : Nat} {p : Pm} (hp : p.ok) (ht : w.there g 0 T) (hT : n * 21 + 21 ≤ T) : w.there g (n * 21) (pc p).toArray.size := fun j hj => by
  have e : (pc p).toArray.size = 21 := by simp [pc_len hp]
  rw [e] at hj
  have := ht (n * 21 + j) (by omega)
  simpa using this

theorem gP_ins_lt {ps : List Pm} {p : Pm} {i t : Nat} (h : t < i) (hi : i ≤ ps.length) : gP (ps.take i ++ p :: ps.drop i) t = gP ps t := by
  simp only [gP, List.getD]
  rw [List.getElem?_append_left (by simp; omega), List.getElem?_take, if_pos h]
theorem gP_ins_eq {ps : List Pm} {p : Pm} {i : Nat} (hi : i ≤ ps.length) : gP (ps.take i ++ p :: ps.drop i) i = p := by
  simp [gP, List.getD, Nat.min_eq_left hi]
theorem gP_ins_gt {ps : List Pm} {p : Pm} {i t : Nat} (h : i ≤ t) (ht : t < ps.length) : gP (ps.take i ++ p :: ps.drop i) (t + 1) = gP ps t := by
  have hi : i ≤ ps.length := by omega
  simp only [gP, List.getD]
  rw [List.getElem?_append_right (by simp; omega), List.length_take, Nat.min_eq_left hi, show t + 1 - i = (t - i) + 1 by omega, List.getElem?_cons_succ, List.getElem?_drop, show i + (t - i) = t by omega]

theorem setCells_size (w : World) (b o : Nat) (vs : List Value) : w.heap.size ≤ (w.setCells b o vs).heap.size := (below_setCells (Nat.zero_le b) (Below.refl 0 w) o vs).size

set_option maxRecDepth 100000 in
set_option maxHeartbeats 4000000 in
theorem law8 {e : Int} {a : Option Addr} {len cap : Nat} {ps : List Pm} {p : Pm} {act ty : ByteArray} {ptr : Option Addr} {oid : Option (List Int)} {w : World} (h : PmsIn w a len cap ps) (hp : p.ok) (ha : act.size ≤ maxLen) (hy : ty.size ≤ maxLen) (ho : OId w ptr oid) (kk : Int) :
    Calls Try.prog 4 #[.int .u8 e, .slice a len cap, .agg (pc p).toArray, .int .i64 kk, .string act, .string ty, .pointer ptr] w fun r w' => r = .returned (.bool true) ∧ Below w.heap.size w w' := by
  have hm := Nat.le_trans h.le h.max
  unfold maxLen at hm ha hy
  have p2 := pc2 p
  have p20 := pc20 hp
  have z1 := hp.typ
  have z2 := hp.act
  have hal := (Below.refl w.heap.size w).alloc (Nat.le_refl _) (.cells (pc p).toArray 37)
  by_cases g1 : (len : Int) > 65536
  · go_enter Try.func4, Try.ntmps4
    go_wp2_with fail
    go_ret
    exact ⟨rfl, hal⟩
  by_cases g2 : (act.size : Int) > 1048576
  · go_enter Try.func4, Try.ntmps4
    go_wp2_with fail
    go_ret
    exact ⟨rfl, hal⟩
  by_cases g3 : (ty.size : Int) > 1048576
  · go_enter Try.func4, Try.ntmps4
    go_wp2_with fail
    go_ret
    exact ⟨rfl, hal⟩
  by_cases g4 : (p.typ.size : Int) > 1048576
  · go_enter Try.func4, Try.ntmps4
    go_wp2_with fail
    go_ret
    exact ⟨rfl, hal⟩
  by_cases g5 : (p.act.size : Int) > 1048576
  · go_enter Try.func4, Try.ntmps4
    go_wp2_with fail
    go_ret
    exact ⟨rfl, hal⟩
  have B0 : Hid ((w.alloc (.cells (pc p).toArray 37)).rangeAt w.heap.size 0 (pc p)) := range_of_alloc w (pc p) 37
  go_enter Try.func4, Try.ntmps4
  go_upto_region 3 with fail
  have c2 := B0.out 2 _ (pc2 p)
  have c20 := B0.out 20 _ (pc20 hp)
  have hP := h.pms.below hal
  have hO := ho.below hal
  have hnil := h.pms.nil
  simp only [Nat.zero_add] at c2 c20
  clear p2 p20 h ho
  have hW0 : w.heap.size < (w.alloc (.cells (pc p).toArray 37)).heap.size := by simp
  generalize w.alloc (.cells (pc p).toArray 37) = W at *
  go_wp2_with fail
  refine (permBytes_any hP hm _ (by omega) (by omega)).mono ?_
  rintro r w1 ⟨n, rfl, hD⟩
  have hS := hD.below W.heap.size
  have hB1 := hal.trans (hD.below _)
  have hP1 := hP.below hS
  have hO1 := hO.below hS
  have B1 : Hid (w1.rangeAt w.heap.size 0 (pc p)) := rangeAt_below B0.out hS
  have hW1 := Nat.lt_of_lt_of_le hW0 hS.size
  clear hD hal hP hO B0 c2 c20 hS hW0
  by_cases g6 : n > 1048576
  · go_wp2_with fail
    go_ret
    exact ⟨rfl, hB1⟩
  by_cases g7 : kk < 0
  · go_wp2_with fail
    go_ret
    exact ⟨rfl, hB1⟩
  by_cases g8 : (len : Int) < kk
  · go_wp2_with fail
    go_ret
    exact ⟨rfl, hB1⟩
  obtain ⟨i, rfl⟩ := Int.eq_ofNat_of_zero_le (Int.not_lt.1 g7)
  have hi : i ≤ len := by omega
  have hi1 : (i : Int) ≤ len := by omega
  clear g7 g8
  go_wp2_with fail
  refine (toPerms_any hP1 (by omega) hnil).mono ?_
  rintro r w2 ⟨ao, rfl, N2, hS⟩
  have hB2 := hB1.trans (hS.mono hB1.size)
  have hP2 := hP1.below hS
  have hO2 := hO1.below hS
  have B2 : Hid (w2.rangeAt w.heap.size 0 (pc p)) := rangeAt_below B1.out hS
  have hW2 := Nat.lt_of_lt_of_le hW1 hS.size
  clear hB1 hP1 hO1 B1 hS hW1
  obtain ⟨C, hC, hmk⟩ := run_make_perms w2 (len + 1) (by omega)
  rw [show ((len + 1 : Nat) : Int) = (len : Int) + 1 by omega] at hmk
  have T0 : Hid ((w2.alloc (.cells C 40)).there w2.heap.size 0 ((len + 1) * 21)) := by
    show World.there _ _ _ _
    rw [← hC]
    exact there_new _ _ _
  clear hC
  have HN : Hid (ps.length = len) := N2.hlen
  have QOK : Hid (∀ q ∈ ps.take i ++ p :: ps.drop i, q.ok) := fun q hq => by
    rcases List.mem_append.1 hq with hq | hq
    · exact N2.ok q (List.mem_of_mem_take hq)
    · rcases List.mem_cons.1 hq with rfl | hq
      · exact hp
      · exact N2.ok q (List.mem_of_mem_drop hq)
  have QL : Hid ((ps.take i ++ p :: ps.drop i).length = len + 1) := by
    show _ = _
    simp [N2.hlen]
    omega
  have GA : Hid (∀ t, t < i → gP (ps.take i ++ p :: ps.drop i) t = gP ps t) := fun t ht => gP_ins_lt ht (by rw [HN.out]; exact hi)
  have GB : Hid (gP (ps.take i ++ p :: ps.drop i) i = p) := gP_ins_eq (by rw [HN.out]; exact hi)
  have GC : Hid (∀ t, i ≤ t → t < len → gP (ps.take i ++ p :: ps.drop i) (t + 1) = gP ps t) := fun t h1 h2 => gP_ins_gt h1 (by rw [HN.out]; exact h2)
  have VI : Hid (verdictP (fun p => isFor p act ty oid) e (ps.take i ++ p :: ps.drop i) = if isFor p act ty oid then (if p.neg then 2 else if verdictP (fun p => isFor p act ty oid) e ps = 2 then 2 else 1) else verdictP (fun p => isFor p act ty oid) e ps) := by
    have := verdict_insert (fun p => isFor p act ty oid) e (ps.take i) (ps.drop i) p
    rw [List.take_append_drop] at this
    exact this
  generalize ps.take i ++ p :: ps.drop i = qs at *
  have S1 : Hid (∀ q : Pm, q.ok → (Try.prog.info? 40).map (·.size) = some (pc q).length) := fun q hq => by rw [size40, pc_len hq]
  have S2 : Hid (∀ q : Pm, q.ok → (Try.prog.info? 40).map (·.size) = some (pc q).toArray.size) := fun q hq => by rw [size40]; simp [pc_len hq]
  have S3 : Hid (∀ q : Pm, (pc q).toArray.all (·.oneCell') = true) := fun q => all_oneCell_toArray (pc_one q)
  have S0 : Hid ((Try.prog.info? 37).map (·.size) = some (pc p).length) := by show _ = _; rw [size37, pc_len hp]
  go_upto_block 0 with fail
  clear hmk
  go_cut [17] (fun s wx => Hid (Filled wx w2.heap.size qs i) ∧ Hid (wx.there w2.heap.size 0 ((len + 1) * 21)) ∧ Below w2.heap.size w2 wx ∧ w2.heap.size < wx.heap.size)
  case first =>
    go_wp2_with fail
    go_loopg [17] i (fun gk s wr => ∃ j : Nat, j ≤ i ∧ Hid (gk = i - j) ∧ s = .int .i64 j ∧ Hid (Filled wr w2.heap.size qs j) ∧ Hid (wr.there w2.heap.size 0 ((len + 1) * 21)) ∧ Below w2.heap.size w2 wr ∧ w2.heap.size < wr.heap.size)
    case atStart => exact ⟨0, Nat.zero_le _, rfl, rfl, fun t ht => absurd ht (by omega), T0, (Below.refl _ _).alloc (Nat.le_refl _) _, by simp⟩
    case round =>
    clear T0
    obtain ⟨j, hj, hg, rfl, hF, hT, hB, hsz⟩ := hrel
    by_cases hlt : j < i
    · have hjl : j < ps.length := by rw [HN.out]; omega
      have hq := N2.ok _ (gP_mem hjl)
      obtain ⟨b, off, rfl, hc⟩ := N2.cells (by omega)
      have R1 : Hid (wr.rangeAt b (off + j * 21) (pc (gP ps j))) := rangeAt_below (hc j (by omega)) hB
      have GJ : Hid (gP qs j = gP ps j) := GA.out j hlt
      generalize gP ps j = q at *
      have T1 : Hid (wr.there w2.heap.size (j * 21) (pc q).toArray.size) := there_at hq hT.out (by omega)
      have i1 : (j : Int) < len := by omega
      have i2 : (j : Int) < (len : Int) + 1 := by omega
      have i3 : (j : Int) < i := by omega
      clear hc
      go_wp2_with (first
        | refine wpList_load_mid (by rfl) 40 (.tmp 86) (by rfl) b (off + j * 21) (by rfl) (pc q) _ R1.out Try.underlying40 rfl (S1.out q hq) ?_
        | refine wpList_store_mid (by rfl) 40 (.tmp 88) (.tmp 87) (by rfl) w2.heap.size (j * 21) (pc q).toArray (by rfl) (by rfl) T1.out (S2.out q hq) (S3.out q) ?_)
      go_roundg (i - (j + 1))
      case measure => have := hg.out; omega
      case rel =>
        go_light
        refine ⟨j + 1, by omega, rfl, by go_num, ?_, World.there_setCells hT.out _ _ _, below_setCells (Nat.le_refl _) hB _ _, Nat.lt_of_lt_of_le hsz (setCells_size _ _ _ _)⟩
        have := filled_store hF.out QOK.out (by rw [QL.out]; omega) hT.out (by omega)
        rw [GJ.out] at this
        exact this
    · obtain rfl : j = i := by omega
      clear hg
      go_wp2_with fail
      go_meet
      case rel => exact ⟨hF, hT, hB, hsz⟩
  case rest =>
  clear T0
  obtain ⟨w3, rfl⟩ : ∃ w3, w3 = wc := ⟨_, rfl⟩
  obtain ⟨hF3, hT3, hB3, hz3⟩ := hcut
  have B3 : Hid (w3.rangeAt w.heap.size 0 (pc p)) := rangeAt_below B2.out hB3
  have i2 : (i : Int) < (len : Int) + 1 := by omega
  go_wp2_with (refine wpList_load_mid (by rfl) 37 (.tmp 9) (by rfl) w.heap.size 0 (by rfl) (pc p) _ B3.out Try.underlying37 rfl S0.out ?_)
  refine (toPerm_any p hp _).mono ?_
  rintro r w4 ⟨rfl, hS⟩
  have hF4 : Hid (Filled w4 w2.heap.size qs i) := filled_below hF3.out hS
  have hT4 : Hid (w4.there w2.heap.size 0 ((len + 1) * 21)) := there_below hT3.out hS hz3
  have hB4 := hB3.trans (hS.mono hB3.size)
  have hz4 := Nat.lt_of_lt_of_le hz3 hS.size
  have T4 : Hid (w4.there w2.heap.size (i * 21) (pc p).toArray.size) := there_at hp hT4.out (by omega)
  clear hF3 hT3 hB3 hz3 B3 hS
  go_wp2_with (refine wpList_store_mid (by rfl) 40 (.tmp 93) (.tmp 92) (by rfl) w2.heap.size (i * 21) (pc p).toArray (by rfl) (by rfl) T4.out (S2.out p hp) (S3.out p) ?_)
  have F5 : Hid (Filled (w4.setCells w2.heap.size (i * 21) (pc p)) w2.heap.size qs (i + 1)) := by
    have := filled_store hF4.out QOK.out (by rw [QL.out]; omega) hT4.out (by omega)
    rw [GB.out] at this
    exact this
  go_loopg [18] (len - i) (fun gk s wr => ∃ j : Nat, i ≤ j ∧ j ≤ len ∧ Hid (gk = len - j) ∧ s = .int .i64 j ∧ Hid (Filled wr w2.heap.size qs (j + 1)) ∧ Hid (wr.there w2.heap.size 0 ((len + 1) * 21)) ∧ Below w2.heap.size w2 wr ∧ w2.heap.size < wr.heap.size)
  case atStart => exact ⟨i, Nat.le_refl _, hi, rfl, rfl, F5, World.there_setCells hT4.out _ _ _, below_setCells (Nat.le_refl _) hB4 _ _, Nat.lt_of_lt_of_le hz4 (setCells_size _ _ _ _)⟩
  case round =>
  clear F5 hF4 hT4 hB4 hz4 T4
  obtain ⟨j, hij, hj, hg, rfl, hF, hT, hB, hsz⟩ := hrel
  by_cases hlt : j < len
  · have hjl : j < ps.length := by rw [HN.out]; omega
    have hq := N2.ok _ (gP_mem hjl)
    obtain ⟨b, off, rfl, hc⟩ := N2.cells (by omega)
    have R1 : Hid (wr.rangeAt b (off + j * 21) (pc (gP ps j))) := rangeAt_below (hc j (by omega)) hB
    have GJ : Hid (gP qs (j + 1) = gP ps j) := GC.out j hij hlt
    generalize gP ps j = q at *
    have T1 : Hid (wr.there w2.heap.size ((j + 1) * 21) (pc q).toArray.size) := there_at hq hT.out (by omega)
    have i1 : (j : Int) < len := by omega
    have i4 : (j : Int) + 1 < (len : Int) + 1 := by omega
    clear hc
    go_wp2_with (first
      | refine wpList_load_mid (by rfl) 40 (.tmp 106) (by rfl) b (off + j * 21) (by rfl) (pc q) _ R1.out Try.underlying40 rfl (S1.out q hq) ?_
      | refine wpList_store_mid (by rfl) 40 (.tmp 108) (.tmp 107) (by rfl) w2.heap.size ((j + 1) * 21) (pc q).toArray (by rfl) (by rfl) T1.out (S2.out q hq) (S3.out q) ?_)
    go_roundg (len - (j + 1))
    case measure => have := hg.out; omega
    case rel =>
      go_light
      refine ⟨j + 1, by omega, by omega, rfl, by go_num, ?_, World.there_setCells hT.out _ _ _, below_setCells (Nat.le_refl _) hB _ _, Nat.lt_of_lt_of_le hsz (setCells_size _ _ _ _)⟩
      have := filled_store hF.out QOK.out (by rw [QL.out]; omega) hT.out (by omega)
      rw [GJ.out] at this
      exact this
  obtain rfl : j = len := by omega
  clear hg
  have M5 : Pms wr (some ⟨w2.heap.size, 0, none⟩) (j + 1) qs := ⟨QL.out, QOK.out, fun _ => ⟨w2.heap.size, 0, rfl, fun t ht => by rw [Nat.zero_add]; exact hF.out t ht⟩⟩
  have N5 := N2.below hB
  have P5 := hP2.below hB
  have O5 := hO2.below hB
  have B5 : Hid (wr.rangeAt w.heap.size 0 (pc p)) := rangeAt_below B2.out hB
  have hB5 := hB2.trans (hB.mono hB2.size)
  clear hF hT hB hsz N2 hP2 hO2 B2 hB2 QOK QL GA GB GC S1 S2 S3
  obtain ⟨g2, hg2⟩ : ∃ g2, w2.heap.size = g2 := ⟨_, rfl⟩
  rw [hg2] at M5
  simp only [hg2]
  clear hg2
  go_upto_region 19 with fail
  have hal := (Below.refl wr.heap.size wr).alloc (Nat.le_refl _) (.cells #[.string ty, .pointer ptr, .pointer none, .pointer none, .map none, .map none] 30)
  have O6 := obj_new wr ty ptr oid [.pointer none, .pointer none, .map none, .map none] 30 O5
  have N6 := N5.below hal
  have M6 := M5.below hal
  have P6 := P5.below hal
  have I6 := O5.below hal
  have B6 : Hid (World.rangeAt _ w.heap.size 0 (pc p)) := rangeAt_below B5.out hal
  have hB6 := hB5.trans (hal.mono hB5.size)
  generalize wr.alloc (.cells #[.string ty, .pointer ptr, .pointer none, .pointer none, .map none, .map none] 30) = W6 at *
  generalize wr.heap.size = g at *
  clear hal N5 M5 P5 O5 B5 hB5
  go_wp2_with fail
  refine (zzFold_any N6 (by omega) O6).mono ?_
  rintro r W7 ⟨rfl, hS⟩
  have hB7 := hB6.trans (hS.mono hB6.size)
  have M7 := M6.below hS
  have P7 := P6.below hS
  have O7 := O6.below hS
  have I7 := I6.below hS
  have B7 : Hid (W7.rangeAt w.heap.size 0 (pc p)) := rangeAt_below B6.out hS
  clear hB6 N6 M6 P6 O6 I6 B6 hS
  rw [foldE_eq]
  go_wp2_with fail
  refine (zzFold_any M7 (by omega) O7).mono ?_
  rintro r W8 ⟨rfl, hS⟩
  have hB8 := hB7.trans (hS.mono hB7.size)
  have P8 := P7.below hS
  have I8 := I7.below hS
  have B8 : Hid (W8.rangeAt w.heap.size 0 (pc p)) := rangeAt_below B7.out hS
  clear hB7 M7 P7 O7 I7 B7 hS
  rw [foldE_eq]
  go_wp2_with fail
  refine (verdict_any P8 (by omega) I8).mono ?_
  rintro r W9 ⟨rfl, hS⟩
  have hB9 := hB8.trans (hS.mono hB8.size)
  have I9 := I8.below hS
  have B9 : Hid (W9.rangeAt w.heap.size 0 (pc p)) := rangeAt_below B8.out hS
  clear hB8 P8 I8 B8 hS
  generalize verdictP (fun p => isFor p act ty oid) e ps = V at *
  generalize verdictP (fun p => isFor p act ty oid) e qs = U at *
  go_wp2_with (refine wpList_load_mid (by rfl) 37 (.tmp 9) (by rfl) w.heap.size 0 (by rfl) (pc p) _ B9.out Try.underlying37 rfl S0.out ?_)
  refine (permFor_any p hp act ty ptr oid _ I9).mono ?_
  rintro r W10 ⟨rfl, hS⟩
  have hB10 := hB9.trans (hS.mono hB9.size)
  have c0 := rangeAt_below B9.out hS 0 _ (pc0 p)
  simp only [Nat.zero_add] at c0
  clear hB9 I9 B9 hS S0
  obtain ⟨t, ht⟩ : ∃ t, isFor p act ty oid = t := ⟨_, rfl⟩
  rw [ht] at VI ⊢
  clear ht
  cases t with
  | false =>
    have hf : U = V := by rw [VI.out]; simp
    subst hf
    clear VI
    go_wp2_with fail
    go_ret
    exact ⟨rfl, hB10⟩
  | true =>
    obtain ⟨ng, hng⟩ : ∃ ng, p.neg = ng := ⟨_, rfl⟩
    rw [hng] at VI c0
    clear hng
    cases ng with
    | true =>
      have hf : U = 2 := by rw [VI.out]; simp
      subst hf
      clear VI
      go_wp2_with fail
      go_ret
      exact ⟨rfl, hB10⟩
    | false =>
      by_cases hv : V = 2
      · have hf : U = 2 := by rw [VI.out]; simp [hv]
        subst hf hv
        clear VI
        go_wp2_with fail
        go_ret
        exact ⟨rfl, hB10⟩
      · have hf : U = 1 := by rw [VI.out]; simp [hv]
        have hb : (V == 2) = false := by simpa using hv
        subst hf
        clear VI hv
        go_wp2_with fail
        go_ret
        exact ⟨rfl, hB10⟩
end Go.Proofs.Qxb6617219a.Base
