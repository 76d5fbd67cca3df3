import Derived.Test.Qxb6619324aLaw1
namespace Go.Proofs.Qxb6619324a.Base
open Go.ChangeShapes Go.WideShapes Go.ChangeAt Go.RowKit
set_option linter.unusedVariables false

theorem lcp_symm : ∀ (xs ys : List Int), lcp xs ys = lcp ys xs
  | [], [] => rfl
  | [], _ :: _ => rfl
  | _ :: _, [] => rfl
  | x :: xs, y :: ys => by
    by_cases h : x = y
    · subst h; simp [lcp, lcp_symm xs ys]
    · have h' : ¬ y = x := fun e => h e.symm
      simp [lcp, h, h']

theorem lcp_head : ∀ (ps xs ys : List Int), lcp (ps ++ xs) (ps ++ ys) = ps.length + lcp xs ys
  | [], xs, ys => by simp
  | p :: ps, xs, ys => by simp [lcp, lcp_head ps xs ys]; omega

set_option maxHeartbeats 400000 in
theorem zzBytes2_any (a0 a1 a2 : Option Addr) (l0 c0 l1 c1 l2 c2 : Nat) (w : World) (h0 : l0 ≤ maxLen) (h1 : l1 ≤ maxLen) (h2 : l2 ≤ maxLen) :
    Calls Try.prog 12 #[.slice a0 l0 c0, .slice a1 l1 c1, .slice a2 l2 c2] w (SomeBool (l0 + l1 + l2 ≤ 1048576) w) := by
  unfold maxLen at h0 h1 h2
  by_cases g0 : l0 > 1048576
  · go_enter Try.func12, Try.ntmps12
    go_wp2
    go_ret
    exact ⟨_, rfl, rfl, by simp⟩
  by_cases g1 : l1 > 1048576
  · go_enter Try.func12, Try.ntmps12
    go_wp2
    go_ret
    exact ⟨_, rfl, rfl, by simp⟩
  by_cases g2 : l0 + l1 > 1048576
  · go_enter Try.func12, Try.ntmps12
    go_wp2
    go_ret
    exact ⟨_, rfl, rfl, by simp⟩
  by_cases g3 : l2 > 1048576
  · go_enter Try.func12, Try.ntmps12
    go_wp2
    go_ret
    exact ⟨_, rfl, rfl, by simp⟩
  by_cases g4 : l0 + l1 + l2 > 1048576
  · go_enter Try.func12, Try.ntmps12
    go_wp2
    go_ret
    exact ⟨_, rfl, rfl, by simp⟩
  · go_enter Try.func12, Try.ntmps12
    go_wp2
    go_ret
    exact ⟨_, rfl, rfl, fun _ => by omega⟩

theorem run_make_sum (W : World) (n m : Nat) (hn : n + m ≤ 2097152) :
    (Instr.makeSlice 22 (.int .i64 ((n : Int) + (m : Int))) (.int .i64 ((n : Int) + (m : Int)))).run Try.prog W = .ok (.slice (some ⟨W.heap.size, 0, none⟩) (n + m) (n + m)) (W.alloc (.cells (madeCells #[.int .u8 0] (n + m)) 5)) := by
  have := run_make_bytes W (n + m) hn
  simpa using this

theorem splice_two (cur xs ys : List Value) (h : cur.length = xs.length + ys.length) : splice (splice cur 0 xs) xs.length ys = xs ++ ys := by
  simp [splice, h]

set_option maxRecDepth 100000 in
set_option maxHeartbeats 1000000 in
theorem law2 {ap a0 a1 : Option Addr} {lp cp l0 c0 l1 c1 : Nat} {ps xs ys : List Int} {w : World} (hp : In w ap lp cp ps) (h0 : In w a0 l0 c0 xs) (h1 : In w a1 l1 c1 ys) :
    Calls Try.prog 4 #[.slice ap lp cp, .slice a0 l0 c0, .slice a1 l1 c1] w fun e w' => e = .returned (.bool true) ∧ Below w.heap.size w w' := by
  have mp : lp ≤ maxLen := Nat.le_trans hp.le hp.max
  have m0 : l0 ≤ maxLen := Nat.le_trans h0.le h0.max
  have m1 : l1 ≤ maxLen := Nat.le_trans h1.le h1.max
  have hne := fun (w : World) (a : Option Addr) (n c : Nat) => run_neq_slice_nil_any (P := Try.prog) w 22 5 a n c 0 0 Try.underlying22
  go_enter Try.func4, Try.ntmps4
  go_wp2_with fail
  refine (zzBytes2_any ap a0 a1 lp cp l0 c0 l1 c1 w mp m0 m1).mono ?_
  rintro e w' ⟨b, rfl, rfl, hb⟩
  cases b with
  | false =>
    go_wp2_with fail
    go_ret
    exact ⟨rfl, Below.refl _ _⟩
  | true =>
    have hs := hb rfl
    clear hb
    go_wp2_with fail
    refine (roomBytes_any ap lp cp 1048576 _ mp).mono ?_
    rintro e w' ⟨r0, rfl, rfl⟩
    go_wp2_with fail
    refine (roomBytes_any a0 l0 c0 r0 _ m0).mono ?_
    rintro e w' ⟨r, rfl, rfl⟩
    go_wp2_with fail
    refine (roomBytes_any a1 l1 c1 r _ m1).mono ?_
    rintro e w' ⟨r2, rfl, rfl⟩
    by_cases hr : r2 < 0
    · go_wp2_with fail
      go_ret
      exact ⟨rfl, Below.refl _ _⟩
    · have hlp : (lp : Int) ≤ 1048576 := by omega
      have hl0 : (l0 : Int) ≤ 1048576 := by omega
      have hl1 : (l1 : Int) ≤ 1048576 := by omega
      obtain rfl : ps.length = lp := hp.byt.1
      obtain rfl : xs.length = l0 := h0.byt.1
      obtain rfl : ys.length = l1 := h1.byt.1
      go_upto_if 27 with fail
      go_cut [1] (fun s0 wx => Holds xs s0 wx ∧ Below w.heap.size w wx)
      case first =>
        cases a0 with
        | none =>
          go_wp2_with fail
          go_meet
          case rel => exact ⟨⟨none, c0, rfl, h0.le, h0.byt⟩, Below.refl _ _⟩
        | some x =>
          have hmk := run_make_bytes w xs.length (by omega)
          have hcp := run_copy_new w (madeCells #[.int .u8 0] xs.length).toList 0 xs.length (some ⟨w.heap.size, 0, none⟩) xs.length xs.length (some x) c0 xs h0.byt (by simp [size_madeCells]) (fun _ => rfl) (Nat.le_refl _)
          rw [splice_all _ _ (by simp [size_madeCells])] at hcp
          simp only [Array.toArray_toList] at hcp
          go_wp2_with fail
          go_meet
          case rel => exact ⟨⟨_, _, rfl, Nat.le_refl _, byt_new w xs _ rfl h0.byt.2.1⟩, (Below.refl _ _).alloc (Nat.le_refl _) _⟩
      case rest =>
        obtain ⟨w1, rfl⟩ : ∃ w1, w1 = wc := ⟨_, rfl⟩
        obtain ⟨⟨a0', c0', rfl, k0, b0⟩, hB⟩ := hcut
        have b1 := h1.byt.below (Nat.le_refl _) hB
        have bp := hp.byt.below (Nat.le_refl _) hB
        go_upto_if 36 with fail
        go_cut [2] (fun s1 wx => Holds ys s1 wx ∧ Below w1.heap.size w1 wx)
        case first =>
          cases a1 with
          | none =>
            go_wp2_with fail
            go_meet
            case rel => exact ⟨⟨none, c1, rfl, h1.le, b1⟩, Below.refl _ _⟩
          | some x =>
            have hmk := run_make_bytes w1 ys.length (by omega)
            have hcp := run_copy_new w1 (madeCells #[.int .u8 0] ys.length).toList 0 ys.length (some ⟨w1.heap.size, 0, none⟩) ys.length ys.length (some x) c1 ys b1 (by simp [size_madeCells]) (fun _ => rfl) (Nat.le_refl _)
            rw [splice_all _ _ (by simp [size_madeCells])] at hcp
            simp only [Array.toArray_toList] at hcp
            go_wp2_with fail
            go_meet
            case rel => exact ⟨⟨_, _, rfl, Nat.le_refl _, byt_new w1 ys _ rfl b1.2.1⟩, (Below.refl _ _).alloc (Nat.le_refl _) _⟩
        case rest =>
          obtain ⟨wd, rfl⟩ : ∃ wd, wd = wc := ⟨_, rfl⟩
          obtain ⟨⟨a1', c1', rfl, k1, b1'⟩, hB'⟩ := hcut
          have b0' := b0.below (Nat.le_refl _) hB'
          have bp' := bp.below (Nat.le_refl _) hB'
          have hBw : Below w.heap.size w wd := hB.trans (hB'.mono hB.size)
          have hpc := hp.le
          clear hB hB' b0 b1 bp h0 h1 hp hne
          go_upto_region 13 with fail
          have hmk := run_make_sum wd ps.length xs.length (by omega)
          have hcp := run_copy_new wd (madeCells #[.int .u8 0] (ps.length + xs.length)).toList 0 ps.length (some ⟨wd.heap.size, 0, none⟩) (ps.length + xs.length) (ps.length + xs.length) ap cp ps bp' (by simp [size_madeCells]) (fun _ => rfl) (by omega)
          simp only [Array.toArray_toList] at hcp
          have hT := splice_two (madeCells #[.int .u8 0] (ps.length + xs.length)).toList (ps.map (Value.int .u8)) (xs.map (Value.int .u8)) (by simp [size_madeCells])
          have hLl := length_splice (madeCells #[.int .u8 0] (ps.length + xs.length)).toList 0 (ps.map (Value.int .u8)) (by simp [size_madeCells])
          simp only [Array.length_toList, size_madeCells, List.length_map] at hLl hT
          generalize splice (madeCells #[.int .u8 0] (ps.length + xs.length)).toList 0 (ps.map (Value.int .u8)) = L at hcp hT hLl
          have HT : Hid (splice L ps.length (xs.map (Value.int .u8)) = ps.map (Value.int .u8) ++ xs.map (Value.int .u8)) := hT
          have HL : Hid (L.length = ps.length + xs.length) := hLl
          clear hT hLl
          go_upto_region 15 with fail
          go_cut [9] (fun s9 wx => s9 = .slice (some ⟨wd.heap.size, 0, none⟩) (ps.length + xs.length) (ps.length + xs.length) ∧ Byt wx (some ⟨wd.heap.size, 0, none⟩) (ps.length + xs.length) (ps ++ xs) ∧ Below wd.heap.size wd wx)
          case first =>
            clear hcp hmk
            by_cases hz : xs.length = 0
            · have hcp2 := fun ty => run_copy_new wd L 0 0 (some ⟨wd.heap.size, 0, none⟩) 0 0 a0' c0' [] ⟨rfl, by simp, by simp⟩ (by omega) (by simp) (Nat.le_refl _) ty
              have hx : xs = [] := List.eq_nil_of_length_eq_zero hz
              go_wp2_with fail
              go_meet
              case rel =>
                refine ⟨rfl, ?_, (Below.refl _ _).alloc (Nat.le_refl _) _⟩
                have e : splice L 0 [] = (ps ++ xs).map (Value.int .u8) := by
                  rw [List.map_append, ← HT.out, hx]
                  simp [splice]
                rw [e]
                exact byt_new wd (ps ++ xs) _ (by simp) (fun x hx => by rcases List.mem_append.1 hx with h | h; exact bp'.2.1 x h; exact b0'.2.1 x h)
            · have hcp2 := fun ty => run_copy_new wd L ps.length xs.length (some ⟨wd.heap.size, ps.length, none⟩) xs.length xs.length a0' c0' xs b0' (by rw [HL.out]; exact Nat.le_refl _) (fun _ => rfl) (Nat.le_refl _) ty
              rw [HT.out, ← List.map_append] at hcp2
              obtain ⟨A, hA⟩ : ∃ A, A = ((ps ++ xs).map (Value.int .u8)).toArray := ⟨_, rfl⟩
              rw [← hA] at hcp2
              have HA : Hid (A = ((ps ++ xs).map (Value.int .u8)).toArray) := hA
              clear hA
              go_wp2_with fail
              go_meet
              case rel =>
                refine ⟨rfl, ?_, (Below.refl _ _).alloc (Nat.le_refl _) _⟩
                rw [HA.out]; exact byt_new wd (ps ++ xs) _ (by simp) (fun x hx => by rcases List.mem_append.1 hx with h | h; exact bp'.2.1 x h; exact b0'.2.1 x h)
          case rest =>
            clear hcp hmk HT HL
            obtain ⟨we, rfl⟩ : ∃ we, we = wc := ⟨_, rfl⟩
            obtain ⟨rfl, bpa, hB3⟩ := hcut
            have bp2 := bp'.below (Nat.le_refl _) hB3
            have b12 := b1'.below (Nat.le_refl _) hB3
            have b02 := b0'.below (Nat.le_refl _) hB3
            obtain ⟨g1, hg1⟩ : ∃ g1, wd.heap.size = g1 := ⟨_, rfl⟩
            have hBe : Below w.heap.size w we := hBw.trans (hB3.mono hBw.size)
            rw [hg1] at bpa
            simp only [hg1]
            clear hB3 bp' b1' b0' hBw hg1
            go_upto_region 16 with fail
            have hmk := run_make_sum we ps.length ys.length (by omega)
            have hcp := run_copy_new we (madeCells #[.int .u8 0] (ps.length + ys.length)).toList 0 ps.length (some ⟨we.heap.size, 0, none⟩) (ps.length + ys.length) (ps.length + ys.length) ap cp ps bp2 (by simp [size_madeCells]) (fun _ => rfl) (by omega)
            simp only [Array.toArray_toList] at hcp
            have hT := splice_two (madeCells #[.int .u8 0] (ps.length + ys.length)).toList (ps.map (Value.int .u8)) (ys.map (Value.int .u8)) (by simp [size_madeCells])
            have hLl := length_splice (madeCells #[.int .u8 0] (ps.length + ys.length)).toList 0 (ps.map (Value.int .u8)) (by simp [size_madeCells])
            simp only [Array.length_toList, size_madeCells, List.length_map] at hLl hT
            generalize splice (madeCells #[.int .u8 0] (ps.length + ys.length)).toList 0 (ps.map (Value.int .u8)) = L at hcp hT hLl
            have HT : Hid (splice L ps.length (ys.map (Value.int .u8)) = ps.map (Value.int .u8) ++ ys.map (Value.int .u8)) := hT
            have HL : Hid (L.length = ps.length + ys.length) := hLl
            clear hT hLl
            go_upto_region 18 with fail
            go_cut [10] (fun s10 wx => s10 = .slice (some ⟨we.heap.size, 0, none⟩) (ps.length + ys.length) (ps.length + ys.length) ∧ Byt wx (some ⟨we.heap.size, 0, none⟩) (ps.length + ys.length) (ps ++ ys) ∧ Below we.heap.size we wx)
            case first =>
              clear hcp hmk
              by_cases hz : ys.length = 0
              · have hcp3 := fun ty => run_copy_new we L 0 0 (some ⟨we.heap.size, 0, none⟩) 0 0 a1' c1' [] ⟨rfl, by simp, by simp⟩ (by omega) (by simp) (Nat.le_refl _) ty
                have hx : ys = [] := List.eq_nil_of_length_eq_zero hz
                go_wp2_with fail
                go_meet
                case rel =>
                  refine ⟨rfl, ?_, (Below.refl _ _).alloc (Nat.le_refl _) _⟩
                  have e : splice L 0 [] = (ps ++ ys).map (Value.int .u8) := by
                    rw [List.map_append, ← HT.out, hx]
                    simp [splice]
                  rw [e]
                  exact byt_new we (ps ++ ys) _ (by simp) (fun x hx => by rcases List.mem_append.1 hx with h | h; exact bp2.2.1 x h; exact b12.2.1 x h)
              · have hcp3 := fun ty => run_copy_new we L ps.length ys.length (some ⟨we.heap.size, ps.length, none⟩) ys.length ys.length a1' c1' ys b12 (by rw [HL.out]; exact Nat.le_refl _) (fun _ => rfl) (Nat.le_refl _) ty
                rw [HT.out, ← List.map_append] at hcp3
                obtain ⟨A, hA⟩ : ∃ A, A = ((ps ++ ys).map (Value.int .u8)).toArray := ⟨_, rfl⟩
                rw [← hA] at hcp3
                have HA : Hid (A = ((ps ++ ys).map (Value.int .u8)).toArray) := hA
                clear hA
                go_wp2_with fail
                go_meet
                case rel =>
                  refine ⟨rfl, ?_, (Below.refl _ _).alloc (Nat.le_refl _) _⟩
                  rw [HA.out]; exact byt_new we (ps ++ ys) _ (by simp) (fun x hx => by rcases List.mem_append.1 hx with h | h; exact bp2.2.1 x h; exact b12.2.1 x h)
            case rest =>
              clear hcp hmk HT HL
              obtain ⟨wf, rfl⟩ : ∃ wf, wf = wc := ⟨_, rfl⟩
              obtain ⟨rfl, bpb, hB4⟩ := hcut
              have b13 := b12.below (Nat.le_refl _) hB4
              have b03 := b02.below (Nat.le_refl _) hB4
              have bpa3 := bpa.below (Nat.le_refl _) hB4
              have hBf : Below w.heap.size w wf := hBe.trans (hB4.mono hBe.size)
              clear hB4 hBe b12 b02 bp2 bpa
              go_wp2_with fail
              refine (zzShared_any b03 b13 c0' c1' (by omega) (by omega) k0 k1).mono ?_
              rintro e w2 ⟨rfl, hD⟩
              have b0 := hD.byt b03
              have b1 := hD.byt b13
              have ba := hD.byt bpa3
              have bb := hD.byt bpb
              have hB2 : Below w.heap.size w w2 := hBf.trans (hD.below _)
              clear b03 b13 bpa3 bpb hBf hD
              go_wp2_with fail
              refine (zzShared_any b1 b0 c1' c0' (by omega) (by omega) k1 k0).mono ?_
              rintro e w3 ⟨rfl, hD⟩
              have ba3 := hD.byt ba
              have bb3 := hD.byt bb
              have hB3 : Below w.heap.size w w3 := hB2.trans (hD.below _)
              clear b0 b1 ba bb hB2 hD
              go_wp2_with fail
              refine (zzShared_any ba3 bb3 _ _ (by omega) (by omega) (Nat.le_refl _) (Nat.le_refl _)).mono ?_
              rintro e w4 ⟨rfl, hD⟩
              have hB4 : Below w.heap.size w w4 := hB3.trans (hD.below _)
              clear ba3 bb3 hB3 hD
              have e1 := lcp_symm ys xs
              have e2 := lcp_head ps xs ys
              have s1 := (lcp_spec xs ys).1
              rw [e1, e2]
              clear e1 e2
              generalize lcp xs ys = q at *
              go_wp2_with fail
              go_ret
              exact ⟨rfl, hB4⟩
end Go.Proofs.Qxb6619324a.Base
