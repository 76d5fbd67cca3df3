import Derived.Test.Qxb6619324aCopy
namespace Go.Proofs.Qxb6619324a.Base
open Go.ChangeShapes Go.WideShapes Go.ChangeAt Go.RowKit
set_option linter.unusedVariables false

/-- What a law is told of a slice of bytes that came in. -/
structure In (w : World) (a : Option Addr) (len cap : Nat) (xs : List Int) : Prop where
  byt : Byt w a len xs
  le : len ≤ cap
  max : cap ≤ maxLen
  nil : a = none → len = 0

/-- A slice of integers that came in: nil; or a row of 'cap' numbers 'zs', the first 'len' of which are its elements. -/
def IsRow (k : IntKind) (w : World) (a : Option Addr) (len cap : Nat) (zs : List Int) : Prop :=
  (a = none ∧ len = 0 ∧ cap = 0 ∧ zs = []) ∨
  ∃ x, a = some x ∧ len ≤ cap ∧ cap ≤ maxLen ∧ zs.length = cap ∧ (∀ i, i < zs.length → w.cell? (x.add i) = some (.int k (zs.getD i 0))) ∧ ∀ n ∈ zs, (Lit.int k n).wf = true

theorem byte_bounds {n : Int} (h : (Lit.int .u8 n).wf = true) : 0 ≤ n ∧ n ≤ 255 := by
  have h' : IntKind.u8.min ≤ n ∧ n ≤ IntKind.u8.max := by simpa [Lit.wf] using h
  exact h'

theorem in_of_row {w : World} {a : Option Addr} {len cap : Nat} {zs : List Int} (h : IsRow .u8 w a len cap zs) : In w a len cap (zs.take len) := by
  rcases h with ⟨rfl, rfl, rfl, rfl⟩ | ⟨x, rfl, h1, h2, h3, h4, h5⟩
  · exact ⟨⟨rfl, by simp, by simp⟩, Nat.le_refl _, Nat.zero_le _, fun _ => rfl⟩
  · refine ⟨⟨by simp; omega, fun n hn => byte_bounds (h5 n (List.mem_of_mem_take hn)), fun h0 => ?_⟩, h1, h2, fun h => by cases h⟩
    obtain ⟨b, off, spot⟩ := x
    have hspot : spot = none := by simpa [Addr.add] using World.cell?_spot (h4 0 (by omega))
    subst hspot
    refine ⟨b, off, rfl, fun i hi => ?_⟩
    have := h4 i (by omega)
    rw [Addr.add_lit] at this
    rw [this]
    simp [List.getD, hi]

/-- A slot that holds a slice of these bytes. -/
def Holds (xs : List Int) (s : Value) (w : World) : Prop := ∃ a cap, s = .slice a xs.length cap ∧ xs.length ≤ cap ∧ Byt w a xs.length xs

theorem lcp_spec : ∀ (xs ys : List Int), lcp xs ys ≤ xs.length ∧ lcp xs ys ≤ ys.length ∧ (∀ i, i < lcp xs ys → xs.getD i 0 = ys.getD i 0) ∧ (lcp xs ys < xs.length → lcp xs ys < ys.length → xs.getD (lcp xs ys) 0 ≠ ys.getD (lcp xs ys) 0)
  | [], ys => by simp [lcp]
  | x :: xs, [] => by simp [lcp]
  | x :: xs, y :: ys => by
    obtain ⟨h1, h2, h3, h4⟩ := lcp_spec xs ys
    by_cases h : x = y
    · subst h
      simp only [lcp, if_true, List.length_cons]
      refine ⟨by omega, by omega, fun i hi => ?_, fun a b => ?_⟩
      · cases i with
        | zero => rfl
        | succ i => simpa using h3 i (by omega)
      · simpa using h4 (by omega) (by omega)
    · simp [lcp, h]

set_option maxRecDepth 100000 in
set_option maxHeartbeats 1000000 in
theorem law1 {a0 a1 : Option Addr} {l0 c0 l1 c1 : Nat} {xs ys : List Int} {w : World} (h0 : In w a0 l0 c0 xs) (h1 : In w a1 l1 c1 ys) :
    Calls Try.prog 3 #[.slice a0 l0 c0, .slice a1 l1 c1] w fun e w' => e = .returned (.bool true) ∧ Below w.heap.size w w' := by
  have m0 : l0 ≤ maxLen := Nat.le_trans h0.le h0.max
  have m1 : l1 ≤ maxLen := Nat.le_trans h1.le h1.max
  have hne := fun (w : World) (a : Option Addr) (n c : Nat) => run_neq_slice_nil_any (P := Try.prog) w 22 5 a n c 0 0 Try.underlying22
  go_enter Try.func3, Try.ntmps3
  go_wp2_with fail
  refine (zzBytes1_any a0 a1 l0 c0 l1 c1 w m0 m1).mono ?_
  rintro e w' ⟨b, rfl, rfl, hb⟩
  cases b with
  | false =>
    go_wp2_with fail
    go_ret
    exact ⟨rfl, Below.refl _ _⟩
  | true =>
    have hs := hb rfl
    clear hb
    go_wp2_with fail
    refine (roomBytes_any a0 l0 c0 1048576 _ m0).mono ?_
    rintro e w' ⟨r, rfl, rfl⟩
    go_wp2_with fail
    refine (roomBytes_any a1 l1 c1 r _ m1).mono ?_
    rintro e w' ⟨r2, rfl, rfl⟩
    by_cases hr : r2 < 0
    · go_wp2_with fail
      go_ret
      exact ⟨rfl, Below.refl _ _⟩
    · have hl0 : (l0 : Int) ≤ 1048576 := by omega
      have hl1 : (l1 : Int) ≤ 1048576 := by omega
      obtain rfl : xs.length = l0 := h0.byt.1
      obtain rfl : ys.length = l1 := h1.byt.1
      go_upto_if 20 with fail
      go_cut [0] (fun s0 wx => Holds xs s0 wx ∧ Below w.heap.size w wx)
      case first =>
        cases a0 with
        | none =>
          go_wp2_with fail
          go_meet
          case rel => exact ⟨⟨none, c0, rfl, h0.le, h0.byt⟩, Below.refl _ _⟩
        | some x =>
          have hmk := run_make_bytes w xs.length (by omega)
          have hcp := run_copy_new w (madeCells #[.int .u8 0] xs.length).toList 0 xs.length (some ⟨w.heap.size, 0, none⟩) xs.length xs.length (some x) c0 xs h0.byt (by simp [size_madeCells]) (fun _ => rfl) (Nat.le_refl _)
          rw [splice_all _ _ (by simp [size_madeCells])] at hcp
          simp only [Array.toArray_toList] at hcp
          go_wp2_with fail
          go_meet
          case rel => exact ⟨⟨_, _, rfl, Nat.le_refl _, byt_new w xs _ rfl h0.byt.2.1⟩, (Below.refl _ _).alloc (Nat.le_refl _) _⟩
      case rest =>
        obtain ⟨w1, rfl⟩ : ∃ w1, w1 = wc := ⟨_, rfl⟩
        obtain ⟨⟨a0', c0', rfl, k0, b0⟩, hB⟩ := hcut
        have b1 := h1.byt.below (Nat.le_refl _) hB
        go_upto_if 29 with fail
        go_cut [1] (fun s1 wx => Holds ys s1 wx ∧ Below w1.heap.size w1 wx)
        case first =>
          cases a1 with
          | none =>
            go_wp2_with fail
            go_meet
            case rel => exact ⟨⟨none, c1, rfl, h1.le, b1⟩, Below.refl _ _⟩
          | some x =>
            have hmk := run_make_bytes w1 ys.length (by omega)
            have hcp := run_copy_new w1 (madeCells #[.int .u8 0] ys.length).toList 0 ys.length (some ⟨w1.heap.size, 0, none⟩) ys.length ys.length (some x) c1 ys b1 (by simp [size_madeCells]) (fun _ => rfl) (Nat.le_refl _)
            rw [splice_all _ _ (by simp [size_madeCells])] at hcp
            simp only [Array.toArray_toList] at hcp
            go_wp2_with fail
            go_meet
            case rel => exact ⟨⟨_, _, rfl, Nat.le_refl _, byt_new w1 ys _ rfl b1.2.1⟩, (Below.refl _ _).alloc (Nat.le_refl _) _⟩
        case rest =>
          obtain ⟨wd, rfl⟩ : ∃ wd, wd = wc := ⟨_, rfl⟩
          obtain ⟨⟨a1', c1', rfl, k1, b1'⟩, hB'⟩ := hcut
          have b0' := b0.below (Nat.le_refl _) hB'
          have hBw : Below w.heap.size w wd := hB.trans (hB'.mono hB.size)
          clear hB hB' b0 b1 h0 h1 hne
          go_wp2_with fail
          refine (zzShared_any b0' b1' c0' c1' (by omega) (by omega) k0 k1).mono ?_
          rintro e w2 ⟨rfl, hD⟩
          have b0 := hD.byt b0'
          have b1 := hD.byt b1'
          have hB2 : Below w.heap.size w w2 := hBw.trans (hD.below _)
          clear b0' b1' hBw hD
          obtain ⟨s1, s2, s3, s4⟩ := lcp_spec xs ys
          generalize lcp xs ys = n at *
          have H4 : Hid (n < xs.length → n < ys.length → xs.getD n 0 ≠ ys.getD n 0) := s4
          have H3 : Hid (∀ i, i < n → xs.getD i 0 = ys.getD i 0) := s3
          clear s3 s4
          go_upto_if 45 with fail
          go_cut [8] (fun s8 wx => w2 = wx ∧ ∃ m : Nat, s8 = .int .i64 m ∧ m ≤ xs.length ∧ m ≤ ys.length ∧ n ≤ m ∧ Hid (m = xs.length ∨ m = ys.length))
          case first =>
            by_cases hlt : ys.length < xs.length
            · go_wp2_with fail
              go_meet
              case rel => exact ⟨rfl, ys.length, rfl, by omega, by omega, by omega, .inr rfl⟩
            · go_wp2_with fail
              go_meet
              case rel => exact ⟨rfl, xs.length, rfl, by omega, by omega, by omega, .inl rfl⟩
          case rest =>
            obtain ⟨rfl, m, rfl, m0', m1', hnm, hm⟩ := hcut
            go_upto_block 0 with fail
            go_cut [9] (fun s9 wx => Below w.heap.size w wx ∧ Byt wx a0' xs.length xs ∧ Byt wx a1' ys.length ys)
            case first =>
              go_wp2_with fail
              go_loopg [9] n (fun gk s9 wx => ∃ k : Nat, s9 = .int .i64 k ∧ k ≤ n ∧ Hid (gk = n - k) ∧ Below w.heap.size w wx ∧ Byt wx a0' xs.length xs ∧ Byt wx a1' ys.length ys)
              case atStart => exact ⟨0, rfl, by omega, rfl, hB2, b0, b1⟩
              case round =>
                clear b0 b1 hB2
                obtain ⟨k, rfl, hk, hgk, hB2, b0, b1⟩ := hrel
                by_cases hkn : k < n
                · obtain ⟨o0, f0, rfl, hc0⟩ := b0.2.2 (by omega)
                  obtain ⟨o1, f1, rfl, hc1⟩ := b1.2.2 (by omega)
                  have g0 := hc0 k (by omega)
                  have g1 := hc1 k (by omega)
                  have he := H3.out k hkn
                  obtain ⟨x, hx⟩ : ∃ x, xs.getD k 0 = x := ⟨_, rfl⟩
                  rw [hx] at g0 he
                  rw [← he] at g1
                  clear hx he
                  have i0 : (k : Int) < xs.length := by omega
                  have i1 : (k : Int) < ys.length := by omega
                  have i2 : (0 : Int) ≤ k := by omega
                  go_wp2_with fail
                  go_quiet (fail)
                  go_wp2_with fail
                  go_roundg (n - (k + 1))
                  case measure => have := hgk.out; omega
                  case rel => exact ⟨k + 1, by go_num, by omega, rfl, below_drewN hB2 _, b0, b1⟩
                · go_wp2_with fail
                  go_meet
                  case rel => exact ⟨hB2, b0, b1⟩
            case rest =>
              clear b0 b1 hB2
              obtain ⟨hB2, b0, b1⟩ := hcut
              by_cases hnm2 : n = m
              · subst hnm2
                go_wp2_with fail
                go_quiet (fail)
                go_wp2_with fail
                go_ret
                exact ⟨rfl, below_drewN hB2 _⟩
              · obtain ⟨o0, f0, rfl, hc0⟩ := b0.2.2 (by omega)
                obtain ⟨o1, f1, rfl, hc1⟩ := b1.2.2 (by omega)
                have g0 := hc0 n (by omega)
                have g1 := hc1 n (by omega)
                have he := H4.out (by omega) (by omega)
                generalize xs.getD n 0 = x at *
                generalize ys.getD n 0 = y at *
                have hxy : (x == y) = false := by simpa using he
                have hxy' : (x != y) = true := by simpa using he
                have hd : ((n : Int) == (m : Int)) = false := by rw [beq_eq_false_iff_ne]; omega
                have i0 : (n : Int) < xs.length := by omega
                have i1 : (n : Int) < ys.length := by omega
                have i2 : (0 : Int) ≤ n := by omega
                go_wp2_with fail
                go_quiet (fail)
                go_wp2_with fail
                go_ret
                exact ⟨rfl, below_drewN hB2 _⟩
end Go.Proofs.Qxb6619324a.Base
