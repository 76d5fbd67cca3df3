import Derived.Test.Qxb6619324aBase
namespace Go.Proofs.Qxb6619324a.Base
open Go.ChangeShapes Go.WideShapes Go.ChangeAt Go.RowKit
set_option linter.unusedVariables false

/-- The length of the longest common head. -/
def lcp : List Int → List Int → Nat
  | x :: xs, y :: ys => if x = y then lcp xs ys + 1 else 0
  | [], _ => 0
  | _ :: _, [] => 0

theorem lcp_of : ∀ (xs ys : List Int) (m : Nat), m ≤ xs.length → m ≤ ys.length → xs.take m = ys.take m → (m = xs.length ∨ m = ys.length ∨ xs.getD m 0 ≠ ys.getD m 0) → lcp xs ys = m
  | [], ys, m, h1, h2, h3, h4 => by simp at h1; subst h1; rfl
  | x :: xs, [], m, h1, h2, h3, h4 => by simp at h2; subst h2; rfl
  | x :: xs, y :: ys, 0, h1, h2, h3, h4 => by
    simp at h4
    simp [lcp, h4]
  | x :: xs, y :: ys, m + 1, h1, h2, h3, h4 => by
    simp only [List.take_succ_cons, List.cons.injEq] at h3
    obtain ⟨rfl, h3⟩ := h3
    simp at h1 h2
    have := lcp_of xs ys m h1 h2 h3 (by simpa using h4)
    simp [lcp, this]

theorem take_add_eq {xs ys : List Int} {k n : Nat} (h : xs.take k = ys.take k) (h2 : (xs.drop k).take n = (ys.drop k).take n) : xs.take (k + n) = ys.take (k + n) := by
  rw [List.take_add, List.take_add, h, h2]

theorem take_succ_eq {xs ys : List Int} {k : Nat} (h : xs.take k = ys.take k) (h1 : k < xs.length) (h2 : k < ys.length) (he : xs.getD k 0 = ys.getD k 0) : xs.take (k + 1) = ys.take (k + 1) := by
  rw [List.take_succ_eq_append_getElem h1, List.take_succ_eq_append_getElem h2, h]
  congr 2
  simpa [List.getD, h1, h2] using he

theorem bytes_inj : ∀ {xs ys : List Int}, (∀ x ∈ xs, 0 ≤ x ∧ x ≤ 255) → (∀ x ∈ ys, 0 ≤ x ∧ x ≤ 255) → (strOfNums xs).toList = (strOfNums ys).toList → xs = ys := by
  intro xs ys hx hy h
  have h' : xs.map (fun n : Int => UInt8.ofNat n.toNat) = ys.map (fun n : Int => UInt8.ofNat n.toNat) := by
    have e1 : ∀ zs, (strOfNums zs).toList = zs.map (fun n : Int => UInt8.ofNat n.toNat) := fun zs => by simp [strOfNums, ByteArray.toList_eq]
    rw [← e1, ← e1, h]
  clear h
  induction xs generalizing ys with
  | nil => cases ys with
    | nil => rfl
    | cons => simp at h'
  | cons x xs ih =>
    cases ys with
    | nil => simp at h'
    | cons y ys =>
      simp only [List.map_cons, List.cons.injEq] at h'
      have a := hx x (by simp)
      have b := hy y (by simp)
      have e : x.toNat = y.toNat := by
        have := congrArg UInt8.toNat h'.1
        simp at this
        omega
      rw [ih (fun z hz => hx z (by simp [hz])) (fun z hz => hy z (by simp [hz])) h'.2, show x = y by omega]

theorem Byt.cut {w : World} {b off : Nat} {len : Nat} {xs : List Int} (h : Byt w (some ⟨b, off, none⟩) len xs) (k n : Nat) (hk : k + n ≤ len) :
    Byt w (some ⟨b, off + k, none⟩) n ((xs.drop k).take n) := by
  obtain ⟨h1, h2, h3⟩ := h
  refine ⟨by simp; omega, fun x hx => h2 x (List.mem_of_mem_drop (List.mem_of_mem_take hx)), fun hn => ⟨b, off + k, rfl, fun i hi => ?_⟩⟩
  obtain ⟨b', off', he, hc⟩ := h3 (by omega)
  simp only [Option.some.injEq, Addr.mk.injEq] at he
  obtain ⟨rfl, rfl, _⟩ := he
  have := hc (k + i) (by omega)
  rw [Nat.add_assoc, this]
  simp [List.getD, List.getElem?_drop, hi]

set_option maxHeartbeats 1000000 in
theorem shared_pos {b1 o1 b2 o2 : Nat} {l1 l2 : Nat} {xs ys : List Int} {w : World} (h1 : Byt w (some ⟨b1, o1, none⟩) l1 xs) (h2 : Byt w (some ⟨b2, o2, none⟩) l2 ys) (c1 c2 : Nat) (m1 : l1 ≤ 1048576) (m2 : l2 ≤ 1048576) (k1 : l1 ≤ c1) (k2 : l2 ≤ c2)
    (hc1 : ∀ i, i < l1 → w.cell? ⟨b1, o1 + i, none⟩ = some (.int .u8 (xs.getD i 0))) (hc2 : ∀ i, i < l2 → w.cell? ⟨b2, o2 + i, none⟩ = some (.int .u8 (ys.getD i 0))) :
    Calls Try.prog 28 #[.slice (some ⟨b1, o1, none⟩) l1 c1, .slice (some ⟨b2, o2, none⟩) l2 c2] w fun e w' => e = .returned (.int .i64 (lcp xs ys)) ∧ Drawn w w' := by
  have H1 : Hid (xs.length = l1) := h1.1
  have H2 : Hid (ys.length = l2) := h2.1
  go_enter Try.func28, Try.ntmps28
  go_upto_region 1 with fail
  go_cut [5] (fun s5 wx => w = wx ∧ ∃ n : Nat, s5 = .int .i64 n ∧ n ≤ l1 ∧ n ≤ l2 ∧ Hid (n = l1 ∨ n = l2))
  case first =>
    by_cases hm : l1 ≤ l2
    · go_wp2
      go_meet
      case rel => exact ⟨rfl, l1, rfl, by omega, by omega, .inl rfl⟩
    · go_wp2
      go_meet
      case rel => exact ⟨rfl, l2, rfl, by omega, by omega, .inr rfl⟩
  case rest =>
    obtain ⟨rfl, n, rfl, n1, n2, hn⟩ := hcut
    go_upto_block 0 with fail
    go_cut [6] (fun i wr => ∃ k : Nat, k ≤ n ∧ i = .int .i64 k ∧ Hid (xs.take k = ys.take k) ∧ Drawn w wr)
    case first =>
      go_wp2_with fail
      go_loopg [6] n (fun gk i wr => ∃ k : Nat, k ≤ n ∧ gk = n - k ∧ i = .int .i64 k ∧ Hid (xs.take k = ys.take k) ∧ Drawn w wr)
      case atStart => exact ⟨0, by omega, rfl, rfl, by simp [Hid], Drawn.refl _⟩
      case round =>
        obtain ⟨k, hk, hgk, rfl, hE, hD⟩ := hrel
        have wk : IntKind.i64.wrap ((k : Int) + 256) = (k : Int) + 256 := by rw [IntKind.wrap_i64]; omega
        by_cases g : (k : Int) + 256 ≤ n
        · obtain ⟨b, hb⟩ : ∃ b, b = ((strOfNums ((xs.drop k).take 256)).toList == (strOfNums ((ys.drop k).take 256)).toList) := ⟨_, rfl⟩
          have e1 := fun n => equal_any (w := wr.drewN n) ((hD.byt h1).cut k 256 (by omega)) ((hD.byt h2).cut k 256 (by omega)) (c1 - k) (c2 - k)
          rw [← hb] at e1
          have HB : Hid (b = ((strOfNums ((xs.drop k).take 256)).toList == (strOfNums ((ys.drop k).take 256)).toList)) := hb
          clear hb
          have wk1 : (k : Int) + 256 ≤ (c1 : Int) := by omega
          have wk2 : (k : Int) + 256 ≤ (c2 : Int) := by omega
          have wk3 : (0 : Int) ≤ (k : Int) := by omega
          have wk4 : (k : Int) ≤ (k : Int) + 256 := by omega
          have wk5 : ((k : Int) + 256).toNat - k = 256 := by omega
          have wk6 : ¬ c1 = k := by omega
          have wk7 : ¬ c2 = k := by omega
          have HG := (show Hid (gk = n - k) from hgk); clear hgk
          go_wp2
          go_quiet ((go_at_call 35; exact Calls.quiet_of_same (e1 _)))
          cases b with
          | false =>
            go_wp2
            go_meet
            case rel => exact ⟨k, hk, rfl, hE, hD.drewN _⟩
          | true =>
            go_wp2
            go_roundg (n - (k + 256))
            case measure => have := HG.out; omega
            case rel =>
              refine ⟨k + 256, by omega, rfl, by go_num, ?_, hD.drewN _⟩
              have := beq_iff_eq.1 HB.out.symm
              exact take_add_eq hE.out (bytes_inj (fun x hx => h1.2.1 x (List.mem_of_mem_drop (List.mem_of_mem_take hx))) (fun x hx => h2.2.1 x (List.mem_of_mem_drop (List.mem_of_mem_take hx))) this)
        · have hd : decide ((k : Int) + 256 ≤ (n : Int)) = false := by simpa using g
          have HG := (show Hid (gk = n - k) from hgk); clear hgk
          go_wp2
          go_quiet (fail)
          go_wp2
          go_meet
          case rel => exact ⟨k, hk, rfl, hE, hD.drewN _⟩
    case rest =>
      obtain ⟨k0, hk0, rfl, hE0, hD0⟩ := hcut
      go_wp2_with fail
      go_loopg [6] (n - k0) (fun gk i wr => ∃ k : Nat, k ≤ n ∧ gk = n - k ∧ i = .int .i64 k ∧ Hid (xs.take k = ys.take k) ∧ Drawn w wr)
      case atStart => exact ⟨k0, by omega, rfl, rfl, hE0, hD0⟩
      case round =>
        clear hE0 hD0
        obtain ⟨k, hk, hgk, rfl, hE, hD⟩ := hrel
        by_cases g : (k : Int) < n
        · have hc1' := hD.cell ⟨b1, o1 + k, none⟩
          rw [hc1 k (by omega)] at hc1'
          have hc2' := hD.cell ⟨b2, o2 + k, none⟩
          rw [hc2 k (by omega)] at hc2'
          obtain ⟨x, hx⟩ : ∃ x, x = xs.getD k 0 := ⟨_, rfl⟩
          obtain ⟨y, hy⟩ : ∃ y, y = ys.getD k 0 := ⟨_, rfl⟩
          rw [← hx] at hc1'
          rw [← hy] at hc2'
          have HX : Hid (x = xs.getD k 0) := hx
          have HY : Hid (y = ys.getD k 0) := hy
          clear hx hy; have HG := (show Hid (gk = n - k) from hgk); clear hgk
          have g1 : (k : Int) < l1 := by omega
          have g2 : (k : Int) < l2 := by omega
          have g3 : (0 : Int) ≤ k := by omega
          go_wp2
          go_quiet (fail)
          go_wp2
          · have hxy : x = y := beq_iff_eq.1 (by assumption)
            go_roundg (n - (k + 1))
            case measure => have := HG.out; omega
            case rel => exact ⟨k + 1, by omega, rfl, by go_num, take_succ_eq hE.out (by have := H1.out; omega) (by have := H2.out; omega) (by rw [← HX.out, ← HY.out]; exact hxy), hD.drewN _⟩
          · have hxy : ¬ x = y := beq_eq_false_iff_ne.1 (by assumption)
            have hl : lcp xs ys = k := lcp_of xs ys k (by have := H1.out; omega) (by have := H2.out; omega) hE.out (.inr (.inr (by rw [← HX.out, ← HY.out]; exact hxy)))
            go_ret
            exact ⟨ret_int (by rw [hl]), hD.drewN _⟩
        · have hd : decide (k < n) = false := by simpa using g
          clear hgk
          go_wp2
          go_quiet (fail)
          go_wp2
          have hl : lcp xs ys = k := lcp_of xs ys k (by have := H1.out; omega) (by have := H2.out; omega) hE.out (by have := H1.out; have := H2.out; rcases hn.out with h | h <;> omega)
          go_ret
          exact ⟨ret_int (by rw [hl]), hD.drewN _⟩

set_option maxHeartbeats 400000 in
theorem shared_any {a1 a2 : Option Addr} {l1 l2 : Nat} {xs ys : List Int} {w : World} (h1 : Byt w a1 l1 xs) (h2 : Byt w a2 l2 ys) (c1 c2 : Nat) (m1 : l1 ≤ 1048576) (m2 : l2 ≤ 1048576) (k1 : l1 ≤ c1) (k2 : l2 ≤ c2) :
    Calls Try.prog 28 #[.slice a1 l1 c1, .slice a2 l2 c2] w fun e w' => e = .returned (.int .i64 (lcp xs ys)) ∧ Drawn w w' := by
  by_cases hp : 0 < l1 ∧ 0 < l2
  · obtain ⟨p1, p2⟩ := hp
    obtain ⟨b1, o1, rfl, hc1⟩ := h1.2.2 p1
    obtain ⟨b2, o2, rfl, hc2⟩ := h2.2.2 p2
    exact shared_pos h1 h2 c1 c2 m1 m2 k1 k2 hc1 hc2
  · have hl : lcp xs ys = 0 := by
      by_cases h : l1 = 0
      · rw [List.eq_nil_of_length_eq_zero (h1.1.trans h)]; rfl
      · rw [List.eq_nil_of_length_eq_zero (h2.1.trans (by omega))]; cases xs <;> rfl
    rw [hl]
    clear hl
    go_enter Try.func28, Try.ntmps28
    go_upto_region 1 with fail
    go_cut [5] (fun s5 wx => w = wx ∧ s5 = .int .i64 0)
    case first =>
      by_cases hm : l1 ≤ l2
      · obtain rfl : l1 = 0 := by omega
        go_wp2
        go_meet
        case rel => exact ⟨rfl, rfl⟩
      · obtain rfl : l2 = 0 := by omega
        go_wp2
        go_meet
        case rel => exact ⟨rfl, rfl⟩
    case rest =>
      obtain ⟨rfl, rfl⟩ := hcut
      go_wp2_with fail
      refine wp_loop_rounds 1 ?_
      rw [rounds_succ]
      go_wp2
      go_quiet (fail)
      go_wp2
      refine wp_loop_rounds 1 ?_
      rw [rounds_succ]
      go_wp2
      go_quiet (fail)
      go_wp2
      go_ret
      exact ⟨rfl, ((Drawn.refl _).drewN _).drewN _⟩

theorem zzShared_any {a1 a2 : Option Addr} {l1 l2 : Nat} {xs ys : List Int} {w : World} (h1 : Byt w a1 l1 xs) (h2 : Byt w a2 l2 ys) (c1 c2 : Nat) (m1 : l1 ≤ 1048576) (m2 : l2 ≤ 1048576) (k1 : l1 ≤ c1) (k2 : l2 ≤ c2) :
    Calls Try.prog 11 #[.slice a1 l1 c1, .slice a2 l2 c2] w fun e w' => e = .returned (.int .i64 (lcp xs ys)) ∧ Drawn w w' := by
  have k := shared_any h1 h2 c1 c2 m1 m2 k1 k2
  go_enter Try.func11, Try.ntmps11
  go_wp2_with (go_at_call 28; refine k.mono ?_; rintro e w' ⟨rfl, hD⟩)
  go_ret
  exact ⟨rfl, hD⟩

end Go.Proofs.Qxb6619324a.Base
