import Derived.Test.Qxb6617219aMatches
namespace Go.Proofs.Qxb6617219a.Base
open Go.ChangeShapes Go.WideShapes Go.ChangeAt Go.RowKit
set_option linter.unusedVariables false

/-- The i-th permission. -/
def gP (ps : List Pm) (i : Nat) : Pm := ps.getD i ⟨false, 0, ByteArray.empty, false, [], ByteArray.empty⟩

/-- The permissions 'ps' lie behind 'a', 21 cells each. -/
structure Pms (w : World) (a : Option Addr) (len : Nat) (ps : List Pm) : Prop where
  hlen : ps.length = len
  ok : ∀ p ∈ ps, p.ok
  cells : 0 < len → ∃ b off, a = some ⟨b, off, none⟩ ∧ ∀ i, i < len → w.rangeAt b (off + i * 21) (pc (gP ps i))

theorem rangeAt_below {w w' : World} {b o : Nat} {cs : List Value} (h : w.rangeAt b o cs) (hb : Below w.heap.size w w') : w'.rangeAt b o cs := fun j v hv => by
  have := h j v hv
  rw [hb.cell (World.block_lt_of_cell? w _ this), this]

theorem Pms.below {w w' : World} {a : Option Addr} {len : Nat} {ps : List Pm} (h : Pms w a len ps) (hb : Below w.heap.size w w') : Pms w' a len ps := by
  refine ⟨h.hlen, h.ok, fun h0 => ?_⟩
  obtain ⟨b, off, rfl, hc⟩ := h.cells h0
  exact ⟨b, off, rfl, fun i hi => rangeAt_below (hc i hi) hb⟩

theorem gP_mem {ps : List Pm} {i : Nat} (h : i < ps.length) : gP ps i ∈ ps := by
  have : gP ps i = ps[i] := by simp [gP, List.getD, h]
  rw [this]
  exact List.getElem_mem h
theorem drop_gP {ps : List Pm} {i : Nat} (h : i < ps.length) : ps.drop i = gP ps i :: ps.drop (i + 1) := by
  have : gP ps i = ps[i] := by simp [gP, List.getD, h]
  rw [this]
  exact List.drop_eq_getElem_cons h

/-- The fold of a list of permissions into an effect that is not deny. -/
def foldP (f : Pm → Bool) : Int → List Pm → Int
  | e, [] => e
  | e, p :: ps => if f p then (if p.neg then 2 else foldP f 1 ps) else foldP f e ps
/-- The fold. -/
def foldE (f : Pm → Bool) (e : Int) (ps : List Pm) : Int := if e = 2 then 2 else foldP f e ps

set_option maxRecDepth 100000 in
set_option maxHeartbeats 1000000 in
theorem fold_any {e : Int} {a : Option Addr} {len cap : Nat} {ps : List Pm} {act ty : ByteArray} {ob : Nat} {ptr : Option Addr} {oid : Option (List Int)} {w : World} (h : Pms w a len ps) (hn : len ≤ 2097152) (ho : Obj6 w ob ty ptr oid) :
    Calls Try.prog 15 #[.int .u8 e, .slice a len cap, .string act, .pointer (some ⟨ob, 0, none⟩)] w fun r w' => r = .returned (.int .u8 (foldE (fun p => isFor p act ty oid) e ps)) ∧ Below w.heap.size w w' := by
  by_cases he : e = 2
  · subst he
    go_enter Try.func15, Try.ntmps15
    go_wp2_with fail
    go_ret
    exact ⟨ret_int (by simp [foldE]), Below.refl _ _⟩
  have hb : (e == 2) = false := by simpa using he
  have hF : foldE (fun p => isFor p act ty oid) e ps = foldP (fun p => isFor p act ty oid) e ps := by simp [foldE, he]
  rw [hF]
  obtain ⟨F, hFF⟩ : ∃ F, foldP (fun p => isFor p act ty oid) e ps = F := ⟨_, rfl⟩
  rw [hFF]
  have HF : Hid (foldP (fun p => isFor p act ty oid) e ps = F) := hFF
  have HN : Hid (ps.length = len) := h.hlen
  clear hF hFF he
  go_enter Try.func15, Try.ntmps15
  go_wp2_with fail
  go_loopg [0, 15] len (fun gk s i wr => ∃ (k : Nat) (v : Int), k ≤ len ∧ Hid (gk = len - k) ∧ i = .int .i64 k ∧ s = .int .u8 v ∧ Hid (foldP (fun p => isFor p act ty oid) v (ps.drop k) = F) ∧ Below w.heap.size w wr)
  case atStart => exact ⟨0, e, Nat.zero_le _, rfl, rfl, rfl, HF, Below.refl _ _⟩
  case round =>
  clear HF
  obtain ⟨k, v, hk, hg, rfl, rfl, hE, hB⟩ := hrel
  by_cases hlt : k < len
  · have hkl : k < ps.length := by rw [HN.out]; exact hlt
    have hp := h.ok _ (gP_mem hkl)
    have hd := drop_gP hkl
    obtain ⟨b, off, rfl, hc⟩ := h.cells (by omega)
    have R1 : Hid (wr.rangeAt b (off + k * 21) (pc (gP ps k))) := rangeAt_below (hc k hlt) hB
    generalize gP ps k = p at *
    have S1 : Hid ((Try.prog.info? 40).map (·.size) = some (pc p).length) := by show _ = _; rw [size40, pc_len hp]
    have S2 : Hid ((Try.prog.info? 40).map (·.size) = some (pc p).toArray.size) := by show _ = _; rw [size40]; simp [pc_len hp]
    have S3 : Hid ((pc p).toArray.all (·.oneCell') = true) := all_oneCell_toArray (pc_one p)
    have T1 : Hid (∀ C : Array Value, C.size = 21 → (wr.alloc (.cells C 40)).there wr.heap.size 0 (pc p).toArray.size) := fun C hC => by
      have e : (pc p).toArray.size = C.size := by simp [pc_len hp, hC]
      rw [e]
      exact there_new _ _ _
    have T2 : Hid (∀ C : Array Value, C.size = 21 → ((wr.alloc (.cells C 40)).setCells wr.heap.size 0 (pc p)).rangeAt wr.heap.size 0 (pc p)) := fun C hC =>
      World.rangeAt_setCells_same _ _ _ _ (by
        have e : (pc p).length = C.size := by rw [pc_len hp, hC]
        rw [e]
        exact there_new _ _ _)
    have i1 : (k : Int) < len := by omega
    clear hc
    go_wp2_with (first
      | refine wpList_load_mid (by rfl) 40 (.tmp 17) (by rfl) b (off + k * 21) (by rfl) (pc p) _ R1.out Try.underlying40 rfl S1.out ?_
      | refine wpList_store_mid (by rfl) 40 (.tmp 10) (.tmp 18) (by rfl) wr.heap.size 0 (pc p).toArray (by rfl) (by rfl) (T1.out _ rfl) S2.out S3.out ?_
      | refine wpList_load_mid (by rfl) 40 (.tmp 10) (by rfl) wr.heap.size 0 (by rfl) (pc p) _ (T2.out _ rfl) Try.underlying40 rfl S1.out ?_)
    refine (matches_any p hp act ty ob ptr oid _ ?_).mono ?_
    · exact ho.below (below_setCells hB.size (hB.alloc hB.size _) _ _)
    rintro r w5 ⟨rfl, hS⟩
    have hB5 := (below_setCells hB.size (hB.alloc hB.size _) _ _).trans (hS.mono (below_setCells hB.size (hB.alloc hB.size _) _ _).size)
    have c0 := rangeAt_below (T2.out _ rfl) hS 0 _ (pc0 p)
    clear hS T1 T2 S1 S2 S3 R1
    rw [hd] at hE
    obtain ⟨t, ht⟩ : ∃ t, isFor p act ty oid = t := ⟨_, rfl⟩
    rw [ht]
    have HT : Hid (isFor p act ty oid = t) := ht
    clear ht hd
    cases t with
    | false =>
      go_wp2_with fail
      go_roundg (len - (k + 1))
      case measure => have := hg.out; omega
      case rel => exact ⟨k + 1, v, by omega, rfl, by go_num, rfl, (show _ = F by rw [← hE.out]; simp [foldP, HT.out]), hB5⟩
    | true =>
      cases hneg : p.neg with
      | true =>
        rw [hneg] at c0
        have hf : F = 2 := by rw [← hE.out]; simp [foldP, HT.out, hneg]
        have HF : Hid (F = 2) := hf
        clear hf hneg
        go_wp2_with fail
        go_ret
        exact ⟨ret_int HF.out.symm, hB5⟩
      | false =>
        rw [hneg] at c0
        go_wp2_with fail
        go_roundg (len - (k + 1))
        case measure => have := hg.out; omega
        case rel => exact ⟨k + 1, 1, by omega, rfl, by go_num, rfl, (show _ = F by rw [← hE.out]; simp [foldP, HT.out, hneg]), hB5⟩
  obtain rfl : k = len := by omega
  clear hg
  have hf : F = v := by
    rw [← hE.out, List.drop_eq_nil_of_le (by rw [HN.out]; exact Nat.le_refl _)]
    rfl
  have HF : Hid (F = v) := hf
  clear hf
  go_wp2_with fail
  go_ret
  exact ⟨ret_int HF.out.symm, hB⟩

set_option maxHeartbeats 400000 in
theorem zzFold_any {e : Int} {a : Option Addr} {len cap : Nat} {ps : List Pm} {act ty : ByteArray} {ob : Nat} {ptr : Option Addr} {oid : Option (List Int)} {w : World} (h : Pms w a len ps) (hn : len ≤ 2097152) (ho : Obj6 w ob ty ptr oid) :
    Calls Try.prog 8 #[.int .u8 e, .slice a len cap, .string act, .pointer (some ⟨ob, 0, none⟩)] w fun r w' => r = .returned (.int .u8 (foldE (fun p => isFor p act ty oid) e ps)) ∧ Below w.heap.size w w' := by
  go_enter Try.func8, Try.ntmps8
  go_wp2_with fail
  refine (fold_any h hn ho).mono ?_
  rintro r w5 ⟨rfl, hS⟩
  go_wp2_with fail
  go_ret
  exact ⟨rfl, hS⟩

end Go.Proofs.Qxb6617219a.Base
