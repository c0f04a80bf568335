import Derived.Test.Qxb6605697aDoorClo
import Derived.Deep.LoopGhost
namespace Go.Proofs.Qxb6605697aDoor
open Go.RowKit
set_option linter.unusedVariables false

/-- the buffer ahead of round k's bracket or comma. -/
def outAt (P : List Value) (k : Nat) : List Value := P ++ [.int .u8 91] ++ List.replicate (k - 1) (.int .u8 44)
def xiAt (k : Nat) : List Value := (List.range k).map fun (i : Nat) => .int .i64 (i : Int)
def xaAt (p k : Nat) : List Value := (List.range k).map fun (i : Nat) => .int .i64 ((p + i : Nat) + 1)
def lastAt (i : Nat) : Int := if i = 0 then 91 else 44
def xlAt (k : Nat) : List Value := (List.range k).map fun i => .int .u8 (lastAt i)

theorem outAt_len (P : List Value) (k : Nat) : (outAt P k).length = P.length + 1 + (k - 1) := by simp [outAt]; omega
theorem outAt_zero (P : List Value) : outAt P 0 = P ++ [.int .u8 91] := by simp [outAt]
theorem outAt_one (P : List Value) : outAt P 1 = P ++ [.int .u8 91] := by simp [outAt]
theorem outAt_succ (P : List Value) (k : Nat) (h : 0 < k) : outAt P k ++ [.int .u8 44] = outAt P (k + 1) := by
  have : k + 1 - 1 = (k - 1) + 1 := by omega
  rw [outAt, outAt, this, List.replicate_succ', List.append_assoc]
/-- the buffer that round k's call sees: its last byte. -/
theorem outAt_last (P : List Value) (k : Nat) : ∃ bs0 : List Value, outAt P (k + 1) = bs0 ++ [.int .u8 (lastAt k)] ∧ bs0.length = P.length + k := by
  cases k with
  | zero => exact ⟨P, outAt_one P, rfl⟩
  | succ m => exact ⟨outAt P (m + 1), by rw [← outAt_succ P (m + 1) (by omega)]; simp [lastAt], by rw [outAt_len]; omega⟩
theorem xi_len (k : Nat) : (xiAt k).length = k := by simp [xiAt]
theorem xa_len (p k : Nat) : (xaAt p k).length = k := by simp [xaAt]
theorem xl_len (k : Nat) : (xlAt k).length = k := by simp [xlAt]
theorem xi_succ (k : Nat) : xiAt k ++ [.int .i64 k] = xiAt (k + 1) := by simp [xiAt, List.range_succ]
theorem xa_succ (p k : Nat) : xaAt p k ++ [.int .i64 ((p + k : Nat) + 1)] = xaAt p (k + 1) := by simp [xaAt, List.range_succ]
theorem xl_succ (k : Nat) : xlAt k ++ [.int .u8 (lastAt k)] = xlAt (k + 1) := by simp [xlAt, List.range_succ]

/-- the closure's state, its values and rows unnamed. -/
def St (w : World) (B b I A L : Nat) (bs xi xa xl : List Value) : Prop := ∃ g cap vi va vl, Cl w B b I A L (some (g, cap)) bs vi va vl xi xa xl

theorem St.size {w : World} {B b I A L : Nat} {bs xi xa xl : List Value} (h : St w B b I A L bs xi xa xl) : B ≤ w.heap.size := by
  obtain ⟨g, cap, vi, va, vl, h⟩ := h
  have := Lib.lt_of_heap h.hI
  have := h.BI
  omega

/-- round k's call. -/
theorem call_st (B b I A L k : Nat) (P : List Value) (w : World) (h : St w B b I A L (outAt P (k + 1)) (xiAt k) (xaAt P.length k) (xlAt k)) (hk : k ≤ 65536) (hP : P.length ≤ 1048576) :
    Calls Tryd.prog 10 #[.int .i64 k, .pointer (some ⟨I, 0, none⟩), .pointer (some ⟨A, 0, none⟩), .pointer (some ⟨b, 0, none⟩), .pointer (some ⟨L, 0, none⟩)] w fun e w' => (∃ v, e = .returned v) ∧
      St w' B b I A L (outAt P (k + 1)) (xiAt (k + 1)) (xaAt P.length (k + 1)) (xlAt (k + 1)) ∧ Below B w w' := by
  have hB := h.size
  obtain ⟨bs0, e0, hl⟩ := outAt_last P k
  obtain ⟨g, cap, vi, va, vl, hc⟩ := h
  rw [e0] at hc ⊢
  refine (closure B b I A L g cap bs0 (lastAt k) k vi va vl _ _ _ w hc (by rw [xi_len]; omega) (by rw [xa_len]; omega) (by rw [xl_len]; omega) (by omega) hB).mono ?_
  rintro e w' ⟨he, ⟨vi', va', vl', h'⟩, hb⟩
  refine ⟨he, ⟨g, cap, vi', va', vl', ?_⟩, hb⟩
  rw [hl, xi_succ, xa_succ, xl_succ] at h'
  exact h'

/-- one byte written. -/
theorem wb_st (B b I A L : Nat) (c : Int) (bs xi xa xl : List Value) (w : World) (h : St w B b I A L bs xi xa xl) (hlim : bs.length ≤ 4194304) :
    Calls Tryd.prog 15 #[.pointer (some ⟨b, 0, none⟩), .int .u8 c] w fun e w' => e = .returned .nilIface ∧ St w' B b I A L (bs ++ [.int .u8 c]) xi xa xl ∧ Below B w w' := by
  have hB := h.size
  obtain ⟨g, cap, vi, va, vl, hc⟩ := h
  refine (writeByte_any b _ bs c w hc.buf (by omega)).mono ?_
  rintro e w' ⟨rfl, g', cap', hb, hg, hK⟩
  exact ⟨rfl, ⟨g', cap', vi, va, vl, hc.setB hb hg hK hB⟩, hK.toBelow hc.Bb hc.Br hB⟩

theorem wb_first (B b I A L : Nat) (row : Option (Nat × Nat)) (c : Int) (bs xi xa xl : List Value) (vi va vl : Value) (w : World) (hc : Cl w B b I A L row bs vi va vl xi xa xl) (hlim : bs.length ≤ 4194304) (hB : B ≤ w.heap.size) :
    Calls Tryd.prog 15 #[.pointer (some ⟨b, 0, none⟩), .int .u8 c] w fun e w' => e = .returned .nilIface ∧ St w' B b I A L (bs ++ [.int .u8 c]) xi xa xl ∧ Below B w w' := by
  refine (writeByte_any b _ bs c w hc.buf (by omega)).mono ?_
  rintro e w' ⟨rfl, g', cap', hb, hg, hK⟩
  exact ⟨rfl, ⟨g', cap', vi, va, vl, hc.setB hb hg hK hB⟩, hK.toBelow hc.Bb hc.Br hB⟩

set_option maxRecDepth 100000 in
set_option maxHeartbeats 2000000 in
/-- writeJSONArray, called with the closure. -/
theorem writeArr (B b I A L : Nat) (row : Option (Nat × Nat)) (P : List Value) (n : Int) (vi va vl : Value) (w : World) (h : Cl w B b I A L row P vi va vl [] [] []) (hn : n ≤ 65536) (hP : P.length ≤ 1048576) (hB : B ≤ w.heap.size) :
    Calls Tryd.prog 9 #[.pointer (some ⟨b, 0, none⟩), .int .i64 n, .func (Fn.func 10) #[] #[.pointer (some ⟨I, 0, none⟩), .pointer (some ⟨A, 0, none⟩), .pointer (some ⟨b, 0, none⟩), .pointer (some ⟨L, 0, none⟩)]] w fun e w' => (∃ v, e = .returned v) ∧
      St w' B b I A L (outAt P n.toNat ++ [.int .u8 93]) (xiAt n.toNat) (xaAt P.length n.toNat) (xlAt n.toNat) ∧ Below B w w' := by
  have CF := wb_first B b I A L row 91 P [] [] [] vi va vl w h (by omega) hB
  clear h
  go_enter Tryd.func9, Tryd.ntmps9
  go_wp2_with fail
  refine CF.mono ?_
  rintro e w1 ⟨rfl, hS, hbel⟩
  clear CF
  rw [← outAt_zero] at hS
  have HS : Hid (St w1 B b I A L (outAt P 0) (xiAt 0) (xaAt P.length 0) (xlAt 0) ∧ Below B w w1) := ⟨hS, hbel⟩
  clear hS hbel
  go_wp2_with fail
  go_loopg [10] n.toNat (fun g s10 wr => ∃ k : Nat, s10 = .int .i64 k ∧ k ≤ n.toNat ∧ n.toNat - k ≤ g ∧ Hid (St wr B b I A L (outAt P k) (xiAt k) (xaAt P.length k) (xlAt k) ∧ Below B w wr))
  case atStart => exact ⟨0, rfl, Nat.zero_le _, by omega, HS⟩
  case round =>
    obtain ⟨k, rfl, hk, hg, H⟩ := hrel
    clear HS
    have hsz := H.out.1.size
    by_cases hlt : (k : Int) < n
    · by_cases h0 : k = 0
      · subst h0
        have hS : St wr B b I A L (outAt P (0 + 1)) (xiAt 0) (xaAt P.length 0) (xlAt 0) := by
          rw [Nat.zero_add, outAt_one, ← outAt_zero]
          exact H.out.1
        have CC := call_st B b I A L 0 P wr hS (by omega) hP
        have HB : Hid (Below B w wr) := H.out.2
        clear H hS
        go_wp2_with fail
        refine CC.mono ?_
        rintro e w2 ⟨⟨v, rfl⟩, hS2, hb2⟩
        clear CC
        have H2 : Hid (St w2 B b I A L (outAt P (0 + 1)) (xiAt (0 + 1)) (xaAt P.length (0 + 1)) (xlAt (0 + 1)) ∧ Below B w w2) := ⟨hS2, HB.out.trans hb2⟩
        clear hS2 hb2 HB
        go_wp2_with fail
        go_roundg (n.toNat - 1)
        case measure => omega
        case rel => exact ⟨1, by go_num, by omega, Nat.le_refl _, H2⟩
      · have CW := wb_st B b I A L 44 _ _ _ _ wr H.out.1 (by rw [outAt_len]; omega)
        have HB : Hid (Below B w wr) := H.out.2
        clear H
        go_wp2_with fail
        refine CW.mono ?_
        rintro e w1 ⟨rfl, hS1, hb1⟩
        clear CW
        rw [outAt_succ P k (by omega)] at hS1
        have CC := call_st B b I A L k P w1 hS1 (by omega) hP
        have HB1 : Hid (Below B w w1) := HB.out.trans hb1
        clear hS1 hb1 HB
        go_wp2_with fail
        refine CC.mono ?_
        rintro e w2 ⟨⟨v, rfl⟩, hS2, hb2⟩
        clear CC
        have H2 : Hid (St w2 B b I A L (outAt P (k + 1)) (xiAt (k + 1)) (xaAt P.length (k + 1)) (xlAt (k + 1)) ∧ Below B w w2) := ⟨hS2, HB1.out.trans hb2⟩
        clear hS2 hb2 HB1
        go_wp2_with fail
        go_roundg (n.toNat - (k + 1))
        case measure => omega
        case rel => exact ⟨k + 1, by go_num, by omega, Nat.le_refl _, H2⟩
    · obtain rfl : k = n.toNat := by omega
      have CW := wb_st B b I A L 93 _ _ _ _ wr H.out.1 (by rw [outAt_len]; omega)
      have HB : Hid (Below B w wr) := H.out.2
      clear H
      go_wp2_with fail
      refine CW.mono ?_
      rintro e w1 ⟨rfl, hS1, hb1⟩
      clear CW
      have H2 : Hid (St w1 B b I A L (outAt P n.toNat ++ [.int .u8 93]) (xiAt n.toNat) (xaAt P.length n.toNat) (xlAt n.toNat) ∧ Below B w w1) := ⟨hS1, HB.out.trans hb1⟩
      clear hS1 hb1 HB
      go_wp2_with fail
      go_end0
      exact ⟨⟨_, rfl⟩, H2.out.1, H2.out.2⟩
end Go.Proofs.Qxb6605697aDoor
