import Derived.Test.Qxb6605697aDoorLaw3
namespace Go.Proofs.Qxb6605697aDoor
open Go.RowKit
set_option linter.unusedVariables false

theorem zz7 (a : Option Addr) (n c : Nat) (k : Int) (w : World) (hn : n ≤ 1048576) : Calls Tryd.prog 7 #[.slice a n c, .int .i64 k] w fun e w' => e = .returned (.bool true) ∧ w' = w := by
  go_enter Tryd.func7, Tryd.ntmps7
  go_wp2
  go_ret
  exact ⟨rfl, rfl⟩
theorem zz7_far (a : Option Addr) (n c : Nat) (k : Int) (w : World) (hn : ¬ n ≤ 1048576) : Calls Tryd.prog 7 #[.slice a n c, .int .i64 k] w fun e w' => e = .returned (.bool false) ∧ w' = w := by
  go_enter Tryd.func7, Tryd.ntmps7
  go_wp2
  go_ret
  exact ⟨rfl, rfl⟩

theorem xi_at {m i : Nat} (h : i < m) : (xiAt m)[i]? = some (.int .i64 i) := by
  rw [xiAt, List.getElem?_map, List.getElem?_range h]
  rfl
theorem xa_at {p m i : Nat} (h : i < m) : (xaAt p m)[i]? = some (.int .i64 ((p + i : Nat) + 1)) := by
  rw [xaAt, List.getElem?_map, List.getElem?_range h]
  rfl
theorem xl_at {m i : Nat} (h : i < m) : (xlAt m)[i]? = some (.int .u8 (lastAt i)) := by
  rw [xlAt, List.getElem?_map, List.getElem?_range h]
  rfl

/-- what stands behind ZZwriteJSONArray. -/
structure Inv4 (w wx : World) (g n : Nat) (cs : List Value) (m : Nat) (a' ai aa al : Option Addr) : Prop where
  out : Row wx (some ⟨g, 0, none⟩) (outF cs m)
  pre : Row wx a' cs
  idx : Row wx ai (xiAt m)
  at' : Row wx aa (xaAt n m)
  last : Row wx al (xlAt m)
  bel : Below w.heap.size w wx
theorem Inv4.drewN {w wx : World} {g n m : Nat} {cs : List Value} {a' ai aa al : Option Addr} (h : Inv4 w wx g n cs m a' ai aa al) (q : Nat) : Inv4 w (wx.drewN q) g n cs m a' ai aa al :=
  ⟨h.out.drewN q, h.pre.drewN q, h.idx.drewN q, h.at'.drewN q, h.last.drewN q, h.bel.trans ⟨rfl, rfl, rfl, Nat.le_refl _, fun _ _ => rfl⟩⟩

set_option maxRecDepth 100000 in
set_option maxHeartbeats 2000000 in
theorem law4 (a : Option Addr) (n c : Nat) (cs : List Value) (k : Int) (w : World) (hp : Pre w a n c cs) (hn : n ≤ 1048576) (hk : k ≤ 65536) :
    Calls Tryd.prog 4 #[.slice a n c, .int .i64 k] w fun e w' => e = .returned (.bool true) ∧ Below w.heap.size w w' := by
  have hnil := fun w n (c : Nat) (a : Option Addr) => Lib.run_eql_slice_nil (P := Tryd.prog) w 22 5 a n c 0 0 Tryd.underlying22
  have hmk := run_make_row' (P := Tryd.prog) 22 5 (.int .u8 0) 1 Tryd.underlying22 info5' rfl .i64 .i64 n (by omega) (by omega)
  have HP : Hid (Pre w a n c cs) := hp
  clear hp
  have C7 := zz7 a n c k w hn
  go_enter Tryd.func4, Tryd.ntmps4
  go_wp2_with fail
  refine C7.mono ?_
  rintro e w1 ⟨rfl, hw1⟩
  have hw1' := hw1.symm
  subst hw1'
  clear C7
  go_upto_if 24 with fail
  go_cut [0, 5] (fun s0 s5 wx => ∃ a' c', s0 = .slice a' n c' ∧ Hid (Row wx a' cs ∧ Below w.heap.size w wx))
  case first =>
    cases a with
    | none =>
      obtain ⟨rfl, rfl⟩ := HP.out.nil rfl
      go_wp2_with fail
      go_meet
      refine ⟨_, _, rfl, fun j u hu => ?_, Below.refl _ _⟩
      have hcs : cs = [] := List.eq_nil_of_length_eq_zero HP.out.len
      rw [hcs] at hu
      simp at hu
    | some x =>
      obtain ⟨wf, hcp, hrow, hbel⟩ := copied w x n c cs HP.out
      have HR : Hid (Row wf (some ⟨w.heap.size, 0, none⟩) cs ∧ Below w.heap.size w wf) := ⟨hrow, hbel⟩
      clear hrow hbel
      go_wp2_with fail
      go_meet
      exact ⟨_, _, rfl, HR⟩
  case rest =>
    obtain ⟨a', c', rfl, HR⟩ := hcut
    have CZ := zzArr' a' n c' cs k wc HP.out.len HP.out.one hn hk HR.out.1
    clear hmk hnil
    go_wp2_with fail
    refine CZ.mono ?_
    rintro e w2 ⟨g, cap, ai, ci, aa, ca, al, cl, rfl, hcap, r0, ri, ra, rl, hb2⟩
    clear CZ
    have hb3 : Below w.heap.size w w2 := HR.out.2.trans (hb2.mono HR.out.2.size)
    have H : Hid (Inv4 w w2 g n cs k.toNat a' ai aa al) := ⟨r0, HR.out.1.below hb2, ri, ra, rl, hb3⟩
    clear r0 ri ra rl hb2 hb3 HR
    obtain ⟨cm, hcm⟩ : ∃ cm, (outF cs k.toNat).length = n + cm := ⟨(outF cs k.toNat).length - n, by rw [outF_len, HP.out.len]; omega⟩
    have hcm2 : cm ≤ 131072 := by rw [outF_len, HP.out.len] at hcm; omega
    rw [hcm] at hcap ⊢
    clear hcm
    obtain ⟨m, hm⟩ : ∃ m, k.toNat = m := ⟨_, rfl⟩
    have HM : Hid (k.toNat = m) := hm
    have hm2 : m ≤ 65536 := by omega
    rw [hm] at H ⊢
    go_upto_if 41 with fail
    go_cut [10] (fun s10 wx => s10 = .int .i64 m ∧ wx = w2)
    case first =>
      by_cases h1 : 0 < k
      · go_wp2_with fail
        go_meet
        exact ⟨by congr 1; omega, rfl⟩
      · go_wp2_with fail
        go_meet
        exact ⟨by congr 1; omega, rfl⟩
    case rest =>
      obtain ⟨rfl, hw2⟩ := hcut
      have hw2' := hw2.symm
      subst hw2'
      clear hm
      go_wp2_with fail
      go_loopg [11] n (fun gg s11 wx => ∃ i : Nat, s11 = .int .i64 i ∧ i ≤ n ∧ n - i ≤ gg ∧ Hid (Inv4 w wx g n cs m a' ai aa al))
      case atStart => exact ⟨0, rfl, Nat.zero_le _, by omega, H⟩
      case round =>
        clear H
        obtain ⟨i, rfl, hi, hg, H⟩ := hrel
        by_cases hlt : i < n
        · have hlt' : i < cs.length := by have := HP.out.len; omega
          obtain ⟨z, hz⟩ := HP.out.u8 cs[i] (List.getElem_mem hlt')
          have e1 : cs[i]? = some (.int .u8 z) := by rw [List.getElem?_eq_getElem hlt', hz]
          obtain ⟨gp, rfl, cp⟩ := H.out.pre i _ e1
          obtain ⟨g', eg, co⟩ := H.out.out i _ ((out_pre hlt').trans e1)
          cases eg
          clear e1 hz hlt'
          go_wp2_with fail
          go_quiet (fail)
          go_wp2_with fail
          go_roundg (n - (i + 1))
          case measure => omega
          case rel => exact ⟨i + 1, by go_num, by omega, Nat.le_refl _, H.out.drewN nq⟩
        · obtain rfl : i = n := by omega
          go_wp2_with fail
          go_loopg [12, 13] m (fun gg s12 s13 wx => ∃ j : Nat, s12 = .int .i64 j ∧ j ≤ m ∧ m - j ≤ gg ∧ Hid (Inv4 w wx g i cs m a' ai aa al))
          case atStart => exact ⟨0, rfl, Nat.zero_le _, by omega, H⟩
          case round =>
            clear H
            obtain ⟨j, rfl, hj, hg2, H⟩ := hrel
            by_cases hlt2 : j < m
            · obtain ⟨gi, rfl, ci'⟩ := H.out.idx j _ (xi_at hlt2)
              obtain ⟨ga, rfl, ca'⟩ := H.out.at' j _ (xa_at hlt2)
              obtain ⟨gl, rfl, cl'⟩ := H.out.last j _ (xl_at hlt2)
              have ea : (((i + j : Nat) : Int) + 1) = (i : Int) + 1 + (j : Int) := by omega
              rw [ea] at ca'
              clear ea
              by_cases hj0 : j = 0
              · subst hj0
                simp only [lastAt, if_true] at cl'
                go_wp2_with fail
                go_roundg (m - 1)
                case measure => omega
                case rel => exact ⟨1, by go_num, by omega, Nat.le_refl _, H⟩
              · simp only [lastAt, if_neg hj0] at cl'
                go_wp2_with fail
                go_roundg (m - (j + 1))
                case measure => omega
                case rel => exact ⟨j + 1, by go_num, by omega, Nat.le_refl _, H⟩
            · obtain rfl : j = m := by omega
              go_wp2_with fail
              go_ret
              exact ⟨rfl, H.out.bel⟩

theorem law4_far (a : Option Addr) (n c : Nat) (k : Int) (w : World) (hn : ¬ n ≤ 1048576) : Calls Tryd.prog 4 #[.slice a n c, .int .i64 k] w fun e w' => e = .returned (.bool true) ∧ w' = w := by
  have C7 := zz7_far a n c k w hn
  go_enter Tryd.func4, Tryd.ntmps4
  go_wp2_with fail
  refine C7.mono ?_
  rintro e w1 ⟨rfl, hw1⟩
  have hw1' := hw1.symm
  subst hw1'
  clear C7
  go_wp2_with fail
  go_ret
  exact ⟨rfl, rfl⟩

theorem law4_many (a : Option Addr) (n c : Nat) (k : Int) (w : World) (hn : n ≤ 1048576) (hk : ¬ k ≤ 65536) : Calls Tryd.prog 4 #[.slice a n c, .int .i64 k] w fun e w' => e = .returned (.bool true) ∧ w' = w := by
  have C7 := zz7 a n c k w hn
  go_enter Tryd.func4, Tryd.ntmps4
  go_wp2_with fail
  refine C7.mono ?_
  rintro e w1 ⟨rfl, hw1⟩
  have hw1' := hw1.symm
  subst hw1'
  clear C7
  go_wp2_with fail
  go_ret
  exact ⟨rfl, rfl⟩

/-- THE LAW, AT EVERY INPUT. -/
theorem law4_any (a : Option Addr) (n c : Nat) (cs : List Value) (k : Int) (w : World) (hp : Pre w a n c cs) :
    Calls Tryd.prog 4 #[.slice a n c, .int .i64 k] w fun e w' => e = .returned (.bool true) ∧ Below w.heap.size w w' := by
  by_cases hn : n ≤ 1048576
  · by_cases hk : k ≤ 65536
    · exact law4 a n c cs k w hp hn hk
    · exact (law4_many a n c k w hn hk).mono fun e w' ⟨h1, h2⟩ => ⟨h1, h2 ▸ Below.refl _ _⟩
  · exact (law4_far a n c k w hn).mono fun e w' ⟨h1, h2⟩ => ⟨h1, h2 ▸ Below.refl _ _⟩
end Go.Proofs.Qxb6605697aDoor
