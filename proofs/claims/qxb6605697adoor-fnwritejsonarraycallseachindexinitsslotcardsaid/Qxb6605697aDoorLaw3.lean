import Derived.Test.Qxb6605697aDoorZz
import Derived.Laws.CopyOwn
import Derived.Deep.OwnRows
import Derived.Deep.DeepCutAuto
namespace Go.Proofs.Qxb6605697aDoor
open Go.RowKit
set_option linter.unusedVariables false

theorem zz5 (a : Option Addr) (n c : Nat) (k : Int) (w : World) (hn : n ≤ 1048576) : Calls Tryd.prog 5 #[.slice a n c, .int .i64 k] w fun e w' => e = .returned (.bool true) ∧ w' = w := by
  go_enter Tryd.func5, Tryd.ntmps5
  go_wp2
  go_ret
  exact ⟨rfl, rfl⟩
theorem zz5_far (a : Option Addr) (n c : Nat) (k : Int) (w : World) (hn : ¬ n ≤ 1048576) : Calls Tryd.prog 5 #[.slice a n c, .int .i64 k] w fun e w' => e = .returned (.bool false) ∧ w' = w := by
  go_enter Tryd.func5, Tryd.ntmps5
  go_wp2
  go_ret
  exact ⟨rfl, rfl⟩


theorem add_zero_none (g r : Nat) : (⟨g, 0, none⟩ : Addr).add r = ⟨g, r, none⟩ := by
  by_cases h : r = 0 <;> simp [Addr.add, h]
theorem blk_lt {w : World} {a : Addr} {v : Value} (h : w.cell? a = some v) : a.block < w.heap.size := by
  rcases Nat.lt_or_ge a.block w.heap.size with hlt | hge
  · exact hlt
  · simp [World.cell?, Array.getElem?_eq_none hge] at h

/-- a row that was there stands. -/
theorem Row.below {w w' : World} {a : Option Addr} {xs : List Value} (h : Row w a xs) (hb : Below w.heap.size w w') : Row w' a xs := by
  intro j u hu
  obtain ⟨g, rfl, hc⟩ := h j u hu
  exact ⟨g, rfl, (hb.cell (p := ⟨g, j, none⟩) (blk_lt hc)).trans hc⟩

theorem Row.drewN {w : World} {a : Option Addr} {xs : List Value} (h : Row w a xs) (q : Nat) : Row (w.drewN q) a xs := h

/-- ZZwriteJSONArray of a prefix that begins its block. -/
theorem zzArr' (a : Option Addr) (n c : Nat) (cs : List Value) (k : Int) (w : World) (hn : cs.length = n) (h1 : ∀ v ∈ cs, v.oneCell' = true) (hlim : n ≤ 1048576) (hk : k ≤ 65536) (hsrc : Row w a cs) :
    Calls Tryd.prog 6 #[.slice a n c, .int .i64 k] w fun e w' => ∃ g cap ai ci aa ca al cl,
      e = .returned (.tuple #[.slice (some ⟨g, 0, none⟩) (outF cs k.toNat).length cap, .slice ai k.toNat ci, .slice aa k.toNat ca, .slice al k.toNat cl]) ∧ (outF cs k.toNat).length ≤ cap ∧
      Row w' (some ⟨g, 0, none⟩) (outF cs k.toNat) ∧ Row w' ai (xiAt k.toNat) ∧ Row w' aa (xaAt n k.toNat) ∧ Row w' al (xlAt k.toNat) ∧ Below w.heap.size w w' := by
  refine zzArr a n c cs k w hn h1 hlim hk (fun h0 => ?_)
  have hne : 0 < cs.length := by omega
  obtain ⟨g, rfl, hc⟩ := hsrc 0 cs[0] (List.getElem?_eq_getElem hne)
  refine ⟨_, rfl, blk_lt hc, fun j v hv => ?_⟩
  obtain ⟨g', e, hc'⟩ := hsrc j v hv
  cases e
  rw [add_zero_none]
  exact hc'

/-- the made row, filled. -/
theorem row_filled (w : World) (n : Nat) (cs : List Value) (hn : cs.length = n) :
    Row ((w.alloc (.cells (madeCells #[.int .u8 0] n) 5)).setRow w.heap.size ((madeCells #[Value.int .u8 0] n).toList.take 0 ++ (cs ++ (madeCells #[Value.int .u8 0] n).toList.drop (0 + cs.length))).toArray) (some ⟨w.heap.size, 0, none⟩) cs := by
  intro j u hu
  refine ⟨_, rfl, ?_⟩
  have hg := setRow_heap (w.alloc (.cells (madeCells #[.int .u8 0] n) 5)) w.heap.size _ ((madeCells #[Value.int .u8 0] n).toList.take 0 ++ (cs ++ (madeCells #[Value.int .u8 0] n).toList.drop (0 + cs.length))).toArray 5 (0, 0) (heap_alloc_new w _)
  rw [Lib.cell_of_heap hg]
  have hj : j < cs.length := (List.getElem?_eq_some_iff.1 hu).1
  simp [List.getElem?_append_left hj, hu]

/-- what the walk is told of the argument. -/
structure Pre (w : World) (a : Option Addr) (n c : Nat) (cs : List Value) : Prop where
  len : cs.length = n
  u8 : ∀ v ∈ cs, ∃ z, v = .int .u8 z
  nil : a = none → n = 0 ∧ c = 0
  src : ∀ x, a = some x → ∀ j v, cs[j]? = some v → w.cell? (x.add j) = some v

theorem Pre.one {w : World} {a : Option Addr} {n c : Nat} {cs : List Value} (h : Pre w a n c cs) : ∀ v ∈ cs, v.oneCell' = true := fun v hv => by
  obtain ⟨z, rfl⟩ := h.u8 v hv
  rfl

theorem outF_len (cs : List Value) (m : Nat) : (outF cs m).length = cs.length + 2 + (m - 1) := by
  rw [outF, List.length_append, outAt_len]
  simp
  omega
theorem out_pre {cs : List Value} {m i : Nat} (h : i < cs.length) : (outF cs m)[i]? = cs[i]? := by
  rw [outF, outAt, List.append_assoc, List.append_assoc, List.getElem?_append_left h]
theorem out_open {cs : List Value} {m : Nat} : (outF cs m)[cs.length]? = some (.int .u8 91) := by
  simp [outF, outAt]
theorem out_comma {cs : List Value} {m i : Nat} (h1 : cs.length + 1 ≤ i) (h2 : i < cs.length + 1 + (m - 1)) : (outF cs m)[i]? = some (.int .u8 44) := by
  have e : (outAt cs m).length = cs.length + 1 + (m - 1) := outAt_len cs m
  rw [outF, List.getElem?_append_left (by omega), outAt, List.getElem?_append_right (by simp; omega), List.getElem?_replicate, if_pos (by simp; omega)]
theorem out_close {cs : List Value} {m i : Nat} (h : i = cs.length + 1 + (m - 1)) : (outF cs m)[i]? = some (.int .u8 93) := by
  have e : (outAt cs m).length = cs.length + 1 + (m - 1) := outAt_len cs m
  rw [outF, List.getElem?_append_right (by omega), h, e]
  simp

/-- the copy: the same bytes in a new block. -/
theorem copied (w : World) (x : Addr) (n c : Nat) (cs : List Value) (hp : Pre w (some x) n c cs) : ∃ wf, (Builtin.copy_ #[22, 22] 3 #[.slice (some ⟨w.heap.size, 0, none⟩) n n, .slice (some x) n c]).run Tryd.prog (w.alloc (.cells (madeCells #[.int .u8 0] n) 5)) = .ok (goInt n) wf ∧
    Row wf (some ⟨w.heap.size, 0, none⟩) cs ∧ Below w.heap.size w wf := by
  have hb : Below w.heap.size w (w.alloc (.cells (madeCells #[.int .u8 0] n) 5)) := (Below.refl _ _).alloc (Nat.le_refl _) _
  have hlt : ∀ j v, cs[j]? = some v → x.block < w.heap.size := fun j v hv => by
    have := blk_lt (hp.src x rfl j v hv)
    revert this
    unfold Addr.add
    split <;> exact id
  refine ⟨_, (run_copy_row (P := Tryd.prog) (w.alloc (.cells (madeCells #[.int .u8 0] n) 5)) 22 22 3 5 w.heap.size 0 n n x n c (madeCells #[.int .u8 0] n) 5 cs Tryd.underlying22 Tryd.info5 (heap_alloc_new w _) (by simp [hp.len]) (fun j v hv => ?_) (by simp [madeCells, hp.len]) hp.one).trans (by rw [hp.len, List.append_assoc]), row_filled w n cs hp.len, below_setRow hb (Nat.le_refl _) _⟩
  refine (hb.cell (p := x.add j) ?_).trans (hp.src x rfl j v hv)
  have := hlt j v hv
  unfold Addr.add
  split <;> exact this

set_option maxRecDepth 100000 in
set_option maxHeartbeats 2000000 in
theorem law3 (a : Option Addr) (n c : Nat) (cs : List Value) (k : Int) (w : World) (hp : Pre w a n c cs) (hn : n ≤ 1048576) (hk : k ≤ 65536) :
    Calls Tryd.prog 3 #[.slice a n c, .int .i64 k] w fun e w' => e = .returned (.bool true) ∧ Below w.heap.size w w' := by
  have hnil := fun w n (c : Nat) (a : Option Addr) => Lib.run_eql_slice_nil (P := Tryd.prog) w 22 5 a n c 0 0 Tryd.underlying22
  have hmk := run_make_row' (P := Tryd.prog) 22 5 (.int .u8 0) 1 Tryd.underlying22 info5' rfl .i64 .i64 n (by omega) (by omega)
  have HP : Hid (Pre w a n c cs) := hp
  clear hp
  have C5 := zz5 a n c k w hn
  go_enter Tryd.func3, Tryd.ntmps3
  go_wp2_with fail
  refine C5.mono ?_
  rintro e w1 ⟨rfl, hw1⟩
  have hw1' := hw1.symm
  subst hw1'
  clear C5
  go_upto_if 23 with fail
  go_cut [0, 5] (fun s0 s5 wx => ∃ a' c', s0 = .slice a' n c' ∧ Hid (Row wx a' cs ∧ Below w.heap.size w wx))
  case first =>
    cases a with
    | none =>
      obtain ⟨rfl, rfl⟩ := HP.out.nil rfl
      go_wp2_with fail
      go_meet
      refine ⟨_, _, rfl, fun j u hu => ?_, Below.refl _ _⟩
      have hcs : cs = [] := List.eq_nil_of_length_eq_zero HP.out.len
      rw [hcs] at hu
      simp at hu
    | some x =>
      obtain ⟨wf, hcp, hrow, hbel⟩ := copied w x n c cs HP.out
      have HR : Hid (Row wf (some ⟨w.heap.size, 0, none⟩) cs ∧ Below w.heap.size w wf) := ⟨hrow, hbel⟩
      clear hrow hbel
      go_wp2_with fail
      go_meet
      exact ⟨_, _, rfl, HR⟩
  case rest =>
    obtain ⟨a', c', rfl, HR⟩ := hcut
    have CZ := zzArr' a' n c' cs k wc HP.out.len HP.out.one hn hk HR.out.1
    clear hmk hnil
    go_wp2_with fail
    refine CZ.mono ?_
    rintro e w2 ⟨g, cap, ai, ci, aa, ca, al, cl, rfl, hcap, r0, ri, ra, rl, hb2⟩
    clear CZ ri ra rl
    have hb3 : Below w.heap.size w w2 := HR.out.2.trans (hb2.mono HR.out.2.size)
    have H : Hid (Row w2 (some ⟨g, 0, none⟩) (outF cs k.toNat) ∧ Row w2 a' cs ∧ Below w.heap.size w w2) := ⟨r0, HR.out.1.below hb2, hb3⟩
    clear r0 hb2 hb3 HR
    obtain ⟨cm, hcm⟩ : ∃ cm, k.toNat - 1 = cm := ⟨_, rfl⟩
    have hol : (outF cs k.toNat).length = n + 1 + cm + 1 := by rw [outF_len, HP.out.len]; omega
    rw [hol] at hcap ⊢
    clear hol
    go_upto_if 40 with fail
    go_cut [10] (fun s10 wx => s10 = .int .i64 cm ∧ wx = w2)
    case first =>
      by_cases h1 : 1 < k
      · go_wp2_with fail
        go_meet
        exact ⟨by congr 1; omega, rfl⟩
      · go_wp2_with fail
        go_meet
        exact ⟨by congr 1; omega, rfl⟩
    case rest =>
      obtain ⟨rfl, hw2⟩ := hcut
      have hw2' := hw2.symm
      subst hw2'
      go_wp2_with fail
      have HCM : Hid (k.toNat - 1 = cm) := hcm
      have hcm2 : cm ≤ 65536 := by omega
      clear hcm
      go_loopg [11] n (fun gg s11 wx => ∃ i : Nat, s11 = .int .i64 i ∧ i ≤ n ∧ n - i ≤ gg ∧ Hid (Row wx (some ⟨g, 0, none⟩) (outF cs k.toNat) ∧ Row wx a' cs ∧ Below w.heap.size w wx))
      case atStart => exact ⟨0, rfl, Nat.zero_le _, by omega, H⟩
      case round =>
        clear H
        obtain ⟨i, rfl, hi, hg, H⟩ := hrel
        by_cases hlt : i < n
        · have hlt' : i < cs.length := by have := HP.out.len; omega
          obtain ⟨z, hz⟩ := HP.out.u8 cs[i] (List.getElem_mem hlt')
          have e1 : cs[i]? = some (.int .u8 z) := by rw [List.getElem?_eq_getElem hlt', hz]
          obtain ⟨gp, rfl, cp⟩ := H.out.2.1 i _ e1
          obtain ⟨g', eg, co⟩ := H.out.1 i _ ((out_pre hlt').trans e1)
          cases eg
          clear e1 hz hlt'
          go_wp2_with fail
          go_quiet (fail)
          go_wp2_with fail
          go_roundg (n - (i + 1))
          case measure => omega
          case rel => exact ⟨i + 1, by go_num, by omega, Nat.le_refl _, H.out.1.drewN nq, H.out.2.1.drewN nq, H.out.2.2.trans ⟨rfl, rfl, rfl, Nat.le_refl _, fun _ _ => rfl⟩⟩
        · obtain rfl : i = n := by omega
          have hlen := HP.out.len
          obtain ⟨g', eg, c1⟩ := H.out.1 cs.length _ out_open
          cases eg
          obtain ⟨g', eg, c2⟩ := H.out.1 (cs.length + 1 + cm) _ (out_close (by have := HCM.out; omega))
          cases eg
          rw [hlen] at c1 c2
          clear hlen
          go_wp2_with fail
          clear c1 c2
          go_loopg [12] (i + 1 + cm) (fun gg s12 wx => ∃ j : Nat, s12 = .int .i64 j ∧ i + 1 ≤ j ∧ j ≤ i + 1 + cm ∧ i + 1 + cm - j ≤ gg ∧ Hid (Row wx (some ⟨g, 0, none⟩) (outF cs k.toNat) ∧ Below w.heap.size w wx))
          case atStart => exact ⟨i + 1, by go_num, Nat.le_refl _, by omega, by omega, H.out.1, H.out.2.2⟩
          case round =>
            clear H
            obtain ⟨j, rfl, hj1, hj2, hg2, H⟩ := hrel
            by_cases hlt2 : j < i + 1 + cm
            · obtain ⟨g', eg, c1⟩ := H.out.1 j _ (out_comma (by have := HP.out.len; omega) (by have := HP.out.len; have := HCM.out; omega))
              cases eg
              go_wp2_with fail
              go_roundg (i + 1 + cm - (j + 1))
              case measure => omega
              case rel => exact ⟨j + 1, by go_num, by omega, by omega, Nat.le_refl _, H⟩
            · obtain rfl : j = i + 1 + cm := by omega
              go_wp2_with fail
              go_ret
              exact ⟨rfl, H.out.2⟩

theorem law3_far (a : Option Addr) (n c : Nat) (k : Int) (w : World) (hn : ¬ n ≤ 1048576) : Calls Tryd.prog 3 #[.slice a n c, .int .i64 k] w fun e w' => e = .returned (.bool true) ∧ w' = w := by
  have C5 := zz5_far a n c k w hn
  go_enter Tryd.func3, Tryd.ntmps3
  go_wp2_with fail
  refine C5.mono ?_
  rintro e w1 ⟨rfl, hw1⟩
  have hw1' := hw1.symm
  subst hw1'
  clear C5
  go_wp2_with fail
  go_ret
  exact ⟨rfl, rfl⟩

theorem law3_many (a : Option Addr) (n c : Nat) (k : Int) (w : World) (hn : n ≤ 1048576) (hk : ¬ k ≤ 65536) : Calls Tryd.prog 3 #[.slice a n c, .int .i64 k] w fun e w' => e = .returned (.bool true) ∧ w' = w := by
  have C5 := zz5 a n c k w hn
  go_enter Tryd.func3, Tryd.ntmps3
  go_wp2_with fail
  refine C5.mono ?_
  rintro e w1 ⟨rfl, hw1⟩
  have hw1' := hw1.symm
  subst hw1'
  clear C5
  go_wp2_with fail
  go_ret
  exact ⟨rfl, rfl⟩

/-- THE LAW, AT EVERY INPUT. -/
theorem law3_any (a : Option Addr) (n c : Nat) (cs : List Value) (k : Int) (w : World) (hp : Pre w a n c cs) :
    Calls Tryd.prog 3 #[.slice a n c, .int .i64 k] w fun e w' => e = .returned (.bool true) ∧ Below w.heap.size w w' := by
  by_cases hn : n ≤ 1048576
  · by_cases hk : k ≤ 65536
    · exact law3 a n c cs k w hp hn hk
    · exact (law3_many a n c k w hn hk).mono fun e w' ⟨h1, h2⟩ => ⟨h1, h2 ▸ Below.refl _ _⟩
  · exact (law3_far a n c k w hn).mono fun e w' ⟨h1, h2⟩ => ⟨h1, h2 ▸ Below.refl _ _⟩
end Go.Proofs.Qxb6605697aDoor
