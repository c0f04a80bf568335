import Derived.Test.Qxb6606016aInv5
namespace Go.Proofs.Qxb6606016a
open Go.RowKit Go.MuLone
set_option linter.unusedVariables false

theorem key_lit5 {xs : Array Value} {l : Lit} (h : IsId xs l) : WideAt.IsKeyLit l := law50.key h.2.2

theorem load_id {w : World} {b o : Nat} {xs : Array Value} {l : Lit} (h : IsId xs l) (hr : w.rangeAt b o xs.toList) (q : Nat) : (Instr.loadAt 22 (.pointer (some ⟨b, o, none⟩))).run Try.prog (w.drewN q) = .ok (.agg xs) (w.drewN q) := by
  have := run_loadAt_mid (P := Try.prog) (w.drewN q) b o 22 xs.toList (.array 16 5) hr Try.underlying22 rfl (by rw [Array.length_toList, h.1]; kernel_rfl)
  simpa using this

set_option maxRecDepth 100000 in
set_option maxHeartbeats 1000000 in
theorem law5 (a : Option Addr) (n c : Nat) (X : Nat → Array Value) (K : Nat → Lit) (w : World)
    (hpos : 0 < n → ∃ b off, a = some ⟨b, off, none⟩ ∧ b < w.heap.size ∧ ∀ i, i < n → w.rangeAt b (off + i * 16) (X i).toList) (hnil : a = none → c = 0) (hid : ∀ i, i < n → IsId (X i) (K i)) :
    Calls Try.prog 5 #[.slice a n c] w fun e w' => e = .returned (.bool true) ∧ Below w.heap.size w w' := by
  have CB := bytes5_any a n c w
  have CC0 := fun hn => cloneIDs_any a n c X K w hn hpos hnil hid
  have HI : Hid (∀ i, i < n → IsId (X i) (K i)) := hid
  clear hpos hnil hid
  go_enter Try.func5, Try.ntmps5
  go_wp2_with fail
  refine CB.mono ?_
  rintro e w1 ⟨⟨x, rfl⟩, rfl⟩
  clear CB
  cases x with
  | false => go_wp2; go_ret; exact ⟨rfl, Below.refl _ _⟩
  | true =>
  by_cases hn0 : ¬ n ≤ 4096
  · clear CC0; go_wp2; go_ret; exact ⟨rfl, Below.refl _ _⟩
  have hn : n ≤ 4096 := Nat.le_of_not_lt (fun h => hn0 (by omega))
  clear hn0
  have CC := CC0 hn
  clear CC0
  go_wp2_with fail
  refine CC.mono ?_
  rintro e w2 ⟨a', rfl, ha, hc2, hB2⟩
  have CN := new_any w2
  have HA : Hid (0 < n → a' = some ⟨w1.heap.size, 0, none⟩ ∧ w1.heap.size < w2.heap.size) := ha
  have HC2 : Hid (∀ i, i < n → w2.rangeAt w1.heap.size (i * 16) (X i).toList) := hc2
  clear CC ha hc2
  go_wp2_with fail
  refine CN.mono ?_
  rintro e w3 ⟨rfl, hO3, hB3, hs3⟩
  clear CN
  have hw2 := hB2.size
  have L0 : L5 w1 w3 w1.heap.size w2.heap.size n 0 0 X K := ⟨fun i hi => range_below hB3 (HA.out (by omega)).2 (HC2.out i hi), fun h => (HA.out h).2, hB2.trans (hB3.mono hw2), Nat.le_refl _, hw2, Nat.le_refl _, none, _, hO3, PSt.zero K, rfl⟩
  have HL0 : Hid (L5 w1 w3 w1.heap.size w2.heap.size n 0 0 X K) := L0
  clear L0 hO3 hB3 HC2 hB2
  go_wp2_with fail
  go_loopg [4, 5] n (fun g s4 s5 wr => ∃ k d : Nat, s5 = .int .i64 k ∧ s4 = .int .i64 d ∧ k ≤ n ∧ n - k ≤ g ∧ Hid (L5 w1 wr w1.heap.size w2.heap.size n k d X K))
  case atStart => exact ⟨0, 0, rfl, rfl, Nat.zero_le _, by omega, HL0.out⟩
  case round =>
    obtain ⟨k, d, rfl, rfl, hk, hg, I⟩ := hrel
    have hdk := I.out.dk
    by_cases hlt : k < n
    · obtain ⟨rfl, hcb⟩ := HA.out (by omega)
      go_wp2
      go_loopg [6, 7] k (fun g s6 s7 wi => ∃ j q : Nat, s6 = .bool false ∧ s7 = .int .i64 j ∧ j ≤ k ∧ k - j ≤ g ∧ wi = wr.drewN q ∧ Hid (∀ i, i < j → K i ≠ K k))
      case atStart => exact ⟨0, 0, rfl, rfl, Nat.zero_le _, by omega, rfl, fun i hi => absurd hi (Nat.not_lt_zero _)⟩
      case round =>
        obtain ⟨j, q, rfl, rfl, hj, hgj, rfl, N⟩ := hrel
        have I' := Hid.mk' (I.out.drewN q)
        by_cases hjl : j < k
        · have rj : Hid (∀ q', (Instr.loadAt 22 (.pointer (some ⟨w1.heap.size, j * 16, none⟩))).run Try.prog ((wr.drewN q).drewN q') = .ok (.agg (X j)) ((wr.drewN q).drewN q')) := load_id (HI.out j (by omega)) (I'.out.copy j (by omega))
          have rk : Hid (∀ q', (Instr.loadAt 22 (.pointer (some ⟨w1.heap.size, k * 16, none⟩))).run Try.prog ((wr.drewN q).drewN q') = .ok (.agg (X k)) ((wr.drewN q).drewN q')) := load_id (HI.out k hlt) (I'.out.copy k hlt)
          by_cases hy : K j = K k
          · have hq := fun w => eq22 (b := true) (HI.out j (by omega)) (HI.out k hlt) (by simp [hy]) w
            have HS : Hid (∃ j, j < k ∧ K j = K k) := ⟨j, hjl, hy⟩
            clear hy
            go_wp2
            refine wp_region_quiet_lit (by kernel_rfl) (by kernel_rfl) ?_
            repeat (first | go_big_quiet_skip | (go_big_quiet_want; first | ((first | (refine BigFrame5.quiet_load 22 _ rfl (.agg (X j)) (by rintro _ ⟨m, rfl⟩; exact rj.out m) ?_) | (refine BigFrame5.quiet_load 22 _ rfl (.agg (X k)) (by rintro _ ⟨m, rfl⟩; exact rk.out m) ?_)); simp only [Act.put, List.setIfInBounds_toArray, List.set_cons_succ, List.set_cons_zero]; go_big_quiet_on) | (go_big_quiet_op; go_big_quiet_on)))
            refine wpQuiet_nil ?_
            intro _ hw'
            obtain ⟨nq, hw''⟩ := hw'
            subst hw''
            obtain ⟨m, D, hO, hP, hz⟩ := (I.out.drewN (q + nq)).st
            have CS := shapeX w2.heap.size k m (X k) D (K k) (wr.drewN (q + nq)) (HI.out k hlt) hO (by unfold maxLen; omega) hP.isMap
            have HO : Hid (OSt (wr.drewN (q + nq)) w2.heap.size m k D) := hO
            have HP : Hid (PSt D K k) := hP
            have HZ : Hid (Maps.size D = d) := hz
            have HRk : Hid ((wr.drewN (q + nq)).rangeAt w1.heap.size (k * 16) (X k).toList) := (I.out.drewN (q + nq)).copy k hlt
            clear hO hP hz
            go_wp2_with (refine wpList_load_mid rfl 22 _ rfl w1.heap.size (k * 16) rfl (X k).toList (.array 16 5) HRk.out Try.underlying22 rfl (by rw [Array.length_toList, (HI.out k hlt).1]; kernel_rfl) ?_)
            refine CS.mono ?_
            rintro e w5 ⟨rfl, ⟨m', r, hO5⟩, hK5⟩
            have CR := running_any w2.heap.size (k + 1) m' _ w5 hO5
            have hz5 : Maps.size (D.put (K k) (.held (some r))) = d := by rw [HP.out.size_seen HS.out, HZ.out]
            have HL5 : Hid (L5 w1 w5 w1.heap.size w2.heap.size n (k + 1) (d) X K) := (I.out.drewN (q + nq)).next HO.out HP.out (key_lit5 (HI.out k hlt)) hO5 hK5 hz5 (by omega)
            rw [hz5] at CR
            clear CS HRk hO5 hK5 hz5
            go_wp2_with fail
            refine CR.mono ?_
            rintro e w6 ⟨rfl, rfl⟩
            clear CR
            go_wp2
            go_roundg (n - (k + 1))
            case measure => omega
            case rel => exact ⟨k + 1, d, by go_num, by go_num, by omega, Nat.le_refl _, HL5.out⟩
          · have hq := fun w => eq22 (b := false) (HI.out j (by omega)) (HI.out k hlt) (by simp [hy]) w
            have N' : Hid (∀ i, i < j + 1 → K i ≠ K k) := fun i hi => by
              rcases Nat.lt_succ_iff_lt_or_eq.1 hi with h | rfl
              · exact N.out i h
              · exact hy
            clear hy
            go_wp2
            refine wp_region_quiet_lit (by kernel_rfl) (by kernel_rfl) ?_
            repeat (first | go_big_quiet_skip | (go_big_quiet_want; first | ((first | (refine BigFrame5.quiet_load 22 _ rfl (.agg (X j)) (by rintro _ ⟨m, rfl⟩; exact rj.out m) ?_) | (refine BigFrame5.quiet_load 22 _ rfl (.agg (X k)) (by rintro _ ⟨m, rfl⟩; exact rk.out m) ?_)); simp only [Act.put, List.setIfInBounds_toArray, List.set_cons_succ, List.set_cons_zero]; go_big_quiet_on) | (go_big_quiet_op; go_big_quiet_on)))
            refine wpQuiet_nil ?_
            intro _ hw'
            obtain ⟨nq, hw''⟩ := hw'
            subst hw''
            go_wp2
            go_roundg (k - (j + 1))
            case measure => omega
            case rel => exact ⟨j + 1, q + nq, rfl, by go_num, by omega, Nat.le_refl _, rfl, N'.out⟩
        · have N' : Hid (∀ i, i < k → K i ≠ K k) := fun i hi => N.out i (by omega)
          obtain ⟨m, D, hO, hP, hz⟩ := (I.out.drewN (q)).st
          have CS := shapeX w2.heap.size k m (X k) D (K k) (wr.drewN (q)) (HI.out k hlt) hO (by unfold maxLen; omega) hP.isMap
          have HO : Hid (OSt (wr.drewN (q)) w2.heap.size m k D) := hO
          have HP : Hid (PSt D K k) := hP
          have HZ : Hid (Maps.size D = d) := hz
          have HRk : Hid ((wr.drewN (q)).rangeAt w1.heap.size (k * 16) (X k).toList) := (I.out.drewN (q)).copy k hlt
          clear hO hP hz
          go_wp2_with (refine wpList_load_mid rfl 22 _ rfl w1.heap.size (k * 16) rfl (X k).toList (.array 16 5) HRk.out Try.underlying22 rfl (by rw [Array.length_toList, (HI.out k hlt).1]; kernel_rfl) ?_)
          refine CS.mono ?_
          rintro e w5 ⟨rfl, ⟨m', r, hO5⟩, hK5⟩
          have CR := running_any w2.heap.size (k + 1) m' _ w5 hO5
          have hz5 : Maps.size (D.put (K k) (.held (some r))) = d + 1 := by rw [HP.out.size_new N'.out, HZ.out]
          have HL5 : Hid (L5 w1 w5 w1.heap.size w2.heap.size n (k + 1) (d + 1) X K) := (I.out.drewN (q)).next HO.out HP.out (key_lit5 (HI.out k hlt)) hO5 hK5 hz5 (by omega)
          rw [hz5] at CR
          clear CS HRk hO5 hK5 hz5
          go_wp2_with fail
          refine CR.mono ?_
          rintro e w6 ⟨rfl, rfl⟩
          clear CR
          go_wp2
          go_roundg (n - (k + 1))
          case measure => omega
          case rel => exact ⟨k + 1, d + 1, by go_num, by go_num, by omega, Nat.le_refl _, HL5.out⟩
    · obtain rfl : n = k := by omega
      go_wp2
      go_loopg [11] n (fun g s11 wr => ∃ k : Nat, s11 = .int .i64 k ∧ k ≤ n ∧ n - k ≤ g ∧ Hid (L5 w1 wr w1.heap.size w2.heap.size n n d X K))
      case atStart => exact ⟨0, rfl, Nat.zero_le _, by omega, I.out⟩
      case round =>
        clear I
        obtain ⟨k, rfl, hk, hg, I⟩ := hrel
        by_cases hlt : k < n
        · obtain ⟨rfl, hcb⟩ := HA.out (by omega)
          obtain ⟨m, D, hO, hP, hz⟩ := I.out.st
          obtain ⟨r, hr⟩ := hP.held (K k)
          have CS := runsX w2.heap.size n m (X k) D (K k) r wr (HI.out k hlt) hO ((hP.has _).2 ⟨k, hlt, rfl⟩) hr
          have HRk : Hid (wr.rangeAt w1.heap.size (k * 16) (X k).toList) := I.out.copy k hlt
          clear hO hP hz hr
          go_wp2_with (refine wpList_load_mid rfl 22 _ rfl w1.heap.size (k * 16) rfl (X k).toList (.array 16 5) HRk.out Try.underlying22 rfl (by rw [Array.length_toList, (HI.out k hlt).1]; kernel_rfl) ?_)
          refine CS.mono ?_
          rintro e w5 ⟨rfl, hB5⟩
          have HL5 := Hid.mk' (I.out.below hB5)
          clear CS hB5
          go_wp2
          go_roundg (n - (k + 1))
          case measure => omega
          case rel => exact ⟨k + 1, by go_num, by omega, Nat.le_refl _, HL5.out⟩
        · go_wp2
          go_ret
          exact ⟨rfl, I.out.bel⟩
end Go.Proofs.Qxb6606016a
