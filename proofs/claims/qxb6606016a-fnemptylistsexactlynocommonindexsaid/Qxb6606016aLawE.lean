import Derived.Test.Qxb6606016aPlainE
namespace Go.Proofs.Qxb6606016a
open Go.RowKit
set_option linter.unusedVariables false

/-- THE FIRST j STEPS OF A LIST RISE. -/
def Rises (Z : Nat → Int) (j : Nat) : Prop := ∀ i, i < j → Z i ≤ Z (i + 1)
theorem rises_sorted {Z : Nat → Int} {n j : Nat} (h : Rises Z j) (hj : n ≤ j + 1) : Sorted Z n := by
  intro p q hpq
  induction q with
  | zero => intro _; obtain rfl : p = 0 := by omega
            exact Int.le_refl _
  | succ q ih =>
    intro hq
    rcases Nat.lt_succ_iff_lt_or_eq.1 (Nat.lt_succ_of_le hpq) with hlt | rfl
    · have a := ih (by omega) (by omega)
      have b := h q (by omega)
      omega
    · exact Int.le_refl _

theorem rises_step {Z : Nat → Int} {m : Nat} (h : Rises Z m) (hz : Z m ≤ Z (m + 1)) : Hid (Rises Z (m + 1)) := by
  intro i hi
  rcases Nat.lt_succ_iff_lt_or_eq.1 hi with h' | rfl
  · exact h i h'
  · exact hz
theorem sorted_step {Z : Nat → Nat → Int} {L : Nat → Nat} {j : Nat} (h : ∀ i, i < j → Sorted (Z i) (L i)) (hj : Sorted (Z j) (L j)) : Hid (∀ i, i < j + 1 → Sorted (Z i) (L i)) := by
  intro i hi
  rcases Nat.lt_succ_iff_lt_or_eq.1 hi with h' | rfl
  · exact h i h'
  · exact hj
theorem below_drewN (B : Nat) (w : World) (q : Nat) : Below B w (w.drewN q) := ⟨rfl, rfl, rfl, Nat.le_refl _, fun _ _ => rfl⟩

theorem cloned_val {W1 wx : World} {B n : Nat} {A : Nat → Option Addr} {L : Nat → Nat} {Z : Nat → Nat → Int} (h : Cloned W1 B n n A L Z) (hb : Below W1.heap.size W1 wx) (hL : ∀ i, i < n → L i ≤ 1048576) (hs : ∀ i, i < n → Sorted (Z i) (L i)) :
    ListsVal wx.heap.size wx (some ⟨B, 0, none⟩) n A L Z := by
  intro _
  refine ⟨B, 0, rfl, Nat.lt_of_lt_of_le h.1.lt hb.size, fun i hi x hx h0 => Nat.lt_of_lt_of_le ((h.2 i hi).2 x hx h0).2 hb.size, fun i hi => ⟨?_, (h.2 i hi).1.below hb (fun x hx h0 => ((h.2 i hi).2 x hx h0).2), hL i hi, hs i hi⟩⟩
  have := h.1.cell hi
  rw [Nat.zero_add, hb.cell (p := ⟨B, i, none⟩) h.1.lt, this]
  simp [laidTo, hi]

theorem yes_of {p : Prop} {y : Bool} (hy : y = true ↔ p) (h : p) : y = true := hy.2 h
theorem no_of {p : Prop} {y : Bool} (hy : y = true ↔ ¬ p) (h : p) : y = false := by
  cases y with
  | true => exact absurd h (hy.1 rfl)
  | false => rfl

theorem places_bump' {P : Nat → Nat} {j p : Nat} (hp : P j = p) (n : Nat) : ∀ i, i < n → (fun x => if x = j then Value.int .i64 ((p : Int) + 1) else places P x) i = places (bump P j) i := by
  subst hp
  exact places_bump P j n
theorem have_eq {L : Nat → Nat} {Z : Nat → Nat → Int} {P : Nat → Nat} {j k p : Nat} {f y : Int} (hf : Z 0 k = f) (hp : P j = p) (hy : Z j p = y) (hlt : p < L j) (he : y = f) : has (Z j) (L j) f = true :=
  has_iff.2 ⟨p, hlt, by rw [hy, he]⟩
theorem lack_ne {n : Nat} {L : Nat → Nat} {Z : Nat → Nat → Int} {P : Nat → Nat} {j k p : Nat} {f y : Int} (hf : Z 0 k = f) (hp : P j = p) (hy : Z j p = y) (h : PosOk n L Z P k) (hk : k < L 0) (hj : j < n) (hs : Sorted (Z j) (L j)) (hyf : ¬ y < f) (he : ¬ y = f) : has (Z j) (L j) f = false := by
  subst hf hp hy
  rw [← has_parts (h.parts hk hj hs (.inr hyf)) hs]
  exact decide_eq_false (fun e => he e.2)
theorem lack_end {n : Nat} {L : Nat → Nat} {Z : Nat → Nat → Int} {P : Nat → Nat} {j k p : Nat} {f : Int} (hf : Z 0 k = f) (hp : P j = p) (h : PosOk n L Z P k) (hk : k < L 0) (hj : j < n) (hs : Sorted (Z j) (L j)) (he : p = L j) : has (Z j) (L j) f = false := by
  subst hf hp
  rw [← has_parts (h.parts hk hj hs (.inl he)) hs]
  exact decide_eq_false (fun e => by omega)

set_option maxRecDepth 100000 in
set_option maxHeartbeats 2000000 in
theorem law_pos (b off n c : Nat) (A : Nat → Option Addr) (L C : Nat → Nat) (Z : Nat → Nat → Int) (w : World) (hl : ListsRaw w b off n A L C Z) (h0 : 0 < n) (hb : b < w.heap.size) (hbl : ∀ i, i < n → ∀ x, A i = some x → 0 < L i → x.block < w.heap.size) :
    Calls Try.prog 7 #[.slice (some ⟨b, off, none⟩) n c] w fun e w' => e = .returned (.bool true) ∧ Below w.heap.size w w' := by
  have CB := bytes_pos b off n c A L C Z w hl
  have H : Hid (ListsRaw w b off n A L C Z) := hl
  have HB : Hid (∀ i, i < n → ∀ x, A i = some x → 0 < L i → x.block < w.heap.size) := hbl
  clear hl hbl
  go_enter Try.func7, Try.ntmps7
  go_wp2_with fail
  refine CB.mono ?_
  rintro e w' ⟨⟨x, rfl, hx⟩, rfl⟩
  cases x with
  | false =>
    clear hx
    go_wp2
    go_ret
    exact ⟨rfl, Below.refl _ _⟩
  | true =>
    obtain ⟨hn, hL⟩ := hx rfl
    have HL : Hid (∀ i, i < n → L i ≤ 1048576) := hL
    clear hx hL
    by_cases hn3 : 3 * n ≤ 131072
    · go_wp2
      go_loopg [3, 4] n (fun g s3 s4 wr => ∃ k z : Nat, s4 = .int .i64 k ∧ s3 = .int .i64 z ∧ k ≤ n ∧ z ≤ 131072 ∧ n - k ≤ g ∧ wr = w')
      case atStart => exact ⟨0, 3 * n, rfl, by go_num, Nat.zero_le _, hn3, by omega, rfl⟩
      case round =>
        obtain ⟨k, z, rfl, rfl, hk, hz, hg, rfl⟩ := hrel
        by_cases hlt : k < n
        · obtain ⟨hcell, _, _⟩ := H.out k hlt
          have hLk := HL.out k hlt
          by_cases h2 : z + L k ≤ 131072
          · go_wp2
            go_roundg (n - (k + 1))
            case measure => omega
            case rel => exact ⟨k + 1, z + L k, by go_num, by go_num, by omega, h2, Nat.le_refl _, rfl⟩
          · go_wp2
            go_ret
            exact ⟨rfl, Below.refl _ _⟩
        · go_wp2
          clear hlt hk hz hg
          go_loopg [5] n (fun g s5 wx => ∃ j q : Nat, s5 = .int .i64 j ∧ j ≤ n ∧ n - j ≤ g ∧ wx = wr.drewN q ∧ Hid (∀ i, i < j → Sorted (Z i) (L i)))
          case atStart => exact ⟨0, 0, rfl, Nat.zero_le _, by omega, rfl, fun i hi => absurd hi (Nat.not_lt_zero _)⟩
          case round =>
            obtain ⟨j, q, rfl, hj, hg, rfl, I⟩ := hrel
            by_cases hlt : j < n
            · obtain ⟨hcell, hints, _⟩ := H.out j hlt
              have hLj := HL.out j hlt
              by_cases hLp : 0 < L j
              · obtain ⟨b', o', hA, hz⟩ := hints hLp
                rw [hA] at hcell
                have HZ : Hid (∀ m, m < L j → wr.cell? ⟨b', o' + m, none⟩ = some (.int .i64 (Z j m))) := hz
                clear hints hA hz
                go_wp2
                go_loopg [7] (L j) (fun g s7 wx => ∃ m q : Nat, s7 = .int .i64 ((m : Int) + 1) ∧ m + 1 ≤ L j ∧ L j - m ≤ g ∧ wx = wr.drewN q ∧ Hid (Rises (Z j) m))
                case atStart => exact ⟨0, q, rfl, by omega, by omega, rfl, fun i hi => absurd hi (Nat.not_lt_zero _)⟩
                case round =>
                  obtain ⟨m, q', rfl, hm, hg', rfl, I2⟩ := hrel
                  by_cases hlt2 : m + 1 < L j
                  · have c1 := HZ.out m (by omega)
                    have c2 := HZ.out (m + 1) hlt2
                    generalize hz1 : Z j m = z1 at c1
                    generalize hz2 : Z j (m + 1) = z2 at c2
                    have E1 : Hid (Z j m = z1) := hz1
                    have E2 : Hid (Z j (m + 1) = z2) := hz2
                    clear hz1 hz2
                    by_cases hlt3 : z2 < z1
                    · go_wp2
                      go_quiet (fail)
                      go_wp2
                      go_ret
                      exact ⟨rfl, (below_drewN _ _ _).trans (below_drewN _ _ _)⟩
                    · go_wp2
                      go_quiet (fail)
                      go_wp2
                      go_roundg (L j - (m + 1))
                      case measure => omega
                      case rel => exact ⟨m + 1, _, by go_num, by omega, Nat.le_refl _, rfl, rises_step I2.out (by rw [E1.out, E2.out]; omega)⟩
                  · go_wp2
                    go_roundg (n - (j + 1))
                    case measure => omega
                    case rel => exact ⟨j + 1, _, by go_num, by omega, Nat.le_refl _, rfl, sorted_step I.out (rises_sorted I2.out (by omega))⟩
              · have hL0 : L j = 0 := by omega
                have HL0 : Hid (L j = 0) := hL0
                clear hL0 hints
                generalize hLe : L j = lj at hcell hLp hLj
                obtain rfl : lj = 0 := by omega
                have HLe : Hid (L j = 0) := hLe
                clear hLe HL0
                go_wp2
                go_loopg [7] 0 (fun g s7 wx => s7 = .int .i64 1 ∧ wx = wr.drewN q)
                case atStart => exact ⟨rfl, rfl⟩
                case round =>
                  obtain ⟨rfl, rfl⟩ := hrel
                  go_wp2
                  go_roundg (n - (j + 1))
                  case measure => omega
                  case rel => exact ⟨j + 1, _, by go_num, by omega, Nat.le_refl _, rfl, sorted_step I.out (fun p r _ hr => by rw [HLe.out] at hr; exact absurd hr (Nat.not_lt_zero _))⟩
            · obtain rfl : n = j := by omega
              have HS : Hid (∀ i, i < n → Sorted (Z i) (L i)) := I.out
              have CL := clones_pos b off n c A L C Z (wr.drewN q) hn HL.out H.out h0 hb HB.out
              clear I hj hlt hg
              go_wp2_with fail
              refine CL.mono ?_
              rintro e W1 ⟨rfl, ⟨A', hCl⟩, hB1⟩
              clear CL
              obtain ⟨wo, rfl⟩ : ∃ wo : World, wo = wr := ⟨_, rfl⟩
              have hmk := run_make_row' (P := Try.prog) 23 3 (.int .i64 0) 8 Try.underlying23 Try.info3 rfl .i64 .i64 n (by omega) (by omega)
              have hBW : wo.heap.size < W1.heap.size := hCl.1.lt
              have hc0 : W1.cell? ⟨wo.heap.size, 0, none⟩ = some (.slice (A' 0) (L 0) (L 0)) := by have := hCl.1.cell h0; simpa [laidTo, h0] using this
              have HC : Hid (Cloned W1 wo.heap.size n n A' L Z) := hCl
              have hi0 := (hCl.2 0 h0).1
              have hx0 := (hCl.2 0 h0).2
              clear hCl
              have hBel : Below wo.heap.size wo W1 := (below_drewN _ wo q).trans hB1
              clear hB1
              by_cases hL0 : 0 < L 0
              · obtain ⟨b0, o0, hA0, hz0⟩ := hi0 hL0
                rw [hA0] at hc0
                have HZ0 : Hid (∀ k, k < L 0 → W1.cell? ⟨b0, o0 + k, none⟩ = some (.int .i64 (Z 0 k))) := hz0
                have hb0 : b0 < W1.heap.size := (hx0 _ hA0 hL0).2
                have hL0b := HL.out 0 h0
                have HA0 : Hid (A' 0 = some ⟨b0, o0, none⟩) := hA0
                clear hA0 hz0 hx0 hi0
                go_wp2
                clear hmk
                go_loopg [8, 11] (L 0) (fun g s8 s11 wx => ∃ (k : Nat) (x : Bool) (P : Nat → Nat), s11 = .int .i64 k ∧ s8 = .bool x ∧ k ≤ L 0 ∧ L 0 - k ≤ g ∧ Below W1.heap.size W1 wx ∧ Hid (wx.rowIs W1.heap.size 3 n (places P) ∧ PosOk n L Z P k ∧ Wants n L Z k x))
                case atStart => exact ⟨0, true, fun _ => 0, rfl, rfl, Nat.zero_le _, by omega, (Below.refl _ _).alloc (Nat.le_refl _) _, (World.rowIs_made W1 (.int .i64 0) n 3), posOk_start n L Z, wants_start n L Z⟩
                case round =>
                  obtain ⟨k', x, P, rfl, rfl, hk, hg, hB, I⟩ := hrel
                  cases x with
                  | false =>
                    have HE : Hid (Met n L Z) := I.out.2.2.2 rfl
                    have CE := zzempty_any n (some ⟨wo.heap.size, 0, none⟩) A' L Z wr hn (cloned_val HC.out hB HL.out HS.out)
                    by_cases hlt : k' < L 0
                    all_goals
                      go_wp2_with fail
                      refine CE.mono ?_
                      rintro e w2 ⟨⟨y, rfl, hy⟩, hb2⟩
                      obtain rfl := no_of hy HE.out
                      clear CE hy
                      go_wp2
                      go_ret
                      exact ⟨rfl, hBel.trans ((hB.trans (hb2.mono hB.size)).mono hBel.size)⟩
                  | true =>
                    by_cases hlt : k' < L 0
                    · have cz := (hB.cell (p := ⟨b0, o0 + k', none⟩) hb0).trans (HZ0.out k' hlt)
                      generalize hzf : Z 0 k' = f at cz
                      have HF : Hid (Z 0 k' = f) := hzf
                      clear hzf
                      by_cases hf : f < 0
                      · go_wp2
                        go_roundg (L 0 - (k' + 1))
                        case measure => omega
                        case rel => exact ⟨k' + 1, true, P, by go_num, rfl, by omega, Nat.le_refl _, hB, I.out.1, I.out.2.1.next, I.out.2.2.skip (fun h => absurd h (by rw [HF.out]; omega))⟩
                      · go_wp2
                        obtain ⟨w4, rfl⟩ : ∃ w4 : World, w4 = wr := ⟨_, rfl⟩
                        have HW : Hid (Wants n L Z k' true) := I.out.2.2
                        go_loopg [13, 14] n (fun g s13 s14 wx => ∃ (j : Nat) (x : Bool) (P : Nat → Nat), s14 = .int .i64 j ∧ s13 = .bool x ∧ 1 ≤ j ∧ j ≤ n ∧ n - j ≤ g ∧ Below W1.heap.size W1 wx ∧ Hid (wx.rowIs W1.heap.size 3 n (places P) ∧ PosOk n L Z P k' ∧ InA n L Z f j x))
                        case atStart => exact ⟨1, true, P, rfl, rfl, Nat.le_refl _, h0, by omega, hB, I.out.1, I.out.2.1, inA_start n L Z f⟩
                        case round =>
                          clear hB I P
                          obtain ⟨j, x, P, rfl, rfl, hj1, hj, hg5, hB, I⟩ := hrel
                          cases x with
                          | false =>
                            by_cases hjn : j < n
                            all_goals
                              go_wp2
                              go_roundg (L 0 - (k' + 1))
                              case measure => omega
                              case rel => exact ⟨k' + 1, true, P, by go_num, rfl, by omega, Nat.le_refl _, hB, I.out.1, I.out.2.1.next, HW.out.skip (fun _ => by rw [HF.out]; exact I.out.2.2.2 rfl)⟩
                          | true =>
                            by_cases hjn : j < n
                            · have hcj : wr.cell? ⟨wo.heap.size, j, none⟩ = some (.slice (A' j) (L j) (L j)) := (hB.cell (p := ⟨wo.heap.size, j, none⟩) hBW).trans (by have := HC.out.1.cell hjn; simpa [laidTo, hjn] using this)
                              have hLjb := HL.out j hjn
                              have HI : Hid (InA n L Z f j true) := I.out.2.2
                              by_cases hLj : 0 < L j
                              · obtain ⟨bj, oj, hAj, hzj⟩ := (HC.out.2 j hjn).1 hLj
                                have hbj : bj < W1.heap.size := ((HC.out.2 j hjn).2 _ hAj hLj).2
                                rw [hAj] at hcj
                                have HZj : Hid (∀ m, m < L j → W1.cell? ⟨bj, oj + m, none⟩ = some (.int .i64 (Z j m))) := hzj
                                clear hAj hzj
                                go_wp2
                                obtain ⟨w5, rfl⟩ : ∃ w5 : World, w5 = wr := ⟨_, rfl⟩
                                go_loopg [110] (L j) (fun g s110 wx => ∃ P : Nat → Nat, L j - P j ≤ g ∧ Below W1.heap.size W1 wx ∧ Hid (wx.rowIs W1.heap.size 3 n (places P) ∧ PosOk n L Z P k'))
                                case atStart => exact ⟨P, by omega, hB, I.out.1, I.out.2.1⟩
                                case round =>
                                  clear hB I P hcj
                                  obtain ⟨P, hg6, hB, I⟩ := hrel
                                  have hpc : wr.cell? ⟨W1.heap.size, j, none⟩ = some (.int .i64 (P j)) := I.out.1.cell hjn
                                  have hpf := I.out.1.frozen j
                                  have hPL := (I.out.2 j hjn).1
                                  generalize hp : P j = p at hpc hPL hg6
                                  have HP : Hid (P j = p) := hp
                                  clear hp
                                  by_cases hpl : p < L j
                                  · have cy := (hB.cell (p := ⟨bj, oj + p, none⟩) hbj).trans (HZj.out p hpl)
                                    generalize hy : Z j p = y at cy
                                    have HY : Hid (Z j p = y) := hy
                                    clear hy
                                    by_cases hyf : y < f
                                    · go_wp2
                                      go_roundg (L j - (p + 1))
                                      case measure => omega
                                      case rel => exact ⟨bump P j, by rw [bump_at, HP.out]; exact Nat.le_refl _, hB.setCell (p := ⟨W1.heap.size, j, none⟩) (Nat.le_refl _) _, (I.out.1.set j _).congr (places_bump' HP.out n), I.out.2.bump (HS.out 0 h0) (by rw [HP.out]; exact hpl) (by rw [HP.out, HY.out, HF.out]; exact hyf)⟩
                                    · by_cases hye : y = f
                                      · have hye' : (y != f) = false := by simp [hye]
                                        have HYE : Hid (y = f) := hye
                                        clear hye
                                        go_wp2
                                        go_roundg (n - (j + 1))
                                        case measure => omega
                                        case rel => exact ⟨j + 1, true, P, by go_num, rfl, by omega, by omega, Nat.le_refl _, hB, I.out.1, I.out.2, HI.out.yes (have_eq HF.out HP.out HY.out hpl HYE.out)⟩
                                      · have hye' : (y != f) = true := by simp [hye]
                                        have HYE : Hid (¬ y = f) := hye
                                        clear hye
                                        go_wp2
                                        go_roundg (n - (j + 1))
                                        case measure => omega
                                        case rel => exact ⟨j + 1, false, P, by go_num, rfl, by omega, by omega, Nat.le_refl _, hB, I.out.1, I.out.2, inA_no hjn hj1 (lack_ne HF.out HP.out HY.out I.out.2 hlt hjn (HS.out j hjn) (by omega) HYE.out)⟩
                                  · go_wp2
                                    go_roundg (n - (j + 1))
                                    case measure => omega
                                    case rel => exact ⟨j + 1, false, P, by go_num, rfl, by omega, by omega, Nat.le_refl _, hB, I.out.1, I.out.2, inA_no hjn hj1 (lack_end HF.out HP.out I.out.2 hlt hjn (HS.out j hjn) (by omega))⟩
                              · have hpc : wr.cell? ⟨W1.heap.size, j, none⟩ = some (.int .i64 (P j)) := I.out.1.cell hjn
                                have hPL := (I.out.2.1 j hjn).1
                                have HP0 : Hid (P j = L j) := show P j = L j by omega
                                generalize hp : P j = p at hpc hPL
                                generalize hlj : L j = lj at hcj hLj hLjb hPL
                                obtain rfl : lj = 0 := by omega
                                obtain rfl : p = 0 := by omega
                                clear hp hlj
                                go_wp2
                                obtain ⟨w5, rfl⟩ : ∃ w5 : World, w5 = wr := ⟨_, rfl⟩
                                go_loopg [110] 0 (fun g s110 wx => wx = w5)
                                case atStart => rfl
                                case round =>
                                  subst hrel
                                  go_wp2
                                  go_roundg (n - (j + 1))
                                  case measure => omega
                                  case rel => exact ⟨j + 1, false, P, by go_num, rfl, by omega, by omega, Nat.le_refl _, hB, I.out.1, I.out.2.1, inA_no hjn hj1 (lack_end HF.out rfl I.out.2.1 hlt hjn (HS.out j hjn) HP0.out)⟩
                            · obtain rfl : n = j := by omega
                              go_wp2
                              go_roundg (L 0 - (k' + 1))
                              case measure => omega
                              case rel => exact ⟨k' + 1, false, P, by go_num, rfl, by omega, Nat.le_refl _, hB, I.out.1, I.out.2.1.next, wants_met h0 hlt (by rw [HF.out]; omega) (by rw [HF.out]; exact I.out.2.2.common)⟩
                    · obtain rfl : k' = L 0 := by omega
                      have HE : Hid (¬ Met n L Z) := (I.out.2.2.end_ (fun h => rfl)).1 rfl
                      have CE := zzempty_any n (some ⟨wo.heap.size, 0, none⟩) A' L Z wr hn (cloned_val HC.out hB HL.out HS.out)
                      go_wp2_with fail
                      refine CE.mono ?_
                      rintro e w2 ⟨⟨y, rfl, hy⟩, hb2⟩
                      obtain rfl := yes_of hy HE.out
                      clear CE hy
                      go_wp2
                      go_ret
                      exact ⟨rfl, hBel.trans ((hB.trans (hb2.mono hB.size)).mono hBel.size)⟩
              · have HE : Hid (¬ Met n L Z) := fun ⟨_, i, h1, _⟩ => absurd h1 (by omega)
                have HV : Hid (∀ wx, Below W1.heap.size W1 wx → ListsVal wx.heap.size wx (some ⟨wo.heap.size, 0, none⟩) n A' L Z) := fun wx hB => cloned_val HC.out hB HL.out HS.out
                clear hi0 hx0
                generalize hlj : L 0 = lj at hc0 hL0
                obtain rfl : lj = 0 := by omega
                clear hlj
                go_wp2
                clear hmk
                go_loopg [8, 11] 0 (fun g s8 s11 wx => s11 = .int .i64 0 ∧ s8 = .bool true ∧ Below W1.heap.size W1 wx)
                case atStart => exact ⟨rfl, rfl, (Below.refl _ _).alloc (Nat.le_refl _) _⟩
                case round =>
                  obtain ⟨rfl, rfl, hB⟩ := hrel
                  have CE := zzempty_any n (some ⟨wo.heap.size, 0, none⟩) A' L Z wr hn (HV.out wr hB)
                  go_wp2_with fail
                  refine CE.mono ?_
                  rintro e w2 ⟨⟨y, rfl, hy⟩, hb2⟩
                  obtain rfl := yes_of hy HE.out
                  clear CE hy
                  go_wp2
                  go_ret
                  exact ⟨rfl, hBel.trans ((hB.trans (hb2.mono hB.size)).mono hBel.size)⟩
    · by_cases hn4 : n ≤ 131072
      · go_wp2
        go_ret
        exact ⟨rfl, Below.refl _ _⟩
      · go_wp2
        go_ret
        exact ⟨rfl, Below.refl _ _⟩
end Go.Proofs.Qxb6606016a
