import Derived.Test.Qxb6606016aLacks
import Derived.Deep.OwnRows
import Derived.Deep.RegionWith
import Derived.BigQuiet
import Derived.Deep.QuietTactic
namespace Go.Proofs.Qxb6606016a
open Go.RowKit

theorem Try.info3 : (Try.prog.info? 3).map (fun i => (i.zero, i.size, i.bytes)) = some (some (.int .i64 0), 1, 8) := by kernel_rfl
theorem Try.info23 : (Try.prog.info? 23).map (fun i => (i.zero, i.size, i.bytes)) = some (some (.slice none 0 0), 1, 24) := by kernel_rfl

theorem clone_nil (w : World) : Calls Try.prog 9 #[.slice none 0 0] w fun e w' => e = .returned (.slice none 0 0) ∧ w' = w := by
  have hnil := fun w n (c : Nat) (a : Option Addr) => Lib.run_eql_slice_nil (P := Try.prog) w 23 3 a n c 0 0 Try.underlying23
  go_enter Try.func9, Try.ntmps9
  go_wp2
  go_ret
  exact ⟨rfl, rfl⟩

theorem clone_zero (x : Addr) (c : Nat) (w : World) : Calls Try.prog 9 #[.slice (some x) 0 c] w fun e w' => e = .returned (.slice (some ⟨w.heap.size, 0, none⟩) 0 0) ∧ w' = w.alloc (.cells #[] 3) := by
  have hnil := fun w n (c : Nat) (a : Option Addr) => Lib.run_eql_slice_nil (P := Try.prog) w 23 3 a n c 0 0 Try.underlying23
  have hmk : ∀ w, (Instr.makeSlice 23 (.int .i64 0) (.int .i64 0)).run Try.prog w = .ok (.slice (some ⟨w.heap.size, 0, none⟩) 0 0) (w.alloc (.cells #[] 3)) := fun _ => by kernel_rfl
  go_enter Try.func9, Try.ntmps9
  go_wp2
  go_loopg [4] 0 (fun g s4 wr => s4 = .int .i64 0 ∧ wr = w.alloc (.cells #[] 3))
  case atStart => exact ⟨rfl, rfl⟩
  case round =>
    obtain ⟨rfl, rfl⟩ := hrel
    go_wp2
    go_ret
    exact ⟨rfl, rfl⟩

/-- Z UP TO k, NOUGHT BEHIND. -/
def upTo (Z : Nat → Int) (k : Nat) : Nat → Value := fun j => .int .i64 (if j < k then Z j else 0)
theorem upTo_step (Z : Nat → Int) (k n : Nat) : ∀ i, i < n → (fun j => if j = k then Value.int .i64 (Z k) else upTo Z k j) i = upTo Z (k + 1) i := by
  intro i _
  simp only [upTo]
  by_cases h : i = k
  · subst h; simp
  · by_cases h2 : i < k
    · rw [if_neg h, if_pos h2, if_pos (by omega)]
    · rw [if_neg h, if_neg h2, if_neg (by omega)]

set_option maxHeartbeats 1000000 in
theorem clone_pos (b off n c : Nat) (Z : Nat → Int) (w : World) (hn : n ≤ 1048576) (hc : ∀ k, k < n → w.cell? ⟨b, off + k, none⟩ = some (.int .i64 (Z k))) (hb : b < w.heap.size) :
    Calls Try.prog 9 #[.slice (some ⟨b, off, none⟩) n c] w fun e w' => e = .returned (.slice (some ⟨w.heap.size, 0, none⟩) n n) ∧ w'.rowIs w.heap.size 3 n (fun j => .int .i64 (Z j)) ∧ Below w.heap.size w w' := by
  have hnil := fun w n (c : Nat) (a : Option Addr) => Lib.run_eql_slice_nil (P := Try.prog) w 23 3 a n c 0 0 Try.underlying23
  have hmk := run_make_row' (P := Try.prog) 23 3 (.int .i64 0) 8 Try.underlying23 Try.info3 rfl .i64 .i64 n (by omega) (by omega)
  have HC : Hid (∀ k, k < n → w.cell? ⟨b, off + k, none⟩ = some (.int .i64 (Z k))) := hc
  clear hc
  go_enter Try.func9, Try.ntmps9
  go_wp2
  go_loopg [4] n (fun g s4 wr => ∃ k : Nat, s4 = .int .i64 k ∧ k ≤ n ∧ n - k ≤ g ∧ Hid (wr.rowIs w.heap.size 3 n (upTo Z k)) ∧ Below w.heap.size w wr)
  case atStart => exact ⟨0, rfl, Nat.zero_le _, by omega, (World.rowIs_made w (.int .i64 0) n 3).congr (fun i _ => by simp [upTo]), (Below.refl _ _).alloc (Nat.le_refl _) _⟩
  case round =>
    obtain ⟨k, rfl, hk, hg, R, hB⟩ := hrel
    by_cases hlt : k < n
    · have c1 : wr.cell? ⟨b, off + k, none⟩ = some (.int .i64 (Z k)) := (hB.cell (p := ⟨b, off + k, none⟩) hb).trans (HC.out k hlt)
      have c2 := R.out.cell hlt
      have f2 := R.out.frozen k
      simp only [upTo, Nat.lt_irrefl, if_false] at c2
      go_wp2
      go_roundg (n - (k + 1))
      case measure => omega
      case rel => exact ⟨k + 1, by go_num, by omega, Nat.le_refl _, (R.out.set k _).congr (upTo_step Z k n), hB.setCell (p := ⟨w.heap.size, k, none⟩) (Nat.le_refl _) _⟩
    · obtain rfl : k = n := by omega
      go_wp2
      go_ret
      exact ⟨rfl, R.out.congr (fun i hi => by simp [upTo, hi]), hB⟩

/-- cloneInts: the same numbers, in new memory. -/
theorem clone_any (a : Option Addr) (n c : Nat) (Z : Nat → Int) (w : World) (hn : n ≤ 1048576) (hc : IntsAt w a n Z) (hnil : a = none → n = 0 ∧ c = 0) :
    Calls Try.prog 9 #[.slice a n c] w fun e w' => ∃ a', e = .returned (.slice a' n n) ∧ IntsAt w' a' n Z ∧ Below w.heap.size w w' ∧ (0 < n → a' = some ⟨w.heap.size, 0, none⟩) ∧ (∀ x, a' = some x → x.block < w'.heap.size) := by
  by_cases h0 : 0 < n
  · obtain ⟨b, off, rfl, hcell⟩ := hc h0
    have hb : b < w.heap.size := by
      have h := hcell 0 h0
      rcases Nat.lt_or_ge b w.heap.size with hlt | hge
      · exact hlt
      · simp [World.cell?, Array.getElem?_eq_none hge] at h
    refine (clone_pos b off n c Z w hn hcell hb).mono ?_
    rintro e w' ⟨rfl, hr, hB⟩
    exact ⟨_, rfl, fun _ => ⟨w.heap.size, 0, rfl, fun k hk => by rw [Nat.zero_add]; exact hr.cell hk⟩, hB, fun _ => rfl, fun x hx => by cases hx; exact hr.lt⟩
  · obtain rfl : n = 0 := by omega
    cases a with
    | none =>
      obtain ⟨_, rfl⟩ := hnil rfl
      refine (clone_nil w).mono ?_
      rintro e w' ⟨rfl, rfl⟩
      exact ⟨none, rfl, fun h => absurd h (Nat.lt_irrefl _), Below.refl _ _, fun h => absurd h (Nat.lt_irrefl _), fun x hx => by cases hx⟩
    | some x =>
      refine (clone_zero x c w).mono ?_
      rintro e w' ⟨rfl, rfl⟩
      exact ⟨_, rfl, fun h => absurd h (Nat.lt_irrefl _), (Below.refl _ _).alloc (Nat.le_refl _) _, fun h => absurd h (Nat.lt_irrefl _), fun x hx => by cases hx; simp⟩
end Go.Proofs.Qxb6606016a
