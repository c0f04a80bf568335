import Derived.Test.Qxb6606016aIds
import Derived.Deep.LoopGhost
namespace Go.Proofs.Qxb6606016a
open Go.RowKit
set_option linter.unusedVariables false

theorem Hid.mk' {p : Prop} (h : p) : Hid p := h

theorem bytes5_any (a : Option Addr) (n c : Nat) (w : World) : Calls Try.prog 16 #[.slice a n c] w fun e w' => (∃ x, e = .returned (.bool x)) ∧ w' = w := by
  by_cases hn : n ≤ 1048576
  · go_enter Try.func16, Try.ntmps16
    go_wp2
    go_loopg [3, 4] n (fun g s3 s4 wr => ∃ k z : Nat, s4 = .int .i64 k ∧ s3 = .int .i64 z ∧ k ≤ n ∧ z ≤ 1048576 ∧ n - k ≤ g ∧ wr = w)
    case atStart => exact ⟨0, n, rfl, by simp, Nat.zero_le _, hn, by omega, rfl⟩
    case round =>
      obtain ⟨k, z, rfl, rfl, hk, hz, hg, rfl⟩ := hrel
      by_cases hlt : k < n
      · by_cases h2 : z ≤ 1048560
        · apply wp_seq_k
          intro K1 hK1
          have HK1 := Hid.mk' hK1
          clear hK1
          go_wp2
          refine HK1.out _ _ ?_
          clear HK1
          apply wp_seq_k
          intro K2 hK2
          apply wp_block
          apply wp_seq_k
          intro K3 hK3
          refine wp_cond_false rfl (wp_skip ?_)
          refine hK3 _ _ ?_
          clear hK3
          apply wp_seq_k
          intro K4 hK4
          have HK4 := Hid.mk' hK4
          clear hK4
          go_wp2
          refine HK4.out _ _ ?_
          clear HK4
          apply wp_seq_k
          intro K5 hK5
          have HK5 := Hid.mk' hK5
          clear hK5
          go_wp2
          refine HK5.out _ _ ?_
          clear HK5
          have hc : Value.bool (decide ((1048576 : Int) < (z : Int) + 16)) = Value.bool false := by rw [decide_eq_false (by omega)]
          refine wp_cond_false hc ?_
          clear hc
          go_wp2
          go_roundg (n - (k + 1))
          case measure => omega
          case rel => exact ⟨k + 1, z + 16, by go_num, by go_num, by omega, by omega, Nat.le_refl _, rfl⟩
        · apply wp_seq_k
          intro K1 hK1
          have HK1 := Hid.mk' hK1
          clear hK1
          go_wp2
          refine HK1.out _ _ ?_
          clear HK1
          apply wp_seq_k
          intro K2 hK2
          apply wp_block
          apply wp_seq_k
          intro K3 hK3
          refine wp_cond_false rfl (wp_skip ?_)
          refine hK3 _ _ ?_
          clear hK3
          apply wp_seq_k
          intro K4 hK4
          have HK4 := Hid.mk' hK4
          clear hK4
          go_wp2
          refine HK4.out _ _ ?_
          clear HK4
          apply wp_seq_k
          intro K5 hK5
          have HK5 := Hid.mk' hK5
          clear hK5
          go_wp2
          refine HK5.out _ _ ?_
          clear HK5
          have hc : Value.bool (decide ((1048576 : Int) < (z : Int) + 16)) = Value.bool true := by rw [decide_eq_true (by omega)]
          refine wp_cond_true hc ?_
          clear hc
          go_wp2
          go_ret
          exact ⟨⟨_, rfl⟩, rfl⟩
      · go_wp2
        go_ret
        exact ⟨⟨_, rfl⟩, rfl⟩
  · go_enter Try.func16, Try.ntmps16
    go_wp2
    go_ret
    exact ⟨⟨_, rfl⟩, rfl⟩
end Go.Proofs.Qxb6606016a
