import Derived.Test.Qxb6606016aNew1
import Derived.Deep.MidRow
import Derived.Orders
namespace Go.Proofs.Qxb6606016a
open Go.RowKit Go.MuLone
set_option linter.unusedVariables false

/-! ### one operation of a region whose order is drawn -/
theorem wpOp_value {P : Program} {ops : Array Oper} {Q : Exit → Act → World → Prop} {i : Nat} {K : Act → World → Prop} {a : Act} {w w' : World} {o : Oper} {v : Value} (ho : ops[i]? = some o) (hg : o.guard = none) (hr : (execOp a.eval o).run P w = .ok (.value v) w') (hk : K (a.put o.dst v) w') : wpOp P ops Q i K a w := by
  have hw : Region.wanted o (yielded ops a.tmps) = true := by unfold Region.wanted; rw [hg]
  unfold wpOp
  rw [ho]
  simp only [hw, if_true]
  exact .inl (by unfold Oper.wp; rw [hr]; exact hk)
theorem wpOp_skip {P : Program} {ops : Array Oper} {Q : Exit → Act → World → Prop} {i : Nat} {K : Act → World → Prop} {a : Act} {w w' : World} {o : Oper} (ho : ops[i]? = some o) (hg : o.guard = none) (hr : (execOp a.eval o).run P w = .ok .skip w') (hk : K (a.put o.dst undef) w') : wpOp P ops Q i K a w := by
  have hw : Region.wanted o (yielded ops a.tmps) = true := by unfold Region.wanted; rw [hg]
  unfold wpOp
  rw [ho]
  simp only [hw, if_true]
  exact .inl (by unfold Oper.wp; rw [hr]; exact hk)

/-- where each waits for earlier ones alone, something may come up as long as one has not. -/
theorem ready_ex {md : Region.Mode} {ops : Array Oper} {listed : Array Bool} (hs : listed.size = ops.size) (hd : ∀ (i : Nat) (o : Oper), ops[i]? = some o → ∀ e ∈ o.after, e.on < i) :
    ∀ i, i < ops.size → listed.getD i true = false → ∃ j, j ∈ Region.ready md ops listed := by
  intro i
  induction i using Nat.strongRecOn with
  | ind i ih =>
    intro hi hl
    obtain ⟨o, ho⟩ : ∃ o, ops[i]? = some o := ⟨_, Array.getElem?_eq_getElem hi⟩
    by_cases h : ∀ e ∈ o.after, Region.binds md e = true → listed.getD e.on false = true
    · exact ⟨i, mem_ready.2 ⟨hl, o, ho, h⟩⟩
    · obtain ⟨e, he⟩ := Classical.not_forall.1 h
      obtain ⟨he, he2⟩ := Classical.not_imp.1 he
      obtain ⟨_, he3⟩ := Classical.not_imp.1 he2
      have hlt := hd i o ho e he
      refine ih e.on hlt (by omega) ?_
      have : e.on < listed.size := by omega
      simp [Array.getD, this] at he3 ⊢
      exact he3

theorem exec_map {ρ : Operand → Value} {o : Oper} (h : o.op = .makeMap 61 none) (w : World) : (execOp ρ o).run Try.prog w = .ok (.value (.map (some w.heap.size))) (w.alloc (.map #[] 0)) := by
  unfold execOp; rw [h]; simp [run_makeMap]
theorem exec_load {ρ : Operand → Value} {o : Oper} {t : Nat} {b : Nat} {xs : Array Value} (h : o.op = .load 22 (.tmp t)) (hρ : ρ (.tmp t) = .pointer (some ⟨b, 0, none⟩)) (hs : xs.size = 16) {w : World} (hb : w.heap[b]? = some (.cells xs 22)) : (execOp ρ o).run Try.prog w = .ok (.value (.agg xs)) w := by
  have hr : w.rangeAt b 0 xs.toList := fun j v hv => by simp [World.cell?, hb]; simpa using hv
  have := run_loadAt_mid (P := Try.prog) w b 0 22 xs.toList (.array 16 5) hr Try.underlying22 rfl (by rw [Array.length_toList, hs]; kernel_rfl)
  unfold execOp; rw [h]; simp only [hρ, Sem.run_bind, Sem.run_pure, this, Result.andThen_ok]
theorem build60 (r : Int) (w : World) : (Instr.build 60 #[(1, .int .i64 r)]).run Try.prog w = .ok (.agg (qcells r)) w := by kernel_rfl
theorem exec_build {ρ : Operand → Value} {o : Oper} {t : Nat} {r : Int} (h : o.op = .build 60 #[(1, .tmp t)]) (hρ : ρ (.tmp t) = .int .i64 r) (w : World) : (execOp ρ o).run Try.prog w = .ok (.value (.agg (qcells r))) w := by
  have e : (#[((1 : Nat), Operand.tmp t)].map fun (i, x) => (i, ρ x)) = #[(1, .int .i64 r)] := by simp [hρ]
  unfold execOp; rw [h]; simp only [e, Sem.run_bind, Sem.run_pure, build60, Result.andThen_ok]
theorem box60 (r : Int) (w : World) : (Instr.box 60 (.agg (qcells r))).run Try.prog w = .ok (.pointer (some ⟨w.heap.size, 0, none⟩)) (w.alloc (.cells (qcells r) 60)) := by kernel_rfl
theorem exec_box {ρ : Operand → Value} {o : Oper} {t : Nat} {r : Int} (h : o.op = .box 60 (.tmp t)) (hρ : ρ (.tmp t) = .agg (qcells r)) (w : World) : (execOp ρ o).run Try.prog w = .ok (.value (.pointer (some ⟨w.heap.size, 0, none⟩))) (w.alloc (.cells (qcells r) 60)) := by
  unfold execOp; rw [h]; simp only [hρ, Sem.run_bind, Sem.run_pure, box60, Result.andThen_ok]
theorem exec_insert {ρ : Operand → Value} {o : Oper} {m k v : Operand} {mb : Nat} {key val : Value} {w w' : World} (h : o.op = .insert 61 m k v) (h1 : ρ m = .map (some mb)) (h2 : ρ k = key) (h3 : ρ v = val) (hr : (Instr.mapUpdate 61 (.map (some mb)) key val).run Try.prog w = .ok () w') : (execOp ρ o).run Try.prog w = .ok .skip w' := by
  unfold execOp; rw [h]; simp only [h1, h2, h3, Sem.run_bind, Sem.run_pure, hr, Result.andThen_ok]
/-- what ZZnewDynamicQueries2 hands back holds. -/
abbrev dcells (mb : Nat) : Array Value := #[.int .i32 0, .int .u32 0, .map (some mb), .int .u64 0, .int .u32 0]
theorem build76 (mb : Nat) (w : World) : (Instr.build 76 #[(1, .map (some mb))]).run Try.prog w = .ok (.agg (dcells mb)) w := by kernel_rfl
theorem exec_build76 {ρ : Operand → Value} {o : Oper} {t mb : Nat} (h : o.op = .build 76 #[(1, .tmp t)]) (hρ : ρ (.tmp t) = .map (some mb)) (w : World) : (execOp ρ o).run Try.prog w = .ok (.value (.agg (dcells mb))) w := by
  have e : (#[((1 : Nat), Operand.tmp t)].map fun (i, x) => (i, ρ x)) = #[(1, .map (some mb))] := by simp [hρ]
  unfold execOp; rw [h]; simp only [e, Sem.run_bind, Sem.run_pure, build76, Result.andThen_ok]
theorem box76 (mb : Nat) (w : World) : (Instr.box 76 (.agg (dcells mb))).run Try.prog w = .ok (.pointer (some ⟨w.heap.size, 0, none⟩)) (w.alloc (.cells (dcells mb) 76)) := by kernel_rfl
theorem exec_box76 {ρ : Operand → Value} {o : Oper} {t mb : Nat} (h : o.op = .box 76 (.tmp t)) (hρ : ρ (.tmp t) = .agg (dcells mb)) (w : World) : (execOp ρ o).run Try.prog w = .ok (.value (.pointer (some ⟨w.heap.size, 0, none⟩))) (w.alloc (.cells (dcells mb) 76)) := by
  unfold execOp; rw [h]; simp only [hρ, Sem.run_bind, Sem.run_pure, box76, Result.andThen_ok]
end Go.Proofs.Qxb6606016a
