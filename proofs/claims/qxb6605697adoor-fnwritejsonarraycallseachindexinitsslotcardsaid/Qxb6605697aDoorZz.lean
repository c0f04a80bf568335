import Derived.Test.Qxb6605697aDoorArr
namespace Go.Proofs.Qxb6605697aDoor
open Go.RowKit
set_option linter.unusedVariables false

/-- four results. -/
theorem results_tmp4 {fn : Func} {t u v x : Tmp} (h : fn.results = #[.tmp t, .tmp u, .tmp v, .tmp x]) (tmps : Array Value) (P : Program) (w : World) :
    (results fn tmps).run P w = .ok (.tuple #[tmps.getD t undef, tmps.getD u undef, tmps.getD v undef, tmps.getD x undef]) w := by
  simp [results, h]

/-- Bytes, the value told. -/
theorem bytes_q (b g n cap : Nat) (w : World) (c0 : w.cell? ⟨b, 0, none⟩ = some (.slice (some ⟨g, 0, none⟩) n cap)) (c1 : w.cell? ⟨b, 1, none⟩ = some (.int .i64 0)) (hcm : cap ≤ 9223372036854775807) (hlc : n ≤ cap) :
    Calls Tryd.prog 12 #[.pointer (some ⟨b, 0, none⟩)] w fun e w' => e = .returned (.slice (some ⟨g, 0, none⟩) n cap) ∧ ∃ m, w' = w.drewN m := by
  go_enter Tryd.func12, Tryd.ntmps12
  go_wp2
  go_quiet (fail)
  go_wp2
  go_ret
  exact ⟨rfl, _, rfl⟩

/-- the buffer at the end. -/
def outF (cs : List Value) (m : Nat) : List Value := outAt cs m ++ [.int .u8 93]

/-- the cells of a slice that begins its block. -/
def Row (w : World) (a : Option Addr) (xs : List Value) : Prop := ∀ j u, xs[j]? = some u → ∃ g, a = some ⟨g, 0, none⟩ ∧ w.cell? ⟨g, j, none⟩ = some u

theorem own_read {w : World} {B e n : Nat} {v : Value} {xs : List Value} (h : w.ownsRow B e 1 v n xs) : ∃ a c, v = .slice a n c ∧ Row w a xs := by
  rcases h.2 with ⟨rfl, rfl⟩ | ⟨g, cap, cur, rfl, hB, hg, h1, h2, h3, h4⟩
  · obtain rfl : xs = [] := List.eq_nil_of_length_eq_zero (by simpa using h.1)
    exact ⟨none, 0, rfl, fun j u hu => by simp at hu⟩
  · refine ⟨_, cap, rfl, fun j u hu => ⟨g, rfl, ?_⟩⟩
    have hj : j < n * 1 := by rw [← h.1]; exact (List.getElem?_eq_some_iff.1 hu).1
    rw [Lib.cell_of_heap hg, ← hu, ← h4, List.getElem?_take_of_lt hj]
    simp

theorem Buf.read {w : World} {b g cap : Nat} {bs : List Value} (h : Buf w b (some (g, cap)) bs) : Row w (some ⟨g, 0, none⟩) bs := by
  intro j u hu
  refine ⟨g, rfl, ?_⟩
  rcases h.at' with ⟨r0, _⟩ | ⟨g', cap', lr, cur, e, r1, r2, r3, r4, r5, r6, r7, r8⟩
  · cases r0
  · cases e
    have hj : j < bs.length := (List.getElem?_eq_some_iff.1 hu).1
    rw [Lib.cell_of_heap r2, ← hu, ← r6, List.getElem?_take_of_lt hj]
    simp

/-- the state after its boxes were laid. -/
theorem cl_start {w1 : World} {b : Nat} {row : Option (Nat × Nat)} {cs : List Value} (h : Buf w1 b row cs) (hr : ∀ g cap, row = some (g, cap) → b ≤ g) :
    Cl (((w1.alloc (.cells #[.slice none 0 0] 24)).alloc (.cells #[.slice none 0 0] 24)).alloc (.cells #[.slice none 0 0] 22)) b b w1.heap.size (w1.heap.size + 1) (w1.heap.size + 1 + 1) row cs (.slice none 0 0) (.slice none 0 0) (.slice none 0 0) [] [] [] := by
  obtain ⟨cb, hb⟩ := h.tag
  have hlt := Lib.lt_of_heap hb
  have K : ∀ k, k < w1.heap.size → (((w1.alloc (.cells #[.slice none 0 0] 24)).alloc (.cells #[.slice none 0 0] 24)).alloc (.cells #[.slice none 0 0] 22)).heap[k]? = w1.heap[k]? := fun k hk => by
    rw [Below.heap_alloc _ _ _ (by simp; omega), Below.heap_alloc _ _ _ (by simp; omega), Below.heap_alloc _ _ _ hk]
  refine ⟨h.keep (K _ hlt) (fun g cap e => by obtain ⟨c, hc⟩ := h.rowTag e; exact K _ (Lib.lt_of_heap hc)), ?_, ?_, ?_, World.ownsRow_nil _ _ _ _, World.ownsRow_nil _ _ _ _, World.ownsRow_nil _ _ _ _, by omega, (fun k e => by cases e), (fun g cap e e2 => by cases e2), Nat.le_refl _, by omega, by omega, by omega, hr⟩
  · rw [Below.heap_alloc _ _ _ (by simp; omega), Below.heap_alloc _ _ _ (by simp), heap_alloc_new]
  · rw [Below.heap_alloc _ _ _ (by simp)]
    have := heap_alloc_new (w1.alloc (.cells #[.slice none 0 0] 24)) (.cells #[.slice none 0 0] 24)
    simpa using this
  · have := heap_alloc_new ((w1.alloc (.cells #[.slice none 0 0] 24)).alloc (.cells #[.slice none 0 0] 24)) (.cells #[.slice none 0 0] 22)
    simpa using this

theorem St.cells {w : World} {B b I A L : Nat} {bs xi xa xl : List Value} (h : St w B b I A L bs xi xa xl) : ∃ g cap ai ci aa ca al cl, bs.length ≤ cap ∧ cap ≤ 9223372036854775807 ∧
    w.cell? ⟨b, 0, none⟩ = some (.slice (some ⟨g, 0, none⟩) bs.length cap) ∧ w.cell? ⟨b, 1, none⟩ = some (.int .i64 0) ∧ w.cell? ⟨I, 0, none⟩ = some (.slice ai xi.length ci) ∧ w.cell? ⟨A, 0, none⟩ = some (.slice aa xa.length ca) ∧ w.cell? ⟨L, 0, none⟩ = some (.slice al xl.length cl) ∧
    Row w (some ⟨g, 0, none⟩) bs ∧ Row w ai xi ∧ Row w aa xa ∧ Row w al xl := by
  obtain ⟨g, cap, vi, va, vl, h⟩ := h
  obtain ⟨a, cap', c0, c1, hcm, hlc, ha⟩ := h.buf.cell0
  obtain rfl := ha _ _ rfl
  obtain ⟨ai, ci, rfl, ri⟩ := own_read h.oi
  obtain ⟨aa, ca, rfl, ra⟩ := own_read h.oa
  obtain ⟨al, cl, rfl, rl⟩ := own_read h.ol
  unfold maxLen at hcm
  exact ⟨g, cap', ai, ci, aa, ca, al, cl, hlc, by omega, c0, c1, (cell_box h.hI).1, (cell_box h.hA).1, (cell_box h.hL).1, h.buf.read, ri, ra, rl⟩

set_option maxRecDepth 100000 in
set_option maxHeartbeats 2000000 in
/-- ZZwriteJSONArray. -/
theorem zzArr (a : Option Addr) (n c : Nat) (cs : List Value) (k : Int) (w : World) (hn : cs.length = n) (h1 : ∀ v ∈ cs, v.oneCell' = true) (hlim : n ≤ 1048576) (hk : k ≤ 65536)
    (hsrc : 0 < n → ∃ x, a = some x ∧ x.block < w.heap.size ∧ ∀ j v, cs[j]? = some v → w.cell? (x.add j) = some v) :
    Calls Tryd.prog 6 #[.slice a n c, .int .i64 k] w fun e w' => ∃ g cap ai ci aa ca al cl,
      e = .returned (.tuple #[.slice (some ⟨g, 0, none⟩) (outF cs k.toNat).length cap, .slice ai k.toNat ci, .slice aa k.toNat ca, .slice al k.toNat cl]) ∧ (outF cs k.toNat).length ≤ cap ∧
      Row w' (some ⟨g, 0, none⟩) (outF cs k.toNat) ∧ Row w' ai (xiAt k.toNat) ∧ Row w' aa (xaAt n k.toNat) ∧ Row w' al (xlAt k.toNat) ∧ Below w.heap.size w w' := by
  have hb0 : (w.alloc (Obj.cells #[.slice none 0 0, .int .i64 0, .int .i8 0] 30)).heap[w.heap.size]? = some (.cells #[.slice none 0 0, .int .i64 0, .int .i8 0] 30 (0, 0)) := heap_alloc_new _ _
  have hbuf : Buf (w.alloc (Obj.cells #[.slice none 0 0, .int .i64 0, .int .i8 0] 30)) w.heap.size none [] := ⟨fun v hv => by simp at hv, .inl ⟨rfl, rfl, 0, hb0⟩⟩
  have hbel0 : Hid (Below w.heap.size w (w.alloc (Obj.cells #[.slice none 0 0, .int .i64 0, .int .i8 0] 30))) := (Below.refl _ _).alloc (Nat.le_refl _) _
  have CW := write_any w.heap.size a n c cs _ hbuf hn h1 (by omega) (fun h0 => by
    obtain ⟨x, rfl, hx, hc⟩ := hsrc h0
    refine ⟨x, rfl, by omega, fun j v hv => ?_⟩
    refine (hbel0.out.cell (p := x.add j) ?_).trans (hc j v hv)
    unfold Addr.add
    split <;> exact hx)
  clear hb0 hbuf hsrc
  go_enter Tryd.func6, Tryd.ntmps6
  go_wp2_with fail
  refine CW.mono ?_
  rintro e w1 ⟨⟨v, rfl⟩, ⟨row, hb1, hr1⟩, hbel1⟩
  clear CW
  have HCl := cl_start hb1 hr1
  have hs1 : w.heap.size ≤ w1.heap.size := by have := hbel1.size; simp at this; omega
  have CA := writeArr _ _ _ _ _ _ cs k _ _ _ _ HCl hk (by omega) (by simp; omega)
  have HB1 : Hid (Below w.heap.size w (((w1.alloc (.cells #[.slice none 0 0] 24)).alloc (.cells #[.slice none 0 0] 24)).alloc (.cells #[.slice none 0 0] 22))) := (((hbel0.out.trans hbel1).alloc hs1 _).alloc (by simp; omega) _).alloc (by simp; omega) _
  clear HCl hb1 hr1 hbel1 hbel0
  go_wp2_with fail
  refine CA.mono ?_
  rintro e w2 ⟨⟨v2, rfl⟩, hS, hbel2⟩
  clear CA
  have HB2 : Hid (Below w.heap.size w w2) := HB1.out.trans hbel2
  clear HB1 hbel2
  obtain ⟨g, cap, ai, ci, aa, ca, al, cl, hlc, hcm, c0, c1, cI, cA, cL, r0, ri, ra, rl⟩ := hS.cells
  have HR : Hid (Row w2 (some ⟨g, 0, none⟩) (outF cs k.toNat) ∧ Row w2 ai (xiAt k.toNat) ∧ Row w2 aa (xaAt n k.toNat) ∧ Row w2 al (xlAt k.toNat)) := ⟨r0, ri, hn ▸ ra, rl⟩
  clear r0 ri ra rl hS
  rw [xi_len] at cI
  rw [xa_len] at cA
  rw [xl_len] at cL
  obtain ⟨ol, hol⟩ : ∃ ol, (outAt cs k.toNat ++ [Value.int .u8 93]).length = ol := ⟨_, rfl⟩
  have HOL : Hid ((outF cs k.toNat).length = ol) := hol
  rw [hol] at c0 hlc
  clear hol
  go_wp2_with fail
  go_quiet (first | (go_at_call 12; exact Calls.quiet_of (bytes_q _ _ _ _ _ c0 c1 hcm hlc)))
  go_wp2
  (try simp only [Exit.inBlock, Exit.then])
  refine bodyPost_ret (results_tmp4 rfl _ _ _) rfl ?_
  have e1 : (outF cs k.toNat).length = ol := HOL.out
  rw [e1]
  refine ⟨g, cap, ai, ci, aa, ca, al, cl, rfl, hlc, ?_, ?_, ?_, ?_, HB2.out.trans ⟨rfl, rfl, rfl, Nat.le_refl _, fun _ _ => rfl⟩⟩
  · exact HR.out.1
  · exact HR.out.2.1
  · exact HR.out.2.2.1
  · exact HR.out.2.2.2
end Go.Proofs.Qxb6605697aDoor
