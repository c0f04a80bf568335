import Derived.Test.Qxb6605697aDoorCl
import Derived.Deep.RegionLaw
import Derived.Deep.DeepCutAuto
import Derived.Shelf.RegionOpenPlain
namespace Go.Proofs.Qxb6605697aDoor
open Go.RowKit
set_option linter.unusedVariables false

theorem Buf.last {w : World} {b g cap : Nat} {bs : List Value} {c : Value} (h : Buf w b (some (g, cap)) (bs ++ [c])) : w.cell? ⟨g, bs.length, none⟩ = some c := by
  rcases h.at' with ⟨r0, _⟩ | ⟨g', cap', lr, cur, e, r1, r2, r3, r4, r5, r6, r7, r8⟩
  · cases r0
  · cases e
    rw [Lib.cell_of_heap r2]
    have := congrArg (·[bs.length]?) r6
    simp only [List.length_append, List.length_singleton] at this
    rw [List.getElem?_take_of_lt (by omega)] at this
    simpa using this

theorem cell_box {w : World} {k : Nat} {v : Value} {t : TypeId} (h : w.heap[k]? = some (.cells #[v] t (0, 0))) : w.cell? ⟨k, 0, none⟩ = some v ∧ w.frozen? ⟨k, 0, none⟩ = false :=
  ⟨by rw [Lib.cell_of_heap h]; rfl, Lib.frozen_of_heap h 0⟩

theorem App.box {w w2 : World} {B e g cap k t : Nat} {v u x : Value} {xs : List Value} (h : App w w2 B e v xs g cap x) (ho : w.ownsRow B e 1 v xs.length xs) (hk : w.heap[k]? = some (.cells #[u] t (0, 0))) (ht : t ≠ e) : w2.cell? ⟨k, 0, none⟩ = some u ∧ w2.frozen? ⟨k, 0, none⟩ = false := by
  refine cell_box ((h.kept k (Lib.lt_of_heap hk) (fun e2 => ?_)).trans hk)
  obtain ⟨c, hc⟩ := own_tag ho e2.symm
  exact tag_ne hk hc ht rfl

set_option maxRecDepth 100000 in
set_option maxHeartbeats 2000000 in
/-- THE CLOSURE. -/
theorem closure (B b I A L g cap : Nat) (bs0 : List Value) (cc i : Int) (vi va vl : Value) (xi xa xl : List Value) (w : World) (h : Cl w B b I A L (some (g, cap)) (bs0 ++ [.int .u8 cc]) vi va vl xi xa xl)
    (hni : xi.length ≤ 1048576) (hna : xa.length ≤ 1048576) (hnl : xl.length ≤ 1048576) (hbs : bs0.length ≤ 4194304) (hB : B ≤ w.heap.size) :
    Calls Tryd.prog 10 #[.int .i64 i, .pointer (some ⟨I, 0, none⟩), .pointer (some ⟨A, 0, none⟩), .pointer (some ⟨b, 0, none⟩), .pointer (some ⟨L, 0, none⟩)] w fun e w' => (∃ v, e = .returned v) ∧
      (∃ vi' va' vl', Cl w' B b I A L (some (g, cap)) (bs0 ++ [.int .u8 cc]) vi' va' vl' (xi ++ [.int .i64 i]) (xa ++ [.int .i64 (bs0.length + 1)]) (xl ++ [.int .u8 cc])) ∧ Below B w w' := by
  have H : Hid (Cl w B b I A L (some (g, cap)) (bs0 ++ [.int .u8 cc]) vi va vl xi xa xl) := h
  obtain ⟨cI, fI⟩ := cell_box h.hI
  clear h
  go_enter Tryd.func10, Tryd.ntmps10
  go_wp2_with (at_builtin; refine wpList_app w rfl (.tmp 8) (.tmp 10) 24 rfl B 3 (.int .i64 0) 8 Tryd.underlying24 i3 rfl (by decide) vi (.int .i64 i) xi rfl H.out.oi rfl rfl hni hB ?_; intro g1 c1 w1 happ; have HA1 : Hid (App w w1 B 3 vi xi g1 c1 (.int .i64 i)) := happ; obtain ⟨dI, eI⟩ := happ.box H.out.oi H.out.hI (by decide); clear happ)
  have HC1 : Hid (Cl (w1.setCell ⟨I, 0, none⟩ (.slice (some ⟨g1, 0, none⟩) (xi.length + 1) c1)) B b I A L (some (g, cap)) (bs0 ++ [.int .u8 cc]) (.slice (some ⟨g1, 0, none⟩) (xi.length + 1) c1) va vl (xi ++ [.int .i64 i]) xa xl ∧ Below B w (w1.setCell ⟨I, 0, none⟩ (.slice (some ⟨g1, 0, none⟩) (xi.length + 1) c1))) :=
    ⟨H.out.setI HA1.out.kept HA1.out.place HA1.out.own, HA1.out.below.setCell (p := ⟨I, 0, none⟩) H.out.BI _⟩
  obtain ⟨W1, hW1⟩ : ∃ W1, w1.setCell ⟨I, 0, none⟩ (.slice (some ⟨g1, 0, none⟩) (xi.length + 1) c1) = W1 := ⟨_, rfl⟩
  rw [hW1]
  rw [hW1] at HC1
  clear hW1 HA1 dI eI cI fI H
  obtain ⟨cA, fA⟩ := cell_box HC1.out.1.hA
  have hB1 : B ≤ W1.heap.size := Nat.le_trans hB HC1.out.2.size
  go_cut [15] (fun s15 wx => ∃ va', Hid (Cl wx B b I A L (some (g, cap)) (bs0 ++ [.int .u8 cc]) (.slice (some ⟨g1, 0, none⟩) (xi.length + 1) c1) va' vl (xi ++ [.int .i64 i]) (xa ++ [.int .i64 (bs0.length + 1)]) xl ∧ Below B w wx))
  case first =>
    go_region_law (first
      | (refine step_app w2 rfl (.tmp 12) (.tmp 14) 24 rfl B 3 (.int .i64 0) 8 Tryd.underlying24 i3 rfl (by decide) va (.int .i64 (bs0.length + 1)) xa (by simp [Act.eval]) HC2.out.1.oa (by simp [Act.eval]) rfl hna hB2 ?_
         intro g3 c3 w3 happ
         have HA3 : Hid (App w2 w3 B 3 va xa g3 c3 (.int .i64 (bs0.length + 1))) := happ
         obtain ⟨dA, eA⟩ := happ.box HC2.out.1.oa HC2.out.1.hA (by decide)
         clear happ)
      | (go_simp
         go_at_call 11
         refine (len_any b _ _ _ (HC1.out.1.keep (w' := W1.drew) (fun k _ => rfl)).buf).mono ?_
         rintro e w2 ⟨rfl, q, hq⟩
         have HC2 : Hid (Cl w2 B b I A L (some (g, cap)) (bs0 ++ [.int .u8 cc]) (.slice (some ⟨g1, 0, none⟩) (xi.length + 1) c1) va vl (xi ++ [.int .i64 i]) xa xl ∧ Below B w w2) := by
           rw [hq]
           exact ⟨HC1.out.1.keep (fun k _ => rfl), HC1.out.2.trans ⟨rfl, rfl, rfl, Nat.le_refl _, fun _ _ => rfl⟩⟩
         clear hq
         obtain ⟨cA2, fA2⟩ := cell_box HC2.out.1.hA
         have hB2 : B ≤ w2.heap.size := Nat.le_trans hB HC2.out.2.size
         obtain ⟨cA3, fA3⟩ := cell_box (HC2.out.1.keep (w' := w2.alloc (.cells #[.int .i64 (bs0.length + 1)] 3)) (fun k hk => Below.heap_alloc _ _ _ hk)).hA
         rw [List.length_append, List.length_singleton]))
    all_goals
      go_wp2_with fail
      go_meet
      exact ⟨_, HC2.out.1.setA HA3.out.kept HA3.out.place HA3.out.own, (HC2.out.2.trans HA3.out.below).setCell (p := ⟨A, 0, none⟩) HC2.out.1.BA _⟩
  case rest =>
    clear cA fA HC1 hB1
    obtain ⟨va', H⟩ := hcut
    have CL := len_any b _ _ _ H.out.1.buf
    go_wp2_with fail
    refine CL.mono ?_
    rintro e w3 ⟨rfl, q, hq⟩
    clear CL
    have H3 : Hid (Cl w3 B b I A L (some (g, cap)) (bs0 ++ [.int .u8 cc]) (.slice (some ⟨g1, 0, none⟩) (xi.length + 1) c1) va' vl (xi ++ [.int .i64 i]) (xa ++ [.int .i64 (bs0.length + 1)]) xl ∧ Below B w w3) := by
      rw [hq]
      exact ⟨H.out.1.keep (fun k _ => rfl), H.out.2.trans ⟨rfl, rfl, rfl, Nat.le_refl _, fun _ _ => rfl⟩⟩
    clear hq H
    rw [List.length_append, List.length_singleton]
    have CB := bytes_any b g cap _ _ H3.out.1.buf
    go_wp2_with fail
    refine CB.mono ?_
    rintro e w4 ⟨c4, rfl, hc4, q, hq⟩
    clear CB
    have H4 : Hid (Cl w4 B b I A L (some (g, cap)) (bs0 ++ [.int .u8 cc]) (.slice (some ⟨g1, 0, none⟩) (xi.length + 1) c1) va' vl (xi ++ [.int .i64 i]) (xa ++ [.int .i64 (bs0.length + 1)]) xl ∧ Below B w w4) := by
      rw [hq]
      exact ⟨H3.out.1.keep (fun k _ => rfl), H3.out.2.trans ⟨rfl, rfl, rfl, Nat.le_refl _, fun _ _ => rfl⟩⟩
    clear hq H3
    rw [List.length_append, List.length_singleton] at hc4 ⊢
    have hlast := H4.out.1.buf.last
    obtain ⟨cL, fL⟩ := cell_box H4.out.1.hL
    have hB4 : B ≤ w4.heap.size := Nat.le_trans hB H4.out.2.size
    go_wp2_with (at_builtin; refine wpList_app w4 rfl (.tmp 24) (.tmp 26) 22 rfl B 5 (.int .u8 0) 1 Tryd.underlying22 i5 rfl (by decide) vl (.int .u8 cc) xl rfl H4.out.1.ol rfl rfl hnl hB4 ?_; intro g5 c5 w5 happ; have HA5 : Hid (App w4 w5 B 5 vl xl g5 c5 (.int .u8 cc)) := happ; obtain ⟨dL, eL⟩ := happ.box H4.out.1.ol H4.out.1.hL (by decide); clear happ)
    go_end0
    exact ⟨⟨_, rfl⟩, ⟨_, _, _, H4.out.1.setL HA5.out.kept HA5.out.place HA5.out.own⟩, (H4.out.2.trans HA5.out.below).setCell (p := ⟨L, 0, none⟩) H4.out.1.BL _⟩
end Go.Proofs.Qxb6605697aDoor
